import JvmDerived
import JvmDerived.Pilot.@@N@@Statement
import JvmDerived.Pilot.@@N@@Code
set_option linter.unusedVariables false
set_option linter.unusedSimpArgs false
namespace Jvm.RoadKit
open Sem ClassFile Op Lib Jvm.Stand Jvm.Free Jvm.LawKit
section New
variable {p : Program} {l : Launch} {e : Env} {R : Room} {s : State} {m : MethodId} {args : Array Value} {below : List Frame} {meth : Method} {c : Code} {T : State} {locs : List Loc} {cells slots : Nat}
theorem retI (X : Stand p l e R s m args below meth c T locs cells slots) (hx : p.tables.exec = Jvm.exec) {pc : Nat} {Ls : Array Slot} {z : Int32} {rest : List Value} (hret : meth.sig.returnType = some .int) (hd : decode c.code pc = .ok (.ireturn, 1)) {fs : List Frame}
    (hl : ∀ (f : JFrame) (acts : List Action), f.method = m → f.locked = none → f.entered = [] → (doReturn e (T.setTop f) acts (some (.int z))).1 = T.setFrames fs) : Steps p.tables e below (T.setTop (mkF m pc Ls (.int z :: rest))) (T.setFrames fs) := by
  have hm' : T.vm.method? m = some meth := X.method'
  have hn : narrow .int (.int z) = .int z := rfl
  show Steps p.tables e below (T.setTop { method := m, pc := pc, locals := Ls, stack := _ :: rest, locked := none }) _
  jvm_step X.here [X.here.top, hx, hd, hm', hret, hn]
  first | (intro acts; rw [hl _ acts rfl rfl rfl]) | rw [hl _ _ rfl rfl rfl]
  exact Steps.refl _
end New
end Jvm.RoadKit
/- laws to paste: Road.backV, Road.eqW, Road.codOf (cut by pick.py; bodies as the Statement names them) -/
namespace Jvm.Pilot.@@N@@
namespace StrChars
open Jvm Sem ClassFile Op Lib Jvm.Stand Jvm.Free.XT Jvm.Free.ALB Jvm.Free.JM Jvm.Free
open Jvm.Lib.Cold (StaticIs)
/-- a char array whose places are chars -/
def Ch (a : Addr) (A : Cell) (U : State) : Prop := Arr .char a A U ∧ Typed .char A
theorem Ch.mv {a : Addr} {A : Cell} {U U' : State} (h : Ch a A U) (hal : U.vm.Alike U'.vm) (hh : U'.heap = U.heap) : Ch a A U' := ⟨h.1.mv hal hh, h.2⟩
theorem Ch.keep {a : Addr} {A : Cell} {U U' : State} (h : Ch a A U) (hal : U.vm.Alike U'.vm) (hk : U'.heap[a]? = some A) : Ch a A U' := ⟨h.1.keep hal hk, h.2⟩
/-- what place i of a char[]'s cell holds -/
def cv (A : Cell) (i : Nat) : Int32 := match A.slots[i]? with | some (.int x) => x | _ => 0
theorem Ch.get {a : Addr} {A : Cell} {U : State} (h : Ch a A U) {i : Nat} (hi : i < A.slots.size) : A.slots[i]? = some (.int (cv A i)) := by
  have e := Array.getElem?_eq_getElem hi
  have f := h.2 i _ e
  unfold cv; rw [e]
  generalize A.slots[i] = v at f
  cases v <;> simp [fits] at f ⊢
/-- the byte that i2b leaves of a char -/
def lo8 (x : Int32) : Int32 := x.toInt8.toInt32
theorem fits_lo8 (y : Int32) : fits .byte (.int (lo8 y)) = true := by
  have h1 := y.toInt8.le_toInt
  have h2 := y.toInt8.toInt_lt
  simp only [lo8, fits, Bool.and_eq_true, decide_eq_true_eq, Int32.le_iff_toInt_le, Int8.toInt_toInt32, show (-128 : Int32).toInt = -128 from by decide, show (127 : Int32).toInt = 127 from by decide]
  omega
/-- A' is A but that each place j of lo .. hi - 1 holds f j -/
def Laid (A A' : Cell) (lo hi : Nat) (f : Nat → Value) : Prop := A'.cls = A.cls ∧ A'.vm = A.vm ∧ A'.slots.size = A.slots.size ∧ ∀ i, A'.slots[i]? = if lo ≤ i ∧ i < hi then some (f i) else A.slots[i]?
theorem Laid.zero (A : Cell) (lo : Nat) (f : Nat → Value) : Laid A A lo (lo + 0) f := ⟨rfl, rfl, rfl, fun i => by rw [if_neg (by omega)]⟩
theorem Laid.step {A Ak : Cell} {lo k : Nat} {f : Nat → Value} {v : Value} (h : Laid A Ak lo k f) (hlo : lo ≤ k) (hk : k < Ak.slots.size) (hv : v = f k) : Laid A (Ak.setSlot k v) lo (k + 1) f := by
  refine ⟨h.1, h.2.1, by simpa [Cell.setSlot] using h.2.2.1, fun i => ?_⟩
  by_cases e : k = i
  · subst e; rw [Cell.slots_setSlot_self v hk, if_pos (by omega), hv]
  · rw [Cell.slots_setSlot_ne v e, h.2.2.2 i]
    by_cases q : lo ≤ i ∧ i < k
    · rw [if_pos q, if_pos (by omega)]
    · rw [if_neg q, if_neg (by omega)]
def U16 : String := "java/lang/StringUTF16"
namespace Cmp5
def yN : MethodName := ⟨"java/lang/StringUTF16", "compress", "([CI[BII)I"⟩
abbrev yB : ByteArray := jdk_52_method_21_code
theorem d0 : decode yB 0 = .ok (.iconst 0, 1) := by decide +kernel
theorem d1 : decode yB 1 = .ok (.istore 5, 2) := by decide +kernel
theorem d3 : decode yB 3 = .ok (.iload 5, 2) := by decide +kernel
theorem d5 : decode yB 5 = .ok (.iload 4, 2) := by decide +kernel
theorem d7 : decode yB 7 = .ok (.if_icmp (.ge) 37, 3) := by decide +kernel
theorem d10 : decode yB 10 = .ok (.aload_n 0, 1) := by decide +kernel
theorem d11 : decode yB 11 = .ok (.iload_n 1, 1) := by decide +kernel
theorem d12 : decode yB 12 = .ok (.caload, 1) := by decide +kernel
theorem d13 : decode yB 13 = .ok (.istore 6, 2) := by decide +kernel
theorem d15 : decode yB 15 = .ok (.iload 6, 2) := by decide +kernel
theorem d17 : decode yB 17 = .ok (.sipush 255, 3) := by decide +kernel
theorem d20 : decode yB 20 = .ok (.if_icmp (.le) 6, 3) := by decide +kernel
theorem d26 : decode yB 26 = .ok (.aload_n 2, 1) := by decide +kernel
theorem d27 : decode yB 27 = .ok (.iload_n 3, 1) := by decide +kernel
theorem d28 : decode yB 28 = .ok (.iload 6, 2) := by decide +kernel
theorem d30 : decode yB 30 = .ok (.i2b, 1) := by decide +kernel
theorem d31 : decode yB 31 = .ok (.bastore, 1) := by decide +kernel
theorem d32 : decode yB 32 = .ok (.iinc 1 1, 3) := by decide +kernel
theorem d35 : decode yB 35 = .ok (.iinc 3 1, 3) := by decide +kernel
theorem d38 : decode yB 38 = .ok (.iinc 5 1, 3) := by decide +kernel
theorem d41 : decode yB 41 = .ok (.goto (-38), 3) := by decide +kernel
theorem d44 : decode yB 44 = .ok (.iload 4, 2) := by decide +kernel
theorem d46 : decode yB 46 = .ok (.ireturn, 1) := by decide +kernel
def site : List Cond := []
def tab : Cond := tabOf yN yB 7 (some .int) site
def P (b : Addr) (A : Cell) (d : Addr) (B : Cell) (o q len : Nat) (args : Array Value) (s : State) : Prop := args = #[.ref b, .int (Int32.ofNat o), .ref d, .int (Int32.ofNat q), .int (Int32.ofNat len)] ∧ Ch b A s ∧ Arr .byte d B s ∧ b ≠ d ∧ o + len ≤ A.slots.size ∧ q + len ≤ B.slots.size ∧ ∀ i, i < len → ¬ 255 < cv A (o + i)
def E (b : Addr) (A : Cell) (d : Addr) (B : Cell) (o q len : Nat) (r : Option Value) (s u : State) : Prop := r = some (.int (Int32.ofNat len)) ∧ ∃ B', Put d B' s u ∧ Laid B B' q (q + len) (fun j => Value.int (lo8 (cv A (o + (j - q)))))
/-- no char of the range above 255: len; the places written hold each char's low byte -/
theorem law (l : Launch) (b : Addr) (A : Cell) (d : Addr) (B : Cell) (o q len : Nat) : Law l yN 5 5 0 0 yB 7 (some .int) site (P b A d B o q len) (E b A d B o q len) (copyLocs d q len) 0 0 := by
  refine Law.of_walk (plainFor_of_name (by decide +kernel)) (by decide +kernel) (by decide +kernel) (by decide) (fun _ _ h => by rw [h.1]; rfl) (fun _ U U' hal hh h => ⟨h.1, h.2.1.mv hal hh, h.2.2.1.mv hal hh, h.2.2.2⟩) (fun r U U' V V' h1 hal h2 h => ⟨h.1, h.2.elim fun B' q => ⟨B', q.1.mv h1 h2, q.2⟩⟩) ?_
  intro p e s m args below meth c s₁ X0 hexec hbytes hml hret hlk hnm hown hh0 W hP
  obtain ⟨rfl, hA, hB, hne, l1, l2, hp⟩ := hP
  have c1 : Steps p.tables e below (s₁.setTop (entryFrame m #[.ref b, .int (Int32.ofNat o), .ref d, .int (Int32.ofNat q), .int (Int32.ofNat len)] 7)) (s₁.setTop (mkF m 0 #[.val (.ref b), .val (.int (Int32.ofNat o)), .val (.ref d), .val (.int (Int32.ofNat q)), .val (.int (Int32.ofNat len)), .unset, .unset] [])) := entry rfl
  have hA0 := hA.1.mv X0.warmed.alike hh0
  have hB0 := hB.mv X0.warmed.alike hh0
  have a31 := hA.1.2.2.2
  have c2 : Steps p.tables e below (s₁.setTop (entryFrame m #[.ref b, .int (Int32.ofNat o), .ref d, .int (Int32.ofNat q), .int (Int32.ofNat len)] 7)) (s₁.setTop (mkF m 3 #[.val (.ref b), .val (.int (Int32.ofNat o)), .val (.ref d), .val (.int (Int32.ofNat q)), .val (.int (Int32.ofNat len)), .val (.int 0), .unset] [])) := c1.trans (by
    refine iconstV X0.here hexec rfl 0 (hb hbytes d0) (by decide) ?_
    refine XS.istore X0.here hexec rfl (hb hbytes d1) rfl rfl ?_
    exact Steps.refl _)
  have loop : ∀ (r i : Nat), i + r = len → ∀ (z : Slot), (z = .unset ∨ ∃ w, z = .val w ∧ w.category = 1) → ∀ (Tl : State) (Bk : Cell), Stand p l e { frames := 0, locals := 0, cells := 0, slots := 0 } s m #[.ref b, .int (Int32.ofNat o), .ref d, .int (Int32.ofNat q), .int (Int32.ofNat len)] below meth c Tl ([] ++ copyLocs d q i) 0 0 → Put d Bk s₁ Tl → Laid B Bk q (q + i) (fun j => Value.int (lo8 (cv A (o + (j - q))))) →
      Steps p.tables e below (s₁.setTop (entryFrame m #[.ref b, .int (Int32.ofNat o), .ref d, .int (Int32.ofNat q), .int (Int32.ofNat len)] 7)) (Tl.setTop (mkF m 3 #[.val (.ref b), .val (.int (Int32.ofNat (o + i))), .val (.ref d), .val (.int (Int32.ofNat (q + i))), .val (.int (Int32.ofNat len)), .val (.int (Int32.ofNat i)), z] [])) → ∃ (T' : State) (B' : Cell) (z' : Slot), Stand p l e { frames := 0, locals := 0, cells := 0, slots := 0 } s m #[.ref b, .int (Int32.ofNat o), .ref d, .int (Int32.ofNat q), .int (Int32.ofNat len)] below meth c T' ([] ++ copyLocs d q len) 0 0 ∧ Put d B' s₁ T' ∧ Laid B B' q (q + len) (fun j => Value.int (lo8 (cv A (o + (j - q))))) ∧
      Steps p.tables e below (s₁.setTop (entryFrame m #[.ref b, .int (Int32.ofNat o), .ref d, .int (Int32.ofNat q), .int (Int32.ofNat len)] 7)) (T'.setTop (mkF m 3 #[.val (.ref b), .val (.int (Int32.ofNat (o + len))), .val (.ref d), .val (.int (Int32.ofNat (q + len))), .val (.int (Int32.ofNat len)), .val (.int (Int32.ofNat len)), z'] [])) := by
    intro r
    induction r with
    | zero =>
      intro i hi z hz Tl Bk Xl pl fl cl
      have hil : i = len := by omega
      rw [hil] at Xl fl cl
      exact ⟨Tl, Bk, z, Xl, pl, fl, cl⟩
    | succ r ih =>
      intro i hi z hz Tl Bk Xl pl fl cl
      have all := X0.warmed.alike.symm.trans Xl.warmed.alike
      have hAl := hA0.keep all (pl.other hne hA0.1)
      have hBk := hB0.like all pl.1 fl.1 fl.2.1 fl.2.2.1
      have hlt : q + i < Bk.slots.size := by rw [fl.2.2.1]; omega
      have c3 : Steps p.tables e below (s₁.setTop (entryFrame m #[.ref b, .int (Int32.ofNat o), .ref d, .int (Int32.ofNat q), .int (Int32.ofNat len)] 7)) (Tl.setTop (mkF m 12 #[.val (.ref b), .val (.int (Int32.ofNat (o + i))), .val (.ref d), .val (.int (Int32.ofNat (q + i))), .val (.int (Int32.ofNat len)), .val (.int (Int32.ofNat i)), z] [.int (Int32.ofNat (o + i)), .ref b])) := cl.trans (by
        refine XS.iload Xl.here hexec rfl (hb hbytes d3) rfl ?_
        refine XS.iload Xl.here hexec rfl (hb hbytes d5) rfl ?_
        refine XS.icmpNo Xl.here hexec rfl (hb hbytes d7) rfl (ii_ge_f (lt32 (by omega) (by omega))) ?_
        refine XS.aloadN Xl.here hexec rfl (hb hbytes d10) rfl rfl ?_
        refine XS.iloadN Xl.here hexec rfl (hb hbytes d11) rfl ?_
        exact Steps.refl _)
      have c4 : Steps p.tables e below (s₁.setTop (entryFrame m #[.ref b, .int (Int32.ofNat o), .ref d, .int (Int32.ofNat q), .int (Int32.ofNat len)] 7)) (Tl.setTop (mkF m 13 #[.val (.ref b), .val (.int (Int32.ofNat (o + i))), .val (.ref d), .val (.int (Int32.ofNat (q + i))), .val (.int (Int32.ofNat len)), .val (.int (Int32.ofNat i)), z] [.int (cv A (o + i))])) := c3.trans (by
        refine Xl.aget hexec hAl rfl (hA.get (i := o + i) (by omega)) rfl rfl (hb hbytes d12) ?_
        exact Steps.refl _)
      have c5 : Steps p.tables e below (s₁.setTop (entryFrame m #[.ref b, .int (Int32.ofNat o), .ref d, .int (Int32.ofNat q), .int (Int32.ofNat len)] 7)) (Tl.setTop (mkF m 15 #[.val (.ref b), .val (.int (Int32.ofNat (o + i))), .val (.ref d), .val (.int (Int32.ofNat (q + i))), .val (.int (Int32.ofNat len)), .val (.int (Int32.ofNat i)), .val (.int (cv A (o + i)))] [])) := c4.trans (by
        refine XS.istoreS Xl.here hexec rfl (hb hbytes d13) rfl rfl hz ?_
        exact Steps.refl _)
      have c6 : Steps p.tables e below (s₁.setTop (entryFrame m #[.ref b, .int (Int32.ofNat o), .ref d, .int (Int32.ofNat q), .int (Int32.ofNat len)] 7)) (Tl.setTop (mkF m 31 #[.val (.ref b), .val (.int (Int32.ofNat (o + i))), .val (.ref d), .val (.int (Int32.ofNat (q + i))), .val (.int (Int32.ofNat len)), .val (.int (Int32.ofNat i)), .val (.int (cv A (o + i)))] [.int (lo8 (cv A (o + i))), .int (Int32.ofNat (q + i)), .ref d])) := c5.trans (by
        refine XS.iload Xl.here hexec rfl (hb hbytes d15) rfl ?_
        refine sipushV Xl.here hexec rfl 255 (hb hbytes d17) (by decide) ?_
        refine XS.icmpYes Xl.here hexec rfl (pc0 := 20) rfl (hb hbytes d20) rfl (ii_le_t (hp i (by omega))) (by decide) rfl ?_
        refine XS.aloadN Xl.here hexec rfl (hb hbytes d26) rfl rfl ?_
        refine XS.iloadN Xl.here hexec rfl (hb hbytes d27) rfl ?_
        refine XS.iload Xl.here hexec rfl (hb hbytes d28) rfl ?_
        refine i2b Xl.here hexec rfl (hb hbytes d30) rfl ?_
        exact Steps.refl _)
      obtain ⟨T7, X7, p7, st7⟩ := Xl.aput hexec hBk rfl hlt rfl (fits_lo8 (cv A (o + i))) (g := (mkF m 31 #[.val (.ref b), .val (.int (Int32.ofNat (o + i))), .val (.ref d), .val (.int (Int32.ofNat (q + i))), .val (.int (Int32.ofNat len)), .val (.int (Int32.ofNat i)), .val (.int (cv A (o + i)))] [.int (lo8 (cv A (o + i))), .int (Int32.ofNat (q + i)), .ref d])) rfl (rest := []) rfl (hb hbytes d31)
      have c8 : Steps p.tables e below (s₁.setTop (entryFrame m #[.ref b, .int (Int32.ofNat o), .ref d, .int (Int32.ofNat q), .int (Int32.ofNat len)] 7)) (T7.setTop (mkF m 32 #[.val (.ref b), .val (.int (Int32.ofNat (o + i))), .val (.ref d), .val (.int (Int32.ofNat (q + i))), .val (.int (Int32.ofNat len)), .val (.int (Int32.ofNat i)), .val (.int (cv A (o + i)))] [])) := c6.trans (st7 _ (Steps.refl _))
      have c9 : Steps p.tables e below (s₁.setTop (entryFrame m #[.ref b, .int (Int32.ofNat o), .ref d, .int (Int32.ofNat q), .int (Int32.ofNat len)] 7)) (T7.setTop (mkF m 3 #[.val (.ref b), .val (.int (Int32.ofNat (o + i) + 1)), .val (.ref d), .val (.int (Int32.ofNat (q + i) + 1)), .val (.int (Int32.ofNat len)), .val (.int (Int32.ofNat i + 1)), .val (.int (cv A (o + i)))] [])) := c8.trans (by
        refine iincV X7.here hexec rfl 1 (hb hbytes d32) (by decide) rfl rfl ?_
        refine iincV X7.here hexec rfl 1 (hb hbytes d35) (by decide) rfl rfl ?_
        refine iincV X7.here hexec rfl 1 (hb hbytes d38) (by decide) rfl rfl ?_
        refine XS.goto X7.here hexec rfl (pc0 := 41) rfl (hb hbytes d41) (by decide) rfl ?_
        exact Steps.refl _)
      have c10 : Steps p.tables e below (s₁.setTop (entryFrame m #[.ref b, .int (Int32.ofNat o), .ref d, .int (Int32.ofNat q), .int (Int32.ofNat len)] 7)) (T7.setTop (mkF m 3 #[.val (.ref b), .val (.int (Int32.ofNat (o + (i + 1)))), .val (.ref d), .val (.int (Int32.ofNat (q + (i + 1)))), .val (.int (Int32.ofNat len)), .val (.int (Int32.ofNat (i + 1))), .val (.int (cv A (o + i)))] [])) := by
        have := c9
        rw [succ32, succ32, succ32] at this
        exact this
      exact ih (i + 1) (by omega) _ (Or.inr ⟨_, rfl, rfl⟩) T7 _ (by rw [copyLocs_step, ← List.append_assoc]; exact X7) (pl.trans p7) (fl.step (by omega) hlt (by simp)) c10
  obtain ⟨T9, B9, z9, X9, p9, f9, g9⟩ := loop len 0 (by omega) .unset (Or.inl rfl) s₁ B (by simpa [copyLocs] using X0) ⟨hB0.1, fun _ _ => rfl, rfl⟩ (Laid.zero _ _ _) c2
  have c11 : Steps p.tables e below (s₁.setTop (entryFrame m #[.ref b, .int (Int32.ofNat o), .ref d, .int (Int32.ofNat q), .int (Int32.ofNat len)] 7)) (T9.setTop (mkF m 46 #[.val (.ref b), .val (.int (Int32.ofNat (o + len))), .val (.ref d), .val (.int (Int32.ofNat (q + len))), .val (.int (Int32.ofNat len)), .val (.int (Int32.ofNat len)), z9] [.int (Int32.ofNat len)])) := g9.trans (by
    refine XS.iload X9.here hexec rfl (hb hbytes d3) rfl ?_
    refine XS.iload X9.here hexec rfl (hb hbytes d5) rfl ?_
    refine XS.icmpYes X9.here hexec rfl (pc0 := 7) rfl (hb hbytes d7) rfl (ii_ge_t (nlt32 (by omega) (Nat.le_refl _))) (by decide) rfl ?_
    refine XS.iload X9.here hexec rfl (hb hbytes d44) rfl ?_
    exact Steps.refl _)
  exact ⟨T9, some (.int (Int32.ofNat len)), _, _, _, X9, by simp, rfl, rfl, (fun h => by cases h), ⟨rfl, B9, p9.from hh0, f9⟩, fun fs hl => c11.trans (X9.ireturnOut hexec hret rfl (Or.inl rfl) (hb hbytes d46) hl)⟩
end Cmp5
namespace Cmp3
def yN : MethodName := ⟨"java/lang/StringUTF16", "compress", "([CII)[B"⟩
abbrev yB : ByteArray := jdk_52_method_16_code
theorem d0 : decode yB 0 = .ok (.iload_n 2, 1) := by decide +kernel
theorem d1 : decode yB 1 = .ok (.newarray .byte, 2) := by decide +kernel
theorem d3 : decode yB 3 = .ok (.astore_n 3, 1) := by decide +kernel
theorem d4 : decode yB 4 = .ok (.aload_n 0, 1) := by decide +kernel
theorem d5 : decode yB 5 = .ok (.iload_n 1, 1) := by decide +kernel
theorem d6 : decode yB 6 = .ok (.aload_n 3, 1) := by decide +kernel
theorem d7 : decode yB 7 = .ok (.iconst 0, 1) := by decide +kernel
theorem d8 : decode yB 8 = .ok (.iload_n 2, 1) := by decide +kernel
theorem d9 : decode yB 9 = .ok (.invokestatic 115, 3) := by decide +kernel
theorem d12 : decode yB 12 = .ok (.istore 4, 2) := by decide +kernel
theorem d14 : decode yB 14 = .ok (.iload 4, 2) := by decide +kernel
theorem d16 : decode yB 16 = .ok (.iload_n 2, 1) := by decide +kernel
theorem d17 : decode yB 17 = .ok (.if_icmp (.eq) 40, 3) := by decide +kernel
theorem d57 : decode yB 57 = .ok (.aload_n 3, 1) := by decide +kernel
theorem d58 : decode yB 58 = .ok (.areturn, 1) := by decide +kernel
def site : List Cond := [.arrayClass .byte, Cmp5.tab] ++ staticW U16 115 Cmp5.yN
def tab : Cond := tabOf yN yB 6 (some (.array .byte)) site
def P (b : Addr) (A : Cell) (o len : Nat) (args : Array Value) (s : State) : Prop := args = #[.ref b, .int (Int32.ofNat o), .int (Int32.ofNat len)] ∧ Ch b A s ∧ o + len ≤ A.slots.size ∧ len ≤ 536870912 ∧ ∀ i, i < len → ¬ 255 < cv A (o + i)
def E (b : Addr) (A : Cell) (o len : Nat) (r : Option Value) (s u : State) : Prop := NewArr .byte "[B" len (fun j => .int (lo8 (cv A (o + j)))) r s u ∧ u.heap.size = s.heap.size + 1
/-- no char of the range above 255: a new byte[] of their low bytes -/
theorem law (l : Launch) (b : Addr) (A : Cell) (o len : Nat) : Law l yN 3 3 1 18 yB 6 (some (.array .byte)) site (P b A o len) (E b A o len) [] 1 len := by
  refine Law.of_walk (plainFor_of_name (by decide +kernel)) (by decide +kernel) (by decide +kernel) (by decide) (fun _ _ h => by rw [h.1]; rfl) (fun _ U U' hal hh h => ⟨h.1, h.2.1.mv hal hh, h.2.2⟩) (fun r U U' V V' h1 hal h2 h => ⟨NewArr.mv r U U' V V' h1 hal h2 h.1, by rw [h1, h2]; exact h.2⟩) ?_
  intro p e s m args below meth c s₁ X0 hexec hbytes hml hret hlk hnm hown hh0 W hP
  obtain ⟨rfl, hA, l1, l2, hp⟩ := hP
  have a31 := hA.1.2.2.2
  have c1 : Steps p.tables e below (s₁.setTop (entryFrame m #[.ref b, .int (Int32.ofNat o), .int (Int32.ofNat len)] 6)) (s₁.setTop (mkF m 0 #[.val (.ref b), .val (.int (Int32.ofNat o)), .val (.int (Int32.ofNat len)), .unset, .unset, .unset] [])) := entry rfl
  have c2 : Steps p.tables e below (s₁.setTop (entryFrame m #[.ref b, .int (Int32.ofNat o), .int (Int32.ofNat len)] 6)) (s₁.setTop (mkF m 1 #[.val (.ref b), .val (.int (Int32.ofNat o)), .val (.int (Int32.ofNat len)), .unset, .unset, .unset] [.int (Int32.ofNat len)])) := c1.trans (by
    refine XS.iloadN X0.here hexec rfl (hb hbytes d0) rfl ?_
    exact Steps.refl _)
  obtain ⟨T3, B3, X3, ba3, bs3, bv3, bh3, bf3, st3⟩ := X0.anew hexec (atype := .byte) (wk W (.arrayClass .byte)) rfl (by show len * 1 ≤ _; omega) (by omega) (g := (mkF m 1 #[.val (.ref b), .val (.int (Int32.ofNat o)), .val (.int (Int32.ofNat len)), .unset, .unset, .unset] [.int (Int32.ofNat len)])) rfl (hb hbytes d1) (rest := []) rfl (Nat.le_refl _) (by show 0 + len ≤ len; omega)
  rw [hh0] at ba3 st3
  have kp3 : XT.Kept s T3 := (XT.Kept.of_eq hh0).push bh3
  have hA3 := hA.keep X3.warmed.alike (kp3 _ _ hA.1.1)
  have hne : b ≠ s.heap.size := hA.1.ne
  have c4 : Steps p.tables e below (s₁.setTop (entryFrame m #[.ref b, .int (Int32.ofNat o), .int (Int32.ofNat len)] 6)) (T3.setTop (mkF m 3 #[.val (.ref b), .val (.int (Int32.ofNat o)), .val (.int (Int32.ofNat len)), .unset, .unset, .unset] [.ref s.heap.size])) := c2.trans (st3 _ (Steps.refl _))
  have c5 : Steps p.tables e below (s₁.setTop (entryFrame m #[.ref b, .int (Int32.ofNat o), .int (Int32.ofNat len)] 6)) (T3.setTop (mkF m 9 #[.val (.ref b), .val (.int (Int32.ofNat o)), .val (.int (Int32.ofNat len)), .val (.ref s.heap.size), .unset, .unset] [.int (Int32.ofNat len), .int 0, .ref s.heap.size, .int (Int32.ofNat o), .ref b])) := c4.trans (by
    refine XS.astoreN X3.here hexec rfl (hb hbytes d3) rfl rfl rfl ?_
    refine XS.aloadN X3.here hexec rfl (hb hbytes d4) rfl rfl ?_
    refine XS.iloadN X3.here hexec rfl (hb hbytes d5) rfl ?_
    refine XS.aloadN X3.here hexec rfl (hb hbytes d6) rfl rfl ?_
    refine iconstV X3.here hexec rfl 0 (hb hbytes d7) (by decide) ?_
    refine XS.iloadN X3.here hexec rfl (hb hbytes d8) rfl ?_
    exact Steps.refl _)
  obtain ⟨v6, T6, X6, E6, g6⟩ := X3.callS hexec (Cmp5.law l b A s.heap.size B3 o 0 len) hown (wks W (staticW U16 115 Cmp5.yN)) (wk W Cmp5.tab) (W := 0) (Nat.le_of_ble_eq_true rfl) (Nat.le_of_ble_eq_true rfl) (Nat.le_refl _) (by show 0 + len + 0 ≤ len; omega) (g := (mkF m 9 #[.val (.ref b), .val (.int (Int32.ofNat o)), .val (.int (Int32.ofNat len)), .val (.ref s.heap.size), .unset, .unset] [.int (Int32.ofNat len), .int (Int32.ofNat 0), .ref s.heap.size, .int (Int32.ofNat o), .ref b])) rfl (by rw [hml]; rfl) c5 (argsL := [.ref b, .int (Int32.ofNat o), .ref s.heap.size, .int (Int32.ofNat 0), .int (Int32.ofNat len)]) (rest := []) rfl rfl (by show 2 * 0 + 0 ≤ _; decide) (hb hbytes d9) (⟨rfl, hA3, ba3, hne, l1, by rw [bs3]; simp, hp⟩)
  obtain ⟨rfl, B6, p6, f6⟩ := E6
  have c7 : Steps p.tables e below (s₁.setTop (entryFrame m #[.ref b, .int (Int32.ofNat o), .int (Int32.ofNat len)] 6)) (T6.setTop (mkF m 12 #[.val (.ref b), .val (.int (Int32.ofNat o)), .val (.int (Int32.ofNat len)), .val (.ref s.heap.size), .unset, .unset] [.int (Int32.ofNat len)])) := g6
  have c8 : Steps p.tables e below (s₁.setTop (entryFrame m #[.ref b, .int (Int32.ofNat o), .int (Int32.ofNat len)] 6)) (T6.setTop (mkF m 58 #[.val (.ref b), .val (.int (Int32.ofNat o)), .val (.int (Int32.ofNat len)), .val (.ref s.heap.size), .val (.int (Int32.ofNat len)), .unset] [.ref s.heap.size])) := c7.trans (by
    refine XS.istore X6.here hexec rfl (hb hbytes d12) rfl rfl ?_
    refine XS.iload X6.here hexec rfl (hb hbytes d14) rfl ?_
    refine XS.iloadN X6.here hexec rfl (hb hbytes d16) rfl ?_
    refine XS.icmpYes X6.here hexec rfl (pc0 := 17) rfl (hb hbytes d17) rfl (ii_eq_t rfl) (by decide) rfl ?_
    refine XS.aloadN X6.here hexec rfl (hb hbytes d57) rfl rfl ?_
    exact Steps.refl _)
  have X8 := X6.wide (L' := []) (cells' := 1) (slots' := len) (fun x hx hlt => by
    simp only [List.nil_append, copyLocs, List.mem_map, List.mem_range] at hx
    obtain ⟨i, -, rfl⟩ := hx
    exact absurd hlt (Nat.lt_irrefl _)) (Nat.le_refl _) (by omega)
  exact ⟨T6, some (.ref s.heap.size), _, _, _, X8, rfl, rfl, rfl, (fun h => by cases h), ⟨⟨rfl, B6, ba3.like (X3.warmed.alike.symm.trans X6.warmed.alike) p6.1 f6.1 f6.2.1 f6.2.2.1, f6.2.1.trans bv3, by rw [X6.warmed.alike.findClass, f6.1]; exact bf3, by rw [f6.2.2.1, bs3]; simp, fun j hj => by rw [f6.2.2.2 j, if_pos (by omega)]; rfl, kp3.put p6 (Nat.le_refl _)⟩, by rw [p6.2.2, bh3, hh0]; simp⟩, fun fs hl => c8.trans (X8.areturnOut hexec rfl hret rfl (hb hbytes d58) hl)⟩
end Cmp3
namespace CodL
def yN : MethodName := ⟨"java/lang/StringUTF16", "coderFromArrayLen", "([BI)B"⟩
abbrev yB : ByteArray := jdk_52_method_15_code
theorem d0 : decode yB 0 = .ok (.iload_n 1, 1) := by decide +kernel
theorem d1 : decode yB 1 = .ok (.aload_n 0, 1) := by decide +kernel
theorem d2 : decode yB 2 = .ok (.arraylength, 1) := by decide +kernel
theorem d3 : decode yB 3 = .ok (.isub, 1) := by decide +kernel
theorem d4 : decode yB 4 = .ok (.bipush 31, 2) := by decide +kernel
theorem d6 : decode yB 6 = .ok (.iushr, 1) := by decide +kernel
theorem d7 : decode yB 7 = .ok (.i2b, 1) := by decide +kernel
theorem d8 : decode yB 8 = .ok (.ireturn, 1) := by decide +kernel
def site : List Cond := []
def tab : Cond := tabOf yN yB 2 (some .byte) site
def P (d : Addr) (B : Cell) (args : Array Value) (s : State) : Prop := args = #[.ref d, .int (Int32.ofNat B.slots.size)] ∧ Arr .byte d B s
def E (r : Option Value) (s u : State) : Prop := XT.PureE (some (.int 0)) r s u
/-- an array as long as the number of chars: LATIN1 -/
theorem law (l : Launch) (d : Addr) (B : Cell) : Law l yN 2 2 0 0 yB 2 (some .byte) site (P d B) E [] 0 0 := by
  refine Law.of_walk (plainFor_of_name (by decide +kernel)) (by decide +kernel) (by decide +kernel) (by decide) (fun _ _ h => by rw [h.1]; rfl) (fun _ U U' hal hh h => ⟨h.1, h.2.mv hal hh⟩) (fun r U U' V V' h1 hal h2 h => XT.PureE.mv r U U' V V' h1 hal h2 h) ?_
  intro p e s m args below meth c s₁ X0 hexec hbytes hml hret hlk hnm hown hh0 W hP
  obtain ⟨rfl, hB⟩ := hP
  have hB0 := hB.mv X0.warmed.alike hh0
  have c1 : Steps p.tables e below (s₁.setTop (entryFrame m #[.ref d, .int (Int32.ofNat B.slots.size)] 2)) (s₁.setTop (mkF m 0 #[.val (.ref d), .val (.int (Int32.ofNat B.slots.size))] [])) := entry rfl
  have c2 : Steps p.tables e below (s₁.setTop (entryFrame m #[.ref d, .int (Int32.ofNat B.slots.size)] 2)) (s₁.setTop (mkF m 2 #[.val (.ref d), .val (.int (Int32.ofNat B.slots.size))] [.ref d, .int (Int32.ofNat B.slots.size)])) := c1.trans (by
    refine XS.iloadN X0.here hexec rfl (hb hbytes d0) rfl ?_
    refine XS.aloadN X0.here hexec rfl (hb hbytes d1) rfl rfl ?_
    exact Steps.refl _)
  have c3 : Steps p.tables e below (s₁.setTop (entryFrame m #[.ref d, .int (Int32.ofNat B.slots.size)] 2)) (s₁.setTop (mkF m 8 #[.val (.ref d), .val (.int (Int32.ofNat B.slots.size))] [.int (lo8 (ushr (Int32.ofNat B.slots.size - Int32.ofNat B.slots.size) 31))])) := c2.trans (by
    refine X0.alen hexec hB0 rfl rfl (hb hbytes d2) ?_
    refine XS.isub X0.here hexec rfl (hb hbytes d3) rfl ?_
    refine bipushV X0.here hexec rfl 31 (hb hbytes d4) (by decide) ?_
    refine iushr X0.here hexec rfl (hb hbytes d6) rfl ?_
    refine i2b X0.here hexec rfl (hb hbytes d7) rfl ?_
    exact Steps.refl _)
  have e0 : lo8 (ushr (Int32.ofNat B.slots.size - Int32.ofNat B.slots.size) 31) = 0 := by rw [Int32.sub_self]; decide
  rw [e0] at c3
  exact ⟨s₁, some (.int 0), _, _, _, X0, rfl, rfl, rfl, (fun h => by cases h), ⟨rfl, hh0⟩, fun fs hl => c3.trans (X0.ireturnOut hexec hret rfl (Or.inr (Or.inr (Or.inl rfl))) (hb hbytes d8) hl)⟩
end CodL
/-- the String at a is Latin-1 over a new byte[] (the heap's one new cell): the low bytes of the len chars of A from o on; every cell but a is kept -/
def Got (a : Addr) (D : Cell) (fV fC : Field) (A : Cell) (o len : Nat) (r : Option Value) (s u : State) : Prop := r = none ∧ ∃ D' V : Cell, Blank "java/lang/String" a D' u ∧ Same D D' [fV.slot, fC.slot] ∧ D'.slots[fV.slot]? = some (.ref s.heap.size) ∧ D'.slots[fC.slot]? = some (.int 0) ∧ Arr .byte s.heap.size V u ∧ V.vm = .none ∧ u.vm.findClass "[B" = some V.cls ∧ V.slots.size = len ∧ (∀ j, j < len → V.slots[j]? = some (.int (lo8 (cv A (o + j))))) ∧ (∀ (y : Addr) (c : Cell), y ≠ a → s.heap[y]? = some c → u.heap[y]? = some c) ∧ u.heap.size = s.heap.size + 1
theorem Got.mv {a : Addr} {D A : Cell} {fV fC : Field} {o len : Nat} : ∀ r (U U' V V' : State), U'.heap = U.heap → V.vm.Alike V'.vm → V'.heap = V.heap → Got a D fV fC A o len r U V → Got a D fV fC A o len r U' V' :=
  fun r U U' V V' h1 hal h2 ⟨e0, D', X, a1, a2, a3, a4, a5, a6, a7, a8, a9, a10, a11⟩ => ⟨e0, D', X, a1.mv hal h2, a2, by rw [h1]; exact a3, a4, by rw [h1]; exact a5.mv hal h2, a6, by rw [hal.findClass]; exact a7, a8, a9, by rw [h1, h2]; exact a10, by rw [h1, h2]; exact a11⟩
namespace New4
def yN : MethodName := ⟨"java/lang/String", "<init>", "([CIILjava/lang/Void;)V"⟩
abbrev yB : ByteArray := jdk_42_method_149_code
theorem d0 : decode yB 0 = .ok (.aload_n 0, 1) := by decide +kernel
theorem d1 : decode yB 1 = .ok (.invokespecial 1, 3) := by decide +kernel
theorem d4 : decode yB 4 = .ok (.iload_n 3, 1) := by decide +kernel
theorem d5 : decode yB 5 = .ok (.ifCond (.ne) 22, 3) := by decide +kernel
theorem d27 : decode yB 27 = .ok (.getstatic 38, 3) := by decide +kernel
theorem d30 : decode yB 30 = .ok (.ifCond (.eq) 28, 3) := by decide +kernel
theorem d33 : decode yB 33 = .ok (.aload_n 1, 1) := by decide +kernel
theorem d34 : decode yB 34 = .ok (.iload_n 2, 1) := by decide +kernel
theorem d35 : decode yB 35 = .ok (.iload_n 3, 1) := by decide +kernel
theorem d36 : decode yB 36 = .ok (.invokestatic 177, 3) := by decide +kernel
theorem d39 : decode yB 39 = .ok (.astore 5, 2) := by decide +kernel
theorem d41 : decode yB 41 = .ok (.aload_n 0, 1) := by decide +kernel
theorem d42 : decode yB 42 = .ok (.aload 5, 2) := by decide +kernel
theorem d44 : decode yB 44 = .ok (.iload_n 3, 1) := by decide +kernel
theorem d45 : decode yB 45 = .ok (.invokestatic 47, 3) := by decide +kernel
theorem d48 : decode yB 48 = .ok (.putfield 15, 3) := by decide +kernel
theorem d51 : decode yB 51 = .ok (.aload_n 0, 1) := by decide +kernel
theorem d52 : decode yB 52 = .ok (.aload 5, 2) := by decide +kernel
theorem d54 : decode yB 54 = .ok (.putfield 9, 3) := by decide +kernel
theorem d57 : decode yB 57 = .ok (.return_, 1) := by decide +kernel
def site : List Cond := [.fieldLink "java/lang/String" 38 "java/lang/String" "COMPACT_STRINGS" "Z", Cmp3.tab, CodL.tab, .laysFinal "java/lang/String" "java/lang/String" "value" "[B", .fieldLink "java/lang/String" 9 "java/lang/String" "value" "[B", .laysFinal "java/lang/String" "java/lang/String" "coder" "B", .fieldLink "java/lang/String" 15 "java/lang/String" "coder" "B"] ++ objW "java/lang/String" 1 ++ staticW "java/lang/String" 177 Cmp3.yN ++ staticW "java/lang/String" 47 CodL.yN
def tab : Cond := tabOf yN yB 6 none site
def P (a : Addr) (D : Cell) (fV fC : Field) (b : Addr) (A : Cell) (z : Int32) (o len : Nat) (args : Array Value) (s : State) : Prop := args = #[.ref a, .ref b, .int (Int32.ofNat o), .int (Int32.ofNat len), .null] ∧ Blank "java/lang/String" a D s ∧ Found "java/lang/String" "value" "[B" fV s ∧ Found "java/lang/String" "coder" "B" fC s ∧ Ch b A s ∧ StaticIs s "java/lang/String" "COMPACT_STRINGS" "Z" (.int z) ∧ ¬ z = 0 ∧ 0 < len ∧ o + len ≤ A.slots.size ∧ len ≤ 536870912 ∧ ∀ i, i < len → ¬ 255 < cv A (o + i)
def E (a : Addr) (D : Cell) (fV fC : Field) (A : Cell) (o len : Nat) (r : Option Value) (s u : State) : Prop := Got a D fV fC A o len r s u
/-- len > 0, no char of the range above 255: a Latin-1 String of their low bytes -/
theorem law (l : Launch) (a : Addr) (D : Cell) (fV fC : Field) (b : Addr) (A : Cell) (z : Int32) (o len : Nat) : Law l yN 5 4 2 35 yB 6 none site (P a D fV fC b A z o len) (E a D fV fC A o len) [⟨a, fC.slot⟩, ⟨a, fV.slot⟩] 1 len := by
  refine Law.of_walk (plainFor_of_name (by decide +kernel)) (by decide +kernel) (by decide +kernel) (by decide) (fun _ _ h => by rw [h.1]; rfl) (fun _ U U' hal hh h => ⟨h.1, h.2.1.mv hal hh, h.2.2.1.al hal, h.2.2.2.1.al hal, h.2.2.2.2.1.mv hal hh, h.2.2.2.2.2.1.there hal hh, h.2.2.2.2.2.2⟩) (fun r U U' V V' h1 hal h2 h => Got.mv r U U' V V' h1 hal h2 h) ?_
  intro p e s m args below meth c s₁ X0 hexec hbytes hml hret hlk hnm hown hh0 W hP
  obtain ⟨rfl, hB, f1, f2, hA, s1, hz, l0, l1, l2, hp⟩ := hP
  have a31 := hA.1.2.2.2
  have c1 : Steps p.tables e below (s₁.setTop (entryFrame m #[.ref a, .ref b, .int (Int32.ofNat o), .int (Int32.ofNat len), .null] 6)) (s₁.setTop (mkF m 0 #[.val (.ref a), .val (.ref b), .val (.int (Int32.ofNat o)), .val (.int (Int32.ofNat len)), .val .null, .unset] [])) := entry rfl
  have c2 : Steps p.tables e below (s₁.setTop (entryFrame m #[.ref a, .ref b, .int (Int32.ofNat o), .int (Int32.ofNat len), .null] 6)) (s₁.setTop (mkF m 1 #[.val (.ref a), .val (.ref b), .val (.int (Int32.ofNat o)), .val (.int (Int32.ofNat len)), .val .null, .unset] [.ref a])) := c1.trans (by
    refine XS.aloadN X0.here hexec rfl (hb hbytes d0) rfl rfl ?_
    exact Steps.refl _)
  obtain ⟨T3, X3, q3, st3⟩ := X0.oinit hexec hown (wks W (objW "java/lang/String" 1)) (g := (mkF m 1 #[.val (.ref a), .val (.ref b), .val (.int (Int32.ofNat o)), .val (.int (Int32.ofNat len)), .val .null, .unset] [.ref a])) rfl (by rw [hml]; rfl) (rest := []) rfl (hb hbytes d1) (W := 0) (by show 2 * 0 + 0 ≤ _; decide) (Nat.le_of_ble_eq_true rfl) (Nat.le_of_ble_eq_true rfl)
  have hh3 := q3.trans hh0
  have c4 : Steps p.tables e below (s₁.setTop (entryFrame m #[.ref a, .ref b, .int (Int32.ofNat o), .int (Int32.ofNat len), .null] 6)) (T3.setTop (mkF m 27 #[.val (.ref a), .val (.ref b), .val (.int (Int32.ofNat o)), .val (.int (Int32.ofNat len)), .val .null, .unset] [])) := (c2.trans (st3 _ (Steps.refl _))).trans (by
    refine XS.iloadN X3.here hexec rfl (hb hbytes d4) rfl ?_
    refine XS.ifYes X3.here hexec rfl (pc0 := 5) rfl (hb hbytes d5) rfl (i0_ne_t (nz32 (by omega) l0)) (by decide) rfl ?_
    exact Steps.refl _)
  obtain ⟨T5, X5, q5, st5⟩ := X3.sget hexec hown (wk W (.fieldLink "java/lang/String" 38 "java/lang/String" "COMPACT_STRINGS" "Z")) s1 (fun _ _ h => by rw [hh3]; exact h) (g := (mkF m 27 #[.val (.ref a), .val (.ref b), .val (.int (Int32.ofNat o)), .val (.int (Int32.ofNat len)), .val .null, .unset] [])) rfl (hb hbytes d27)
  have hh5 := q5.trans hh3
  have c6 : Steps p.tables e below (s₁.setTop (entryFrame m #[.ref a, .ref b, .int (Int32.ofNat o), .int (Int32.ofNat len), .null] 6)) (T5.setTop (mkF m 30 #[.val (.ref a), .val (.ref b), .val (.int (Int32.ofNat o)), .val (.int (Int32.ofNat len)), .val .null, .unset] [.int z])) := c4.trans (st5 _ (Steps.refl _))
  have c7 : Steps p.tables e below (s₁.setTop (entryFrame m #[.ref a, .ref b, .int (Int32.ofNat o), .int (Int32.ofNat len), .null] 6)) (T5.setTop (mkF m 36 #[.val (.ref a), .val (.ref b), .val (.int (Int32.ofNat o)), .val (.int (Int32.ofNat len)), .val .null, .unset] [.int (Int32.ofNat len), .int (Int32.ofNat o), .ref b])) := c6.trans (by
    refine XS.ifNo X5.here hexec rfl (hb hbytes d30) rfl (i0_eq_f hz) ?_
    refine XS.aloadN X5.here hexec rfl (hb hbytes d33) rfl rfl ?_
    refine XS.iloadN X5.here hexec rfl (hb hbytes d34) rfl ?_
    refine XS.iloadN X5.here hexec rfl (hb hbytes d35) rfl ?_
    exact Steps.refl _)
  obtain ⟨v8, T8, X8, E8, g8⟩ := X5.callS hexec (Cmp3.law l b A o len) hown (wks W (staticW "java/lang/String" 177 Cmp3.yN)) (wk W Cmp3.tab) (W := 0) (Nat.le_of_ble_eq_true rfl) (Nat.le_of_ble_eq_true rfl) (Nat.le_refl _) (by show 0 + len ≤ len; omega) (g := (mkF m 36 #[.val (.ref a), .val (.ref b), .val (.int (Int32.ofNat o)), .val (.int (Int32.ofNat len)), .val .null, .unset] [.int (Int32.ofNat len), .int (Int32.ofNat o), .ref b])) rfl (by rw [hml]; rfl) c7 (argsL := [.ref b, .int (Int32.ofNat o), .int (Int32.ofNat len)]) (rest := []) rfl rfl (by show 2 * 0 + 0 ≤ _; decide) (hb hbytes d36) (⟨rfl, hA.mv X5.warmed.alike hh5, l1, l2, hp⟩)
  obtain ⟨e8, z8⟩ := E8
  obtain ⟨rfl, N, n1, n2, n3, n4, n5, n6⟩ := NewArr.mv _ T5 s _ _ hh5.symm (Vm.Alike.refl _) rfl e8
  rw [hh5] at z8
  have hB1 := hB.keep X8.warmed.alike (n6 _ _ hB.1)
  have hne : s.heap.size ≠ a := (Nat.ne_of_lt (Array.getElem?_eq_some_iff.mp hB.1).1).symm
  have c9 : Steps p.tables e below (s₁.setTop (entryFrame m #[.ref a, .ref b, .int (Int32.ofNat o), .int (Int32.ofNat len), .null] 6)) (T8.setTop (mkF m 39 #[.val (.ref a), .val (.ref b), .val (.int (Int32.ofNat o)), .val (.int (Int32.ofNat len)), .val .null, .unset] [.ref s.heap.size])) := g8
  have c10 : Steps p.tables e below (s₁.setTop (entryFrame m #[.ref a, .ref b, .int (Int32.ofNat o), .int (Int32.ofNat len), .null] 6)) (T8.setTop (mkF m 45 #[.val (.ref a), .val (.ref b), .val (.int (Int32.ofNat o)), .val (.int (Int32.ofNat len)), .val .null, .val (.ref s.heap.size)] [.int (Int32.ofNat N.slots.size), .ref s.heap.size, .ref a])) := by
    have hc : Steps p.tables e below (s₁.setTop (entryFrame m #[.ref a, .ref b, .int (Int32.ofNat o), .int (Int32.ofNat len), .null] 6)) (T8.setTop (mkF m 45 #[.val (.ref a), .val (.ref b), .val (.int (Int32.ofNat o)), .val (.int (Int32.ofNat len)), .val .null, .val (.ref s.heap.size)] [.int (Int32.ofNat len), .ref s.heap.size, .ref a])) := c9.trans (by
      refine XS.astore X8.here hexec rfl (hb hbytes d39) rfl rfl rfl ?_
      refine XS.aloadN X8.here hexec rfl (hb hbytes d41) rfl rfl ?_
      refine XS.aload X8.here hexec rfl (hb hbytes d42) rfl rfl ?_
      refine XS.iloadN X8.here hexec rfl (hb hbytes d44) rfl ?_
      exact Steps.refl _)
    rw [n4]; exact hc
  obtain ⟨v11, T11, X11, E11, g11⟩ := X8.callS hexec (CodL.law l s.heap.size N) hown (wks W (staticW "java/lang/String" 47 CodL.yN)) (wk W CodL.tab) (W := 1) (Nat.le_of_ble_eq_true rfl) (Nat.le_of_ble_eq_true rfl) (Nat.le_refl _) (by show 0 + len + 0 ≤ len; omega) (g := (mkF m 45 #[.val (.ref a), .val (.ref b), .val (.int (Int32.ofNat o)), .val (.int (Int32.ofNat len)), .val .null, .val (.ref s.heap.size)] [.int (Int32.ofNat N.slots.size), .ref s.heap.size, .ref a])) rfl (by rw [hml]; rfl) c10 (argsL := [.ref s.heap.size, .int (Int32.ofNat N.slots.size)]) (rest := [.ref a]) rfl rfl (by show 2 * 0 + (1 + 0) ≤ _; decide) (hb hbytes d45) (⟨rfl, n1⟩)
  obtain ⟨rfl, q11⟩ := E11
  have hB11 := hB1.mv (X8.warmed.alike.symm.trans X11.warmed.alike) q11
  have c12 : Steps p.tables e below (s₁.setTop (entryFrame m #[.ref a, .ref b, .int (Int32.ofNat o), .int (Int32.ofNat len), .null] 6)) (T11.setTop (mkF m 48 #[.val (.ref a), .val (.ref b), .val (.int (Int32.ofNat o)), .val (.int (Int32.ofNat len)), .val .null, .val (.ref s.heap.size)] [.int 0, .ref a])) := g11
  obtain ⟨T13, X13, p13, bl13, sl13, st13⟩ := X11.finit hexec hown (wk W (.fieldLink "java/lang/String" 15 "java/lang/String" "coder" "B")) (Or.inr ⟨_, (wk W (.laysFinal "java/lang/String" "java/lang/String" "coder" "B"))⟩) (Or.inl ⟨rfl, hnm⟩) f2 (Or.inl rfl) hB11 (t := .byte) (by decide +kernel) rfl (g := (mkF m 48 #[.val (.ref a), .val (.ref b), .val (.int (Int32.ofNat o)), .val (.int (Int32.ofNat len)), .val .null, .val (.ref s.heap.size)] [.int 0, .ref a])) rfl (rest := []) rfl (hb hbytes d48)
  have c14 : Steps p.tables e below (s₁.setTop (entryFrame m #[.ref a, .ref b, .int (Int32.ofNat o), .int (Int32.ofNat len), .null] 6)) (T13.setTop (mkF m 54 #[.val (.ref a), .val (.ref b), .val (.int (Int32.ofNat o)), .val (.int (Int32.ofNat len)), .val .null, .val (.ref s.heap.size)] [.ref s.heap.size, .ref a])) := (c12.trans (st13 _ (Steps.refl _))).trans (by
    refine XS.aloadN X13.here hexec rfl (hb hbytes d51) rfl rfl ?_
    refine XS.aload X13.here hexec rfl (hb hbytes d52) rfl rfl ?_
    exact Steps.refl _)
  obtain ⟨T15, X15, p15, bl15, sl15, st15⟩ := X13.finit hexec hown (wk W (.fieldLink "java/lang/String" 9 "java/lang/String" "value" "[B")) (Or.inr ⟨_, (wk W (.laysFinal "java/lang/String" "java/lang/String" "value" "[B"))⟩) (Or.inl ⟨rfl, hnm⟩) f1 (Or.inl rfl) bl13 (t := (.array .byte)) (by decide +kernel) rfl (g := (mkF m 54 #[.val (.ref a), .val (.ref b), .val (.int (Int32.ofNat o)), .val (.int (Int32.ofNat len)), .val .null, .val (.ref s.heap.size)] [.ref s.heap.size, .ref a])) rfl (rest := []) rfl (hb hbytes d54)
  have c16 : Steps p.tables e below (s₁.setTop (entryFrame m #[.ref a, .ref b, .int (Int32.ofNat o), .int (Int32.ofNat len), .null] 6)) (T15.setTop (mkF m 57 #[.val (.ref a), .val (.ref b), .val (.int (Int32.ofNat o)), .val (.int (Int32.ofNat len)), .val .null, .val (.ref s.heap.size)] [])) := c14.trans (st15 _ (Steps.refl _))
  have ap := apart (Or.inr ⟨_, (wk W (.laysFinal "java/lang/String" "java/lang/String" "value" "[B"))⟩) (Or.inr ⟨_, (wk W (.laysFinal "java/lang/String" "java/lang/String" "coder" "B"))⟩) f1 f2 (t₁ := .array .byte) (t₂ := .byte) (by decide +kernel) (by decide +kernel) (by decide)
  have al := X8.warmed.alike.symm.trans X15.warmed.alike
  have n7 : T11.heap[s.heap.size]? = some N := by rw [q11]; exact n1.1
  exact ⟨T15, none, _, _, _, X15, by simp, rfl, by omega, (fun _ => rfl), ⟨rfl, _, N, bl15, ((Same.refl D _).set _ (by simp)).set _ (by simp), sl15, (Cell.slots_setSlot_ne _ ap).trans sl13, n1.keep al (p15.other hne (p13.other hne n7)), n2, by rw [al.findClass]; exact n3, n4, n5, fun y c h1 h2 => p15.other h1 (p13.other h1 (by rw [q11]; exact n6 y c h2)), by rw [p15.2.2, p13.2.2, q11]; exact z8⟩, fun fs hl => c16.trans (X15.returnOut hexec hret (hb hbytes d57) hl)⟩
end New4
namespace New1
def yN : MethodName := ⟨"java/lang/String", "<init>", "([C)V"⟩
abbrev yB : ByteArray := jdk_42_method_3_code
theorem d0 : decode yB 0 = .ok (.aload_n 0, 1) := by decide +kernel
theorem d1 : decode yB 1 = .ok (.aload_n 1, 1) := by decide +kernel
theorem d2 : decode yB 2 = .ok (.iconst 0, 1) := by decide +kernel
theorem d3 : decode yB 3 = .ok (.aload_n 1, 1) := by decide +kernel
theorem d4 : decode yB 4 = .ok (.arraylength, 1) := by decide +kernel
theorem d5 : decode yB 5 = .ok (.aconst_null, 1) := by decide +kernel
theorem d6 : decode yB 6 = .ok (.invokespecial 27, 3) := by decide +kernel
theorem d9 : decode yB 9 = .ok (.return_, 1) := by decide +kernel
def site : List Cond := [New4.tab] ++ initW "java/lang/String" 27 New4.yN
def tab : Cond := tabOf yN yB 2 none site
def P (a : Addr) (D : Cell) (fV fC : Field) (b : Addr) (A : Cell) (z : Int32) (args : Array Value) (s : State) : Prop := args = #[.ref a, .ref b] ∧ Blank "java/lang/String" a D s ∧ Found "java/lang/String" "value" "[B" fV s ∧ Found "java/lang/String" "coder" "B" fC s ∧ Ch b A s ∧ StaticIs s "java/lang/String" "COMPACT_STRINGS" "Z" (.int z) ∧ ¬ z = 0 ∧ 0 < A.slots.size ∧ A.slots.size ≤ 536870912 ∧ ∀ i, i < A.slots.size → ¬ 255 < cv A i
def E (a : Addr) (D : Cell) (fV fC : Field) (A : Cell) (r : Option Value) (s u : State) : Prop := Got a D fV fC A 0 A.slots.size r s u
/-- new String(chars), not empty, no char above 255: a Latin-1 String of their low bytes -/
theorem law (l : Launch) (a : Addr) (D : Cell) (fV fC : Field) (b : Addr) (A : Cell) (z : Int32) : Law l yN 2 1 3 52 yB 2 none site (P a D fV fC b A z) (E a D fV fC A) [⟨a, fC.slot⟩, ⟨a, fV.slot⟩] 1 A.slots.size := by
  refine Law.of_walk (plainFor_of_name (by decide +kernel)) (by decide +kernel) (by decide +kernel) (by decide) (fun _ _ h => by rw [h.1]; rfl) (fun _ U U' hal hh h => ⟨h.1, h.2.1.mv hal hh, h.2.2.1.al hal, h.2.2.2.1.al hal, h.2.2.2.2.1.mv hal hh, h.2.2.2.2.2.1.there hal hh, h.2.2.2.2.2.2⟩) (fun r U U' V V' h1 hal h2 h => Got.mv r U U' V V' h1 hal h2 h) ?_
  intro p e s m args below meth c s₁ X0 hexec hbytes hml hret hlk hnm hown hh0 W hP
  obtain ⟨rfl, hB, f1, f2, hA, s1, hz, l0, l2, hp⟩ := hP
  have c1 : Steps p.tables e below (s₁.setTop (entryFrame m #[.ref a, .ref b] 2)) (s₁.setTop (mkF m 0 #[.val (.ref a), .val (.ref b)] [])) := entry rfl
  have c2 : Steps p.tables e below (s₁.setTop (entryFrame m #[.ref a, .ref b] 2)) (s₁.setTop (mkF m 6 #[.val (.ref a), .val (.ref b)] [.null, .int (Int32.ofNat A.slots.size), .int 0, .ref b, .ref a])) := c1.trans (by
    refine XS.aloadN X0.here hexec rfl (hb hbytes d0) rfl rfl ?_
    refine XS.aloadN X0.here hexec rfl (hb hbytes d1) rfl rfl ?_
    refine iconstV X0.here hexec rfl 0 (hb hbytes d2) (by decide) ?_
    refine XS.aloadN X0.here hexec rfl (hb hbytes d3) rfl rfl ?_
    refine X0.alen hexec (hA.1.mv X0.warmed.alike hh0) rfl rfl (hb hbytes d4) ?_
    refine XS.aconstNull X0.here hexec rfl (hb hbytes d5) ?_
    exact Steps.refl _)
  obtain ⟨v3, T3, X3, E3, g3⟩ := X0.callN hexec (New4.law l a D fV fC b A z 0 A.slots.size) rfl hown (wks W (initW "java/lang/String" 27 New4.yN)) (W New4.tab (by simp only [site, List.mem_cons, List.mem_append, true_or, or_true])) (W := 0) (Nat.le_of_ble_eq_true rfl) (Nat.le_of_ble_eq_true rfl) (Nat.le_refl _) (by show 0 + A.slots.size ≤ A.slots.size; omega) (g := (mkF m 6 #[.val (.ref a), .val (.ref b)] [.null, .int (Int32.ofNat A.slots.size), .int (Int32.ofNat 0), .ref b, .ref a])) rfl (by rw [hml]; rfl) c2 (argsL := [.ref b, .int (Int32.ofNat 0), .int (Int32.ofNat A.slots.size), .null]) (rest := []) rfl rfl (by show 2 * 0 + 0 ≤ _; decide) (hb hbytes d6) (⟨rfl, hB.mv X0.warmed.alike hh0, f1.al X0.warmed.alike, f2.al X0.warmed.alike, hA.mv X0.warmed.alike hh0, s1.there X0.warmed.alike hh0, hz, l0, by omega, l2, fun i hi => by rw [Nat.zero_add]; exact hp i hi⟩)
  have e0 := Got.mv _ s₁ s _ _ hh0.symm (Vm.Alike.refl _) rfl E3
  obtain rfl := e0.1
  have c4 : Steps p.tables e below (s₁.setTop (entryFrame m #[.ref a, .ref b] 2)) (T3.setTop (mkF m 9 #[.val (.ref a), .val (.ref b)] [])) := g3
  exact ⟨T3, none, _, _, _, X3, by simp, rfl, by omega, (fun _ => rfl), e0, fun fs hl => c4.trans (X3.returnOut hexec hret (hb hbytes d9) hl)⟩
theorem pays {l : Launch} {R : Room} {p : Program} {e : Env} {below : List Frame} {s : State} {sargs : Array Value} {len W : Nat} (a : Addr) (D : Cell) (fV fC : Field) (b : Addr) (A : Cell) (z : Int32) (htab : tab.before sargs s = true) (hfr : 4 ≤ R.frames) (hlo : W + 65 ≤ R.locals) :
    Back l R p e below s sargs yN len W (fun A₁ a₁ => A₁.cells + 1 ≤ R.cells ∧ A₁.slots + A.slots.size ≤ R.slots ∧ P a D fV fC b A z a₁ A₁.U) (fun A₁ _ v₁ B₁ => E a D fV fC A v₁ A₁.U B₁.U ∧ B₁.locs = A₁.locs ++ [⟨a, fC.slot⟩, ⟨a, fV.slot⟩] ∧ B₁.cells = A₁.cells + 1 ∧ B₁.slots = A₁.slots + A.slots.size) :=
  (law l a D fV fC b A z).pays htab hfr (by omega)
end New1
/-- the byte, read back as charAt reads it, is the char -/
theorem lo8_mask {x : Int32} (h0 : ¬ x < 0) (h1 : ¬ 255 < x) : lo8 x &&& 255 = x := by
  have t : ∀ k : Fin 256, lo8 (Int32.ofNat k.val) &&& 255 = Int32.ofNat k.val := by decide +kernel
  rw [Int32.lt_iff_toInt_lt] at h0 h1
  have e0 : (0 : Int32).toInt = 0 := rfl
  have e1 : (255 : Int32).toInt = 255 := rfl
  obtain ⟨k, hk⟩ : ∃ k : Nat, x.toInt = k := ⟨x.toInt.toNat, by omega⟩
  have hx : x = Int32.ofNat k := Int32.toInt_inj.mp (by rw [hk, Int32.toInt_ofNat_small (by omega)])
  rw [hx]
  exact t ⟨k, by omega⟩
end StrChars
namespace StrChars.Road
open Jvm Sem ClassFile Op Lib Jvm.Stand Jvm.Free Jvm.Free.XT
open Jvm.Lib.Cold (StaticIs)
abbrev ST : String := "java/lang/String"
/-- every table word that New1's law asks, flat -/
abbrev words : List Jvm.Cond := [.code New1.yN New1.yB 2 none, .initialized ST, .methodLink ST 27 New4.yN, .instanceMethod New4.yN,
  .code New4.yN New4.yB 6 none, .fieldLink ST 38 ST "COMPACT_STRINGS" "Z", .laysFinal ST ST "value" "[B", .fieldLink ST 9 ST "value" "[B", .laysFinal ST ST "coder" "B", .fieldLink ST 15 ST "coder" "B",
  .methodLink ST 1 Lib.objectInit, .instanceMethod Lib.objectInit, .code Lib.objectInit ⟨#[0xb1]⟩ 1 none, .methodLink ST 177 Cmp3.yN, .static Cmp3.yN, .methodLink ST 47 CodL.yN, .static CodL.yN,
  .code Cmp3.yN Cmp3.yB 6 (some (.array .byte)), .initialized U16, .arrayClass .byte, .methodLink U16 115 Cmp5.yN, .static Cmp5.yN, .code Cmp5.yN Cmp5.yB 7 (some .int), .code CodL.yN CodL.yB 2 (some .byte)]
theorem tab_of {a : Array Value} {s : State} (h : ∀ w ∈ words, w.before a s = true) : New1.tab.before a s = true := by
  have h5 : Cmp5.tab.before a s = true := unparts (wk h (.code Cmp5.yN Cmp5.yB 7 (some .int))) (wks h (.initialized Cmp5.yN.cls :: Cmp5.site))
  have hc : CodL.tab.before a s = true := unparts (wk h (.code CodL.yN CodL.yB 2 (some .byte))) (wks h (.initialized CodL.yN.cls :: CodL.site))
  have q5 : ∀ w ∈ Cmp5.tab :: words, w.before a s = true := fun w hw => (List.mem_cons.mp hw).elim (fun e => e ▸ h5) (h w)
  have h3 : Cmp3.tab.before a s = true := unparts (wk q5 (.code Cmp3.yN Cmp3.yB 6 (some (.array .byte)))) (wks q5 (.initialized Cmp3.yN.cls :: Cmp3.site))
  have q3 : ∀ w ∈ Cmp3.tab :: CodL.tab :: words, w.before a s = true := fun w hw => (List.mem_cons.mp hw).elim (fun e => e ▸ h3) fun hw => (List.mem_cons.mp hw).elim (fun e => e ▸ hc) (h w)
  have h4 : New4.tab.before a s = true := unparts (wk q3 (.code New4.yN New4.yB 6 none)) (wks q3 (.initialized New4.yN.cls :: New4.site))
  have q4 : ∀ w ∈ New4.tab :: words, w.before a s = true := fun w hw => (List.mem_cons.mp hw).elim (fun e => e ▸ h4) (h w)
  exact unparts (wk q4 (.code New1.yN New1.yB 2 none)) (wks q4 (.initialized New1.yN.cls :: New1.site))
/-- the words ride from the start Z to the walk's own state -/
theorem moved {Z s : State} {a0 args : Array Value} (hZ : Z.Warmed39 s.vm) (hw : ∀ d ∈ words, d.before a0 Z = true) : ∀ d ∈ words, d.before args s = true := fun d hd => by
  have q := hw d hd
  have t : ∀ d ∈ words, d = .arrayClass .byte ∨ (d.onTables && d.keepsFace) = true := by decide +kernel
  rcases t d hd with rfl | t
  · exact RoadKit.mvA hZ q
  · exact RoadKit.mv hZ q t
/-- WHAT COMES BACK, over the tables of the start Z: h the heap at the call, h' behind it -/
def Q (Z : State) (x : Addr) (A : Cell) (h : Heap) (v : Option Value) (h' : Heap) (L : List Loc) : Prop := v = none ∧ (∀ y ∈ L, y.base = x) ∧ RoadKit.Keep h h' [x] ∧ h'.size = h.size + 1 ∧ RoadKit.Exa Z h' x ST ∧ RoadKit.Fld Z h' x ST "value" "[B" (.ref h.size) ∧ RoadKit.Fld Z h' x ST "coder" "B" (.int 0) ∧
  (∃ V : Cell, RoadKit.Arr Z h' h.size V .byte ∧ V.vm = .none ∧ Z.vm.findClass "[B" = some V.cls ∧ V.slots.size = A.slots.size ∧ ∀ j, j < A.slots.size → V.slots[j]? = some (.int (lo8 (cv A j)))) ∧
  ∀ (O n d : String) (w : Value), RoadKit.Fld Z h x O n d w → RoadKit.slotOf Z O n d ≠ RoadKit.slotOf Z ST "value" "[B" → RoadKit.slotOf Z O n d ≠ RoadKit.slotOf Z ST "coder" "B" → RoadKit.Fld Z h' x O n d w
/-- **new String(chars) AT A CALL, IN THE ROAD'S FORM**: for specialBack behind newO: x the fresh String, b the char[] with the cell A -/
theorem back {p : Program} {l : Launch} {e : Env} {R : Room} {s : State} {args : Array Value} {below : List Frame} {len W : Nat} {Z : State} {a0 : Array Value} {h : Heap} (hZ : Z.Warmed39 s.vm) (hw : ∀ d ∈ words, d.before a0 Z = true) {kI : Nat} (wi : (Jvm.Cond.instantiable ST kI).before a0 Z = true)
    {x b : Addr} {A : Cell} {z : Int32} {v0 c0 : Value} (E : RoadKit.Exa Z h x ST) (V : RoadKit.Fld Z h x ST "value" "[B" v0) (C : RoadKit.Fld Z h x ST "coder" "B" c0) (K : RoadKit.Arr Z h b A .char) (hty : Typed .char A) (S : RoadKit.Sta Z h ST "COMPACT_STRINGS" "Z" (.int z)) (hz : ¬ z = 0)
    (l0 : 0 < A.slots.size) (l2 : A.slots.size ≤ 536870912) (hp : ∀ i, i < A.slots.size → ¬ 255 < cv A i) (hfr : 4 ≤ R.frames) (hlo : W + 65 ≤ R.locals) :
    Back l R p e below s args New1.yN len W (fun P a => a = #[.ref x, .ref b] ∧ P.U.heap = h ∧ P.cells + 1 ≤ R.cells ∧ P.slots + A.slots.size ≤ R.slots)
      (fun P _ v B => ∃ L, Q Z x A h v B.U.heap L ∧ B.locs = P.locs ++ L ∧ B.cells = P.cells + 1 ∧ B.slots = P.slots + A.slots.size) := by
  intro m meth c P g ig mk a X hg hsize hdg hW hn hp'
  obtain ⟨rfl, rfl, r1, r2⟩ := hp'
  have al : Z.vm.Alike P.U.vm := hZ.alike.trans X.warmed.alike
  obtain ⟨D, cfV, kV, iV, fV, hD, gV, stV, knV, obV, asV, slV⟩ := id V
  obtain ⟨D', cfC, kC, iC, fC, hD', gC, stC, -, -, asC, slC⟩ := id C
  cases hD.symm.trans hD'
  obtain ⟨D2, kD, e1, e2, e3, e4, e5⟩ := id E
  cases hD.symm.trans e1
  obtain ⟨c2, k2, i1, i2, i3, -⟩ := Cond.instantiable_spec wi
  cases e2.symm.trans i1
  cases e3.symm.trans i2
  obtain ⟨kU, u1, u2⟩ := al.2.2 _ _ e3
  have hB : Blank ST x D P.U := ⟨hD, ⟨knV, fun q hq => by rw [hq] at obV; cases obV⟩, by rw [al.findClass]; exact e2, kU, u1, by rw [u2]; exact i3, by rw [u2]; exact e5 i3⟩
  have F1 : Found ST "value" "[B" fV P.U := ⟨SBG.found_only al ⟨cfV, kV, iV, gV⟩, stV⟩
  have F2 : Found ST "coder" "B" fC P.U := ⟨SBG.found_only al ⟨cfC, kC, iC, gC⟩, stC⟩
  have hA : Ch b A P.U := ⟨⟨K.1, State.isArrayOf_alike al K.2.1, K.2.2, by omega⟩, hty⟩
  have hS : StaticIs P.U ST "COMPACT_STRINGS" "Z" (.int z) := by
    obtain ⟨cfS, iS, kS, fS, st, cS, t1, t2, t3, t4, t5, t6, t7⟩ := S
    exact StaticIs.there (s := { Z with heap := P.U.heap }) ⟨cfS, iS, kS, fS, st, cS, t1, t2, t3, t4, t5, (fun q => by rw [q] at t6; cases t6), t7⟩ al rfl
  obtain ⟨v, B, X', ⟨⟨hv, E', V', q1, q2, q3, q4, q5, q6, q7, q8, q9, q10, q11⟩, hl, hc, hs⟩, st⟩ := New1.pays x D fV fC b A z (tab_of (moved hZ hw)) hfr hlo m meth c P g ig mk _ X hg hsize hdg hW hn ⟨r1, r2, rfl, hB, F1, F2, hA, hS, hz, l0, l2, hp⟩
  have al' : Z.vm.Alike B.U.vm := hZ.alike.trans X'.warmed.alike
  have hsz : E'.slots.size = D.slots.size := by
    obtain ⟨-, -, -, kB, w1, w2, w3⟩ := q1
    obtain ⟨kB', y1, y2⟩ := al'.2.2 _ _ e3
    rw [q2.2.1] at w1
    cases w1.symm.trans y1
    rw [w3, e5 i3, y2]
  refine ⟨v, B, X', ⟨_, ⟨hv, ?_, ⟨by omega, fun y cy hy hn' => q10 y cy (by simpa using hn') hy, fun y cy hy => ?_⟩, q11, ⟨E', _, q1.1, by rw [q2.2.1]; exact e2, by rw [q2.2.1]; exact e3, by rw [q2.1]; exact obV, fun _ => by rw [hsz]; exact e5 i3⟩,
    ⟨E', cfV, kV, iV, fV, q1.1, gV, stV, by rw [q2.1]; exact knV, by rw [q2.1]; exact obV, by rw [q2.2.1]; exact asV, q3⟩, ⟨E', cfC, kC, iC, fC, q1.1, gC, stC, by rw [q2.1]; exact knV, by rw [q2.1]; exact obV, by rw [q2.2.1]; exact asC, q4⟩,
    ⟨V', ⟨q5.1, State.isArrayOf_alike al'.symm q5.2.1, q5.2.2.1⟩, q6, by rw [← al'.findClass]; exact q7, q8, fun j hj => by have := q9 j hj; rwa [Nat.zero_add] at this⟩, fun O n d w F n1 n2 => ?_⟩, hl, hc, hs⟩, st⟩
  · intro y hy
    simp only [List.mem_cons, List.not_mem_nil, or_false] at hy
    rcases hy with rfl | rfl <;> rfl
  · by_cases q : y = x
    · subst q
      cases hD.symm.trans hy
      exact ⟨E', q1.1, q2.2.1, q2.1, hsz⟩
    · exact ⟨cy, q10 y cy q hy, rfl, rfl, rfl⟩
  · obtain ⟨D3, cf, k, i, f, g1, g2, g3, g4, g5, g6, g7⟩ := F
    cases hD.symm.trans g1
    simp only [RoadKit.slotOf, g2, gV, gC, Option.map_some, Option.getD_some] at n1 n2
    exact ⟨E', cf, k, i, f, q1.1, g2, g3, by rw [q2.1]; exact g4, by rw [q2.1]; exact g5, by rw [q2.2.1]; exact g6, by rw [q2.2.2 f.slot (by simp [n1, n2])]; exact g7⟩
end StrChars.Road
namespace StrChars.Road
open Jvm Sem ClassFile Op Lib Jvm.Stand Jvm.Free Jvm.Free.XT
/-- WHAT COMES BACK, the byte[] as a list of values -/
def QA (Z : State) (x : Addr) (zn : Int32) (cs : List Int32) (h : Heap) (v : Option Value) (h' : Heap) (L : List Loc) : Prop := v = none ∧ (∀ y ∈ L, y.base = x) ∧ RoadKit.Keep h h' [x] ∧ h'.size = h.size + 1 ∧ RoadKit.Exa Z h' x ST ∧ RoadKit.Fld Z h' x ST "value" "[B" (.ref h.size) ∧ RoadKit.Fld Z h' x ST "coder" "B" (.int 0) ∧
  (∃ kb, Z.vm.findClass "[B" = some kb ∧ RoadKit.Arv Z h' h.size kb .byte zn (cs.map fun c => .int (lo8 c)) (.int 0)) ∧
  ∀ (O n d : String) (w : Value), RoadKit.Fld Z h x O n d w → RoadKit.slotOf Z O n d ≠ RoadKit.slotOf Z ST "value" "[B" → RoadKit.slotOf Z O n d ≠ RoadKit.slotOf Z ST "coder" "B" → RoadKit.Fld Z h' x O n d w
/-- **new String(chars) AT A CALL, THE ARRAYS AS LISTS**: the char[] at b holds cs, not empty, no char above 255 -/
theorem backArv {p : Program} {l : Launch} {e : Env} {R : Room} {s : State} {args : Array Value} {below : List Frame} {len W : Nat} {Z : State} {a0 : Array Value} {h : Heap} (hZ : Z.Warmed39 s.vm) (hw : ∀ d ∈ words, d.before a0 Z = true) {kI : Nat} (wi : (Jvm.Cond.instantiable ST kI).before a0 Z = true)
    {x b : Addr} {k : ClassId} {zn z : Int32} {cs : List Int32} {dv v0 c0 : Value} (E : RoadKit.Exa Z h x ST) (V : RoadKit.Fld Z h x ST "value" "[B" v0) (C : RoadKit.Fld Z h x ST "coder" "B" c0) (K : RoadKit.Arv Z h b k .char zn (cs.map Value.int) dv) (S : RoadKit.Sta Z h ST "COMPACT_STRINGS" "Z" (.int z)) (hz : ¬ z = 0)
    (hlen : zn.toNatClampNeg = cs.length) (h0 : 0 < cs.length) (hbig : cs.length ≤ 536870912) (hall : ∀ c ∈ cs, ¬ 255 < c) (hfr : 4 ≤ R.frames) (hlo : W + 65 ≤ R.locals) :
    Back l R p e below s args New1.yN len W (fun P a => a = #[.ref x, .ref b] ∧ P.U.heap = h ∧ P.cells + 1 ≤ R.cells ∧ P.slots + cs.length ≤ R.slots)
      (fun P _ v B => ∃ L, QA Z x zn cs h v B.U.heap L ∧ B.locs = P.locs ++ L ∧ B.cells = P.cells + 1 ∧ B.slots = P.slots + cs.length) := by
  obtain ⟨A, K1, K2, K3, K4, K5, K6⟩ := K
  have e : A.slots.size = cs.length := K3.trans hlen
  have hat : ∀ (i : Nat) (hi : i < cs.length), A.slots[i]? = some (.int cs[i]) := fun i hi => by rw [K5 i (by omega)]; simp [List.getD_eq_getElem?_getD, hi]
  have hcv : ∀ (i : Nat) (hi : i < cs.length), cv A i = cs[i] := fun i hi => by unfold cv; rw [hat i hi]
  have hty : Typed .char A := fun i v hv => by
    have hi : i < A.slots.size := (Array.getElem?_eq_some_iff.mp hv).1
    have q := K5 i hi
    rw [hv] at q
    rw [Option.some.inj q]
    exact K6 i hi
  refine Back.mono (back hZ hw wi E V C K1 hty S hz (by omega) (by omega) (fun i hi => by rw [hcv i (by omega)]; exact hall _ (List.getElem_mem _)) hfr hlo) (fun P a hp => ⟨hp.1, hp.2.1, hp.2.2.1, by rw [e]; exact hp.2.2.2⟩) (fun P a v B hp hq => ?_)
  obtain ⟨L, ⟨q1, q2, q3, q4, q5, q6, q7, ⟨V', v1, v2, v3, v4, v5⟩, q9⟩, hl, hc, hs⟩ := hq
  refine ⟨L, ⟨q1, q2, q3, q4, q5, q6, q7, ⟨V'.cls, v3, V', v1, rfl, by rw [v4, e, hlen], K4, fun i hi => ?_, fun i hi => ?_⟩, q9⟩, hl, hc, by rw [hs, e]⟩
  · have hi' : i < cs.length := by omega
    rw [v5 i (by omega), hcv i hi']; simp [List.getD_eq_getElem?_getD, hi']
  · have hi' : i < cs.length := by omega
    simp only [List.getD_eq_getElem?_getD, List.getElem?_map, List.getElem?_eq_getElem hi', Option.map_some, Option.getD_some]
    exact fits_lo8 _
end StrChars.Road
namespace StrChars.Road
open Jvm Sem ClassFile Op Lib Jvm.Stand Jvm.Free Jvm.Free.XT
/-- WHAT COMES BACK, in the writer's own shape -/
def QV (Z : State) (x : Addr) (N : Int32) (bs : List Int32) (h : Heap) (n0 : Nat) (v : Option Value) (h' : Heap) (L : List Loc) : Prop := v = none ∧ RoadKit.Fr n0 L ∧ RoadKit.Keep h h' [x] ∧ RoadKit.Exa Z h' x ST ∧ RoadKit.Fld Z h' x ST "coder" "B" (.int 0) ∧
  ∃ (t : Addr) (kb : ClassId), n0 ≤ t ∧ h.size ≤ t ∧ ¬ t = x ∧ RoadKit.Fld Z h' x ST "value" "[B" (.ref t) ∧ RoadKit.Arv Z h' t kb .byte N (bs.map Value.int) (.int 0)
/-- **new String(chars) AT A CALL, FOR THE WRITER**: a char[] of n known ints, each 0 to 255 -/
theorem backV {p : Program} {l : Launch} {e : Env} {R : Room} {s : State} {args : Array Value} {below : List Frame} {len W : Nat} {Z : State} {a0 : Array Value} {h : Heap} (hZ : Z.Warmed39 s.vm) (hw : ∀ d ∈ words, d.before a0 Z = true) {kI : Nat} (wi : (Jvm.Cond.instantiable ST kI).before a0 Z = true)
    {x b : Addr} {kC : ClassId} {cs bs : List Int32} {d v0 c0 : Value} {z N : Int32} {n n0 : Nat} (hx0 : n0 ≤ x) (hh0 : n0 ≤ h.size) (E : RoadKit.Exa Z h x ST) (V : RoadKit.Fld Z h x ST "value" "[B" v0) (C : RoadKit.Fld Z h x ST "coder" "B" c0) (K : RoadKit.Arv Z h b kC .char N (cs.map Value.int) d) (S : RoadKit.Sta Z h ST "COMPACT_STRINGS" "Z" (.int z)) (hz : ¬ z = 0)
    (hn : cs.length = n) (hN : N = Int32.ofNat n) (l0 : 0 < n) (l2 : n ≤ 4000) (hp : ∀ c ∈ cs, ¬ c < 0 ∧ ¬ (255 : Int32) < c) (hb : bs = cs.map (fun c => c.toInt8.toInt32)) (hfr : 4 ≤ R.frames) (hlo : W + 65 ≤ R.locals) :
    Back l R p e below s args (⟨"java/lang/String", "<init>", "([C)V"⟩ : MethodName) len W (fun P a => a = #[.ref x, .ref b] ∧ P.U.heap = h ∧ P.cells + 1 ≤ R.cells ∧ P.slots + n ≤ R.slots)
      (fun P _ v B => ∃ L, QV Z x N bs h n0 v B.U.heap L ∧ B.locs = P.locs ++ L ∧ B.cells = P.cells + 1 ∧ B.slots = P.slots + n) := by
  subst hn hN hb
  refine Back.mono (backArv hZ hw wi E V C K S hz (n32 (by omega)) l0 (by omega) (fun c hc => (hp c hc).2) hfr hlo) (fun P a hp => hp) (fun P a v B hp hq => ?_)
  obtain ⟨L, ⟨q1, q2, q3, q4, q5, q6, q7, ⟨kb, v1, v2⟩, q9⟩, hl, hc, hs⟩ := hq
  exact ⟨L, ⟨q1, fun y hy => by rw [q2 y hy]; exact hx0, q3, q5, q7, h.size, kb, hh0, Nat.le_refl _, Nat.ne_of_gt E.lt, q6, by rw [List.map_map]; exact v2⟩, hl, hc, hs⟩
end StrChars.Road
namespace StrChars
open Jvm Sem ClassFile Op Lib Jvm.Stand Jvm.Free.XT Jvm.Free.ALB Jvm.Free.JM Jvm.Free
open Jvm.Lib.Cold (StaticIs)
def hi8 (x : Int32) : Int32 := lo8 (x >>> ((8 : Int32) &&& 31))
/-- what StringUTF16.getChar makes of two bytes -/
def pairCh (u v : Int32) : Int32 := (((u &&& 255) <<< ((0 : Int32) &&& 31)) ||| ((v &&& 255) <<< ((8 : Int32) &&& 31))).toUInt32.toUInt16.toUInt32.toInt32
theorem lo8_and (x : Int32) : (lo8 x &&& 255).toBitVec.toNat = x.toBitVec.toNat % 256 := by
  have h : (lo8 x).toBitVec = (x.toBitVec.signExtend 8).signExtend 32 := by rw [lo8, Int8.toBitVec_toInt32, Int32.toBitVec_toInt8]
  rw [Int32.toBitVec_and, BitVec.toNat_and, h]
  have e : ((x.toBitVec.signExtend 8).signExtend 32).toNat % 256 = x.toBitVec.toNat % 256 := by
    rw [BitVec.toNat_signExtend]
    have hlt := x.toBitVec.isLt
    simp only [BitVec.toNat_setWidth, BitVec.toNat_signExtend]
    split <;> split <;> omega
  rw [← e]
  exact Nat.and_two_pow_sub_one_eq_mod _ 8
theorem pair_says {c : Int32} (h0 : ¬ c < 0) (h1 : ¬ 65535 < c) : pairCh (lo8 c) (hi8 c) = c := by
  rw [Int32.lt_iff_toInt_lt] at h0 h1
  have e0 : (0 : Int32).toInt = 0 := rfl
  have e1 : (65535 : Int32).toInt = 65535 := rfl
  have hc : c.toInt = c.toBitVec.toNat := by
    have := c.toBitVec.isLt
    have e : c.toInt = c.toBitVec.toInt := rfl
    rw [e] at h0 h1
    rw [e]
    rw [BitVec.toInt_eq_toNat_cond] at h0 h1 ⊢
    split at h0 <;> split <;> omega
  have hn : c.toBitVec.toNat < 65536 := by omega
  have a1 := lo8_and c
  have a2 : (hi8 c &&& 255).toBitVec.toNat = c.toBitVec.toNat / 256 := by
    rw [hi8, lo8_and]
    have e : ((8 : Int32) &&& 31) = 8 := by decide
    rw [e, Int32.toBitVec_shiftRight]
    have e2 : ((8 : Int32).toBitVec.smod 32) = 8#32 := by decide
    rw [e2, BitVec.sshiftRight_eq', BitVec.toNat_sshiftRight_of_msb_false (by rw [BitVec.msb_eq_false_iff_two_mul_lt]; omega)]
    show c.toBitVec.toNat >>> 8 % 256 = _
    rw [Nat.shiftRight_eq_div_pow]
    omega
  unfold pairCh
  apply Int32.toBitVec_inj.mp
  apply BitVec.eq_of_toNat_eq
  have f0 : ((0 : Int32) &&& 31) = 0 := by decide
  have f8 : ((8 : Int32) &&& 31) = 8 := by decide
  rw [f0, f8]
  have g : (((lo8 c &&& 255) <<< (0 : Int32)) ||| ((hi8 c &&& 255) <<< (8 : Int32))).toBitVec.toNat = c.toBitVec.toNat := by
    rw [Int32.toBitVec_or, Int32.toBitVec_shiftLeft, Int32.toBitVec_shiftLeft]
    have s0 : ((0 : Int32).toBitVec.smod 32) = 0#32 := by decide
    have s8 : ((8 : Int32).toBitVec.smod 32) = 8#32 := by decide
    rw [s0, s8, BitVec.toNat_or]
    simp only [BitVec.shiftLeft_eq', BitVec.toNat_shiftLeft, a1, a2]
    show (c.toBitVec.toNat % 256) <<< 0 % 2 ^ 32 ||| (c.toBitVec.toNat / 256) <<< 8 % 2 ^ 32 = _
    rw [Nat.shiftLeft_zero, Nat.mod_eq_of_lt (show c.toBitVec.toNat % 256 < 2 ^ 32 by omega), Nat.mod_eq_of_lt (show (c.toBitVec.toNat / 256) <<< 8 < 2 ^ 32 by rw [Nat.shiftLeft_eq]; omega), Nat.or_comm, ← Nat.shiftLeft_add_eq_or_of_lt (by omega), Nat.shiftLeft_eq]
    omega
  show BitVec.toNat (((((lo8 c &&& 255) <<< (0 : Int32)) ||| ((hi8 c &&& 255) <<< (8 : Int32))).toBitVec.setWidth 16).setWidth 32) = _
  rw [BitVec.toNat_setWidth, BitVec.toNat_setWidth, g]
  omega
end StrChars
namespace StrChars
open Jvm Sem ClassFile Op Lib Jvm.Stand Jvm.Free.XT Jvm.Free.ALB Jvm.Free.JM Jvm.Free
open Jvm.Lib.Cold (StaticIs)
/-- the array's cell V codes the n chars f 0 .. f (n - 1) by the coder cd, as the JDK does: coder 1 just where some char is above 255 -/
def Cod (cd : Int32) (n : Nat) (f : Nat → Int32) (V : Cell) : Prop := (cd = 0 ∧ V.slots.size = n ∧ ∀ j, j < n → V.slots[j]? = some (.int (lo8 (f j))) ∧ ¬ 255 < f j) ∨ (cd = 1 ∧ V.slots.size = 2 * n ∧ (∀ j, j < n → V.slots[2 * j]? = some (.int (lo8 (f j))) ∧ V.slots[2 * j + 1]? = some (.int (hi8 (f j)))) ∧ ∃ j, j < n ∧ 255 < f j)
/-- **x is a String of the n chars f 0 .. f (n - 1)**, Latin-1 or UTF-16; its array at t has the cell V -/
def Txt (x t : Addr) (V : Cell) (cd : Int32) (n : Nat) (f : Nat → Int32) (U : State) : Prop := Exact "java/lang/String" x U ∧ Has x "java/lang/String" "value" "[B" (.ref t) U ∧ Has x "java/lang/String" "coder" "B" (.int cd) U ∧ XT.Arr .byte t V U ∧ Cod cd n f V ∧ ∀ j, j < n → ¬ f j < 0 ∧ ¬ 65535 < f j
theorem Txt.mv {x t : Addr} {V : Cell} {cd : Int32} {n : Nat} {f : Nat → Int32} {U U' : State} (h : Txt x t V cd n f U) (hal : U.vm.Alike U'.vm) (hh : U'.heap = U.heap) : Txt x t V cd n f U' := ⟨h.1.mv hal hh, h.2.1.mv hal hh, h.2.2.1.mv hal hh, h.2.2.2.1.mv hal hh, h.2.2.2.2⟩
end StrChars
namespace StrChars.Road
open Jvm Sem ClassFile Op Lib Jvm.Stand Jvm.Free Jvm.Free.XT
open Jvm.Lib.Cold (StaticIs)
theorem consq {a : Array Value} {s : State} {c : Jvm.Cond} {L : List Jvm.Cond} (h0 : c.before a s = true) (h : ∀ w ∈ L, w.before a s = true) : ∀ w ∈ c :: L, w.before a s = true := fun w hw => (List.mem_cons.mp hw).elim (fun e => e ▸ h0) (h w)
/-- the bytes of the chars cs, low before high -/
def wideBytes : List Int32 → List Value
  | [] => []
  | c :: cs => .int (lo8 c) :: .int (hi8 c) :: wideBytes cs
theorem wide_lo (d : Value) : ∀ (cs : List Int32) (j : Nat), j < cs.length → (wideBytes cs).getD (2 * j) d = .int (lo8 (cs.getD j 0))
  | [], j, h => absurd h (Nat.not_lt_zero j)
  | c :: cs, 0, _ => rfl
  | c :: cs, j + 1, h => by
    have q := wide_lo d cs j (by simpa using h)
    rw [show 2 * (j + 1) = 2 * j + 1 + 1 from by omega]
    simpa [wideBytes] using q
theorem wide_hi (d : Value) : ∀ (cs : List Int32) (j : Nat), j < cs.length → (wideBytes cs).getD (2 * j + 1) d = .int (hi8 (cs.getD j 0))
  | [], j, h => absurd h (Nat.not_lt_zero j)
  | c :: cs, 0, _ => rfl
  | c :: cs, j + 1, h => by
    have q := wide_hi d cs j (by simpa using h)
    rw [show 2 * (j + 1) + 1 = 2 * j + 1 + 1 + 1 from by omega]
    simpa [wideBytes] using q
theorem low_at (d : Value) (cs : List Int32) (j : Nat) (h : j < cs.length) : (cs.map fun c => Value.int (lo8 c)).getD j d = .int (lo8 (cs.getD j 0)) := by
  simp [List.getD_eq_getElem?_getD, h]
/-- an array of N2 bytes vs codes the chars cs by the coder cd -/
def CodA (cs : List Int32) (cd N2 : Int32) (vs : List Value) : Prop := (cd = 0 ∧ N2 = Int32.ofNat cs.length ∧ vs = (cs.map fun c => Value.int (lo8 c)) ∧ ∀ c ∈ cs, ¬ 255 < c) ∨ (cd = 1 ∧ N2 = Int32.ofNat (2 * cs.length) ∧ vs = wideBytes cs ∧ ∃ c ∈ cs, 255 < c)
theorem CodA.cod {cs : List Int32} {cd N2 : Int32} {vs : List Value} {V : Cell} (h : CodA cs cd N2 vs) (hn : 2 * cs.length < 2 ^ 31) (hs : V.slots.size = N2.toNatClampNeg) (hv : RoadKit.Has V vs (.int 0)) : Cod cd cs.length (fun j => cs.getD j 0) V := by
  rcases h with ⟨rfl, rfl, rfl, h⟩ | ⟨rfl, rfl, rfl, c, hc, hw⟩
  · rw [n32 (by omega)] at hs
    exact Or.inl ⟨rfl, hs, fun j hj => ⟨by rw [hv j (by omega), low_at _ _ _ hj], by
      have e : cs.getD j 0 = cs[j] := by simp [List.getD_eq_getElem?_getD, hj]
      show ¬ 255 < cs.getD j 0
      rw [e]; exact h _ (List.getElem_mem _)⟩⟩
  · rw [n32 (by omega)] at hs
    obtain ⟨j, hj, rfl⟩ := List.getElem_of_mem hc
    exact Or.inr ⟨rfl, hs, fun j hj => ⟨by rw [hv _ (by omega), wide_lo _ _ _ hj], by rw [hv _ (by omega), wide_hi _ _ _ hj]⟩, j, hj, by
      have e : cs.getD j 0 = cs[j] := by simp [List.getD_eq_getElem?_getD, hj]
      show 255 < cs.getD j 0
      rw [e]; exact hw⟩
/-- an object of exactly java/lang/String, its two fields found: as the laws ask it -/
theorem strObj {Z U : State} {a0 : Array Value} {kI : Nat} (wi : (Jvm.Cond.instantiable ST kI).before a0 Z = true) (al : Z.vm.Alike U.vm) {x : Addr} {v0 c0 : Value} (E : RoadKit.Exa Z U.heap x ST) (V : RoadKit.Fld Z U.heap x ST "value" "[B" v0) (C : RoadKit.Fld Z U.heap x ST "coder" "B" c0) :
    ∃ (D : Cell) (fV fC : Field), Blank ST x D U ∧ Found ST "value" "[B" fV U ∧ Found ST "coder" "B" fC U ∧ D.slots[fV.slot]? = some v0 ∧ D.slots[fC.slot]? = some c0 ∧ RoadKit.slotOf Z ST "value" "[B" = fV.slot ∧ RoadKit.slotOf Z ST "coder" "B" = fC.slot := by
  obtain ⟨D, cfV, kV, iV, fV, hD, gV, stV, knV, obV, asV, slV⟩ := V
  obtain ⟨D', cfC, kC, iC, fC, hD', gC, stC, -, -, asC, slC⟩ := C
  cases hD.symm.trans hD'
  obtain ⟨D2, kD, e1, e2, e3, e4, e5⟩ := E
  cases hD.symm.trans e1
  obtain ⟨c2, k2, i1, i2, i3, -⟩ := Cond.instantiable_spec wi
  cases e2.symm.trans i1
  cases e3.symm.trans i2
  obtain ⟨kU, u1, u2⟩ := al.2.2 _ _ e3
  exact ⟨D, fV, fC, ⟨hD, ⟨knV, fun q hq => by rw [hq] at obV; cases obV⟩, by rw [al.findClass]; exact e2, kU, u1, by rw [u2]; exact i3, by rw [u2]; exact e5 i3⟩, ⟨SBG.found_only al ⟨cfV, kV, iV, gV⟩, stV⟩, ⟨SBG.found_only al ⟨cfC, kC, iC, gC⟩, stC⟩, slV, slC, by simp [RoadKit.slotOf, gV], by simp [RoadKit.slotOf, gC]⟩
theorem sta_is {Z U : State} (al : Z.vm.Alike U.vm) {C n d : String} {v : Value} (S : RoadKit.Sta Z U.heap C n d v) : StaticIs U C n d v := by
  obtain ⟨cfS, iS, kS, fS, st, cS, t1, t2, t3, t4, t5, t6, t7⟩ := S
  exact StaticIs.there (s := { Z with heap := U.heap }) ⟨cfS, iS, kS, fS, st, cS, t1, t2, t3, t4, t5, (fun q => by rw [q] at t6; cases t6), t7⟩ al rfl
end StrChars.Road
namespace StrChars
open Jvm Sem ClassFile Op Lib Jvm.Stand Jvm.Free.XT Jvm.Free.ALB Jvm.Free.JM Jvm.Free
open Jvm.Lib.Cold (StaticIs)
/-- what place i of a byte[]'s cell holds -/
def yv (A : Cell) (i : Nat) : Int32 := match A.slots[i]? with | some (.int x) => x | _ => 0
theorem yv_get {a : Addr} {A : Cell} {U : State} (h : XT.Arr .byte a A U) (ht : Typed .byte A) {i : Nat} (hi : i < A.slots.size) : A.slots[i]? = some (.int (yv A i)) := by
  have e := Array.getElem?_eq_getElem hi
  have f := ht i _ e
  unfold yv; rw [e]
  generalize A.slots[i] = v at f
  cases v <;> simp [fits] at f ⊢
/-- the two arrays are equal, place for place -/
def EqC (A B : Cell) : Prop := A.slots.size = B.slots.size ∧ ∀ i, i < A.slots.size → yv A i = yv B i
/-- a boolean that says whether p -/
def Says01 (q : Prop) (r : Option Value) (s u : State) : Prop := ∃ v : Int32, r = some (.int v) ∧ u.heap = s.heap ∧ ((v = 1 ∧ q) ∨ (v = 0 ∧ ¬ q))
theorem Says01.mv {q : Prop} : ∀ r (U U' V V' : State), U'.heap = U.heap → V.vm.Alike V'.vm → V'.heap = V.heap → Says01 q r U V → Says01 q r U' V' :=
  fun r U U' V V' h1 _ h2 ⟨v, a, b, c⟩ => ⟨v, a, by rw [h1, h2]; exact b, c⟩
namespace LEq
def yN : MethodName := ⟨"java/lang/StringLatin1", "equals", "([B[B)Z"⟩
abbrev yB : ByteArray := jdk_43_method_13_code
theorem d0 : decode yB 0 = .ok (.aload_n 0, 1) := by decide +kernel
theorem d1 : decode yB 1 = .ok (.arraylength, 1) := by decide +kernel
theorem d2 : decode yB 2 = .ok (.aload_n 1, 1) := by decide +kernel
theorem d3 : decode yB 3 = .ok (.arraylength, 1) := by decide +kernel
theorem d4 : decode yB 4 = .ok (.if_icmp (.ne) 30, 3) := by decide +kernel
theorem d7 : decode yB 7 = .ok (.iconst 0, 1) := by decide +kernel
theorem d8 : decode yB 8 = .ok (.istore_n 2, 1) := by decide +kernel
theorem d9 : decode yB 9 = .ok (.iload_n 2, 1) := by decide +kernel
theorem d10 : decode yB 10 = .ok (.aload_n 0, 1) := by decide +kernel
theorem d11 : decode yB 11 = .ok (.arraylength, 1) := by decide +kernel
theorem d12 : decode yB 12 = .ok (.if_icmp (.ge) 20, 3) := by decide +kernel
theorem d15 : decode yB 15 = .ok (.aload_n 0, 1) := by decide +kernel
theorem d16 : decode yB 16 = .ok (.iload_n 2, 1) := by decide +kernel
theorem d17 : decode yB 17 = .ok (.baload, 1) := by decide +kernel
theorem d18 : decode yB 18 = .ok (.aload_n 1, 1) := by decide +kernel
theorem d19 : decode yB 19 = .ok (.iload_n 2, 1) := by decide +kernel
theorem d20 : decode yB 20 = .ok (.baload, 1) := by decide +kernel
theorem d21 : decode yB 21 = .ok (.if_icmp (.eq) 5, 3) := by decide +kernel
theorem d24 : decode yB 24 = .ok (.iconst 0, 1) := by decide +kernel
theorem d25 : decode yB 25 = .ok (.ireturn, 1) := by decide +kernel
theorem d26 : decode yB 26 = .ok (.iinc 2 1, 3) := by decide +kernel
theorem d29 : decode yB 29 = .ok (.goto (-20), 3) := by decide +kernel
theorem d32 : decode yB 32 = .ok (.iconst 1, 1) := by decide +kernel
theorem d33 : decode yB 33 = .ok (.ireturn, 1) := by decide +kernel
theorem d34 : decode yB 34 = .ok (.iconst 0, 1) := by decide +kernel
theorem d35 : decode yB 35 = .ok (.ireturn, 1) := by decide +kernel
def site : List Cond := []
def tab : Cond := tabOf yN yB 3 (some .boolean) site
def P (a : Addr) (A : Cell) (b : Addr) (B : Cell) (args : Array Value) (s : State) : Prop := args = #[.ref a, .ref b] ∧ XT.Arr .byte a A s ∧ Typed .byte A ∧ XT.Arr .byte b B s ∧ Typed .byte B
/-- whether two byte[] are equal, place for place -/
theorem law (l : Launch) (a : Addr) (A : Cell) (b : Addr) (B : Cell) : Law l yN 2 2 0 0 yB 3 (some .boolean) site (P a A b B) (Says01 (EqC A B)) [] 0 0 := by
  refine Law.of_walk (plainFor_of_name (by decide +kernel)) (by decide +kernel) (by decide +kernel) (by decide) (fun _ _ h => by rw [h.1]; rfl) (fun _ U U' hal hh h => ⟨h.1, h.2.1.mv hal hh, h.2.2.1, h.2.2.2.1.mv hal hh, h.2.2.2.2⟩) (fun r U U' V V' h1 hal h2 h => Says01.mv r U U' V V' h1 hal h2 h) ?_
  intro p e s m args below meth c s₁ X0 hexec hbytes hml hret hlk hnm hown hh0 W hP
  obtain ⟨rfl, hA, tA, hB, tB⟩ := hP
  have a31 := hA.2.2.2
  have b31 := hB.2.2.2
  have hA0 := hA.mv X0.warmed.alike hh0
  have hB0 := hB.mv X0.warmed.alike hh0
  have c1 : Steps p.tables e below (s₁.setTop (entryFrame m #[.ref a, .ref b] 3)) (s₁.setTop (mkF m 0 #[.val (.ref a), .val (.ref b), .unset] [])) := entry rfl
  have c2 : Steps p.tables e below (s₁.setTop (entryFrame m #[.ref a, .ref b] 3)) (s₁.setTop (mkF m 4 #[.val (.ref a), .val (.ref b), .unset] [.int (Int32.ofNat B.slots.size), .int (Int32.ofNat A.slots.size)])) := c1.trans (by
    refine XS.aloadN X0.here hexec rfl (hb hbytes d0) rfl rfl ?_
    refine X0.alen hexec hA0 rfl rfl (hb hbytes d1) ?_
    refine XS.aloadN X0.here hexec rfl (hb hbytes d2) rfl rfl ?_
    refine X0.alen hexec hB0 rfl rfl (hb hbytes d3) ?_
    exact Steps.refl _)
  by_cases hs : A.slots.size = B.slots.size
  · have c3 : Steps p.tables e below (s₁.setTop (entryFrame m #[.ref a, .ref b] 3)) (s₁.setTop (mkF m 9 #[.val (.ref a), .val (.ref b), .val (.int 0)] [])) := c2.trans (by
      refine XS.icmpNo X0.here hexec rfl (hb hbytes d4) rfl (ii_ne_f (by rw [hs])) ?_
      refine iconstV X0.here hexec rfl 0 (hb hbytes d7) (by decide) ?_
      refine XS.istoreN X0.here hexec rfl (hb hbytes d8) rfl rfl ?_
      exact Steps.refl _)
    have loop : ∀ (r i : Nat), i + r = A.slots.size → (∀ j, j < i → yv A j = yv B j) → Steps p.tables e below (s₁.setTop (entryFrame m #[.ref a, .ref b] 3)) (s₁.setTop (mkF m 9 #[.val (.ref a), .val (.ref b), .val (.int (Int32.ofNat i))] [])) → ∃ (pc : Nat) (Ls : Array Slot) (v : Int32), (pc = 25 ∨ pc = 33) ∧ ((v = 1 ∧ EqC A B) ∨ (v = 0 ∧ ¬ EqC A B)) ∧ Steps p.tables e below (s₁.setTop (entryFrame m #[.ref a, .ref b] 3)) (s₁.setTop (mkF m pc Ls [.int v])) := by
      intro r
      induction r with
      | zero =>
        intro i hi he cl
        exact ⟨33, _, 1, Or.inr rfl, Or.inl ⟨rfl, hs, fun j hj => he j (by omega)⟩, cl.trans (by
          refine XS.iloadN X0.here hexec rfl (hb hbytes d9) rfl ?_
          refine XS.aloadN X0.here hexec rfl (hb hbytes d10) rfl rfl ?_
          refine X0.alen hexec hA0 rfl rfl (hb hbytes d11) ?_
          refine XS.icmpYes X0.here hexec rfl (pc0 := 12) rfl (hb hbytes d12) rfl (ii_ge_t (nlt32 (by omega) (by omega))) (by decide) rfl ?_
          refine iconstV X0.here hexec rfl 1 (hb hbytes d32) (by decide) ?_
          exact Steps.refl _)⟩
      | succ r ih =>
        intro i hi he cl
        have c4 : Steps p.tables e below (s₁.setTop (entryFrame m #[.ref a, .ref b] 3)) (s₁.setTop (mkF m 21 #[.val (.ref a), .val (.ref b), .val (.int (Int32.ofNat i))] [.int (yv B i), .int (yv A i)])) := cl.trans (by
          refine XS.iloadN X0.here hexec rfl (hb hbytes d9) rfl ?_
          refine XS.aloadN X0.here hexec rfl (hb hbytes d10) rfl rfl ?_
          refine X0.alen hexec hA0 rfl rfl (hb hbytes d11) ?_
          refine XS.icmpNo X0.here hexec rfl (hb hbytes d12) rfl (ii_ge_f (lt32 (by omega) (by omega))) ?_
          refine XS.aloadN X0.here hexec rfl (hb hbytes d15) rfl rfl ?_
          refine XS.iloadN X0.here hexec rfl (hb hbytes d16) rfl ?_
          refine X0.aget hexec hA0 rfl (yv_get hA tA (i := i) (by omega)) rfl rfl (hb hbytes d17) ?_
          refine XS.aloadN X0.here hexec rfl (hb hbytes d18) rfl rfl ?_
          refine XS.iloadN X0.here hexec rfl (hb hbytes d19) rfl ?_
          refine X0.aget hexec hB0 rfl (yv_get hB tB (i := i) (by omega)) rfl rfl (hb hbytes d20) ?_
          exact Steps.refl _)
        by_cases hv : yv A i = yv B i
        · have c5 : Steps p.tables e below (s₁.setTop (entryFrame m #[.ref a, .ref b] 3)) (s₁.setTop (mkF m 9 #[.val (.ref a), .val (.ref b), .val (.int (Int32.ofNat i + 1))] [])) := c4.trans (by
            refine XS.icmpYes X0.here hexec rfl (pc0 := 21) rfl (hb hbytes d21) rfl (ii_eq_t hv) (by decide) rfl ?_
            refine iincV X0.here hexec rfl 1 (hb hbytes d26) (by decide) rfl rfl ?_
            refine XS.goto X0.here hexec rfl (pc0 := 29) rfl (hb hbytes d29) (by decide) rfl ?_
            exact Steps.refl _)
          rw [succ32] at c5
          exact ih (i + 1) (by omega) (fun j hj => by
            by_cases e : j = i
            · rw [e]; exact hv
            · exact he j (by omega)) c5
        · exact ⟨25, _, 0, Or.inl rfl, Or.inr ⟨rfl, fun q => hv (q.2 i (by omega))⟩, c4.trans (by
            refine XS.icmpNo X0.here hexec rfl (hb hbytes d21) rfl (ii_eq_f hv) ?_
            refine iconstV X0.here hexec rfl 0 (hb hbytes d24) (by decide) ?_
            exact Steps.refl _)⟩
    obtain ⟨pc, Ls, v, hpc, hv, cz⟩ := loop A.slots.size 0 (by omega) (fun j hj => absurd hj (Nat.not_lt_zero j)) c3
    have nv : narrow .boolean (.int v) = .int v := by rcases hv with ⟨rfl, -⟩ | ⟨rfl, -⟩ <;> rfl
    rcases hpc with rfl | rfl
    · exact ⟨s₁, some (.int v), _, _, _, X0, rfl, rfl, rfl, (fun h => by cases h), ⟨v, rfl, hh0, hv⟩, fun fs hl => cz.trans (X0.ireturnOut hexec hret nv (Or.inr (Or.inl rfl)) (hb hbytes d25) hl)⟩
    · exact ⟨s₁, some (.int v), _, _, _, X0, rfl, rfl, rfl, (fun h => by cases h), ⟨v, rfl, hh0, hv⟩, fun fs hl => cz.trans (X0.ireturnOut hexec hret nv (Or.inr (Or.inl rfl)) (hb hbytes d33) hl)⟩
  · have c3 : Steps p.tables e below (s₁.setTop (entryFrame m #[.ref a, .ref b] 3)) (s₁.setTop (mkF m 35 #[.val (.ref a), .val (.ref b), .unset] [.int 0])) := c2.trans (by
      refine XS.icmpYes X0.here hexec rfl (pc0 := 4) rfl (hb hbytes d4) rfl (ii_ne_t (ne32 a31 b31 hs)) (by decide) rfl ?_
      refine iconstV X0.here hexec rfl 0 (hb hbytes d34) (by decide) ?_
      exact Steps.refl _)
    exact ⟨s₁, some (.int 0), _, _, _, X0, rfl, rfl, rfl, (fun h => by cases h), ⟨0, rfl, hh0, Or.inr ⟨rfl, fun q => hs q.1⟩⟩, fun fs hl => c3.trans (X0.ireturnOut hexec hret rfl (Or.inr (Or.inl rfl)) (hb hbytes d35) hl)⟩
end LEq
theorem Cod.ty {cd : Int32} {n : Nat} {f : Nat → Int32} {V : Cell} (h : Cod cd n f V) : Typed .byte V := fun i v hv => by
  have hi : i < V.slots.size := (Array.getElem?_eq_some_iff.mp hv).1
  rcases h with ⟨-, k1, k2⟩ | ⟨-, k1, k2, -⟩
  · rw [(k2 i (by omega)).1] at hv; cases hv; exact fits_lo8 _
  · rcases Nat.mod_two_eq_zero_or_one i with e | e
    · obtain ⟨j, rfl⟩ : ∃ j, i = 2 * j := ⟨i / 2, by omega⟩
      rw [(k2 j (by omega)).1] at hv; cases hv; exact fits_lo8 _
    · obtain ⟨j, rfl⟩ : ∃ j, i = 2 * j + 1 := ⟨i / 2, by omega⟩
      rw [(k2 j (by omega)).2] at hv; cases hv; exact fits_lo8 _
/-- the same text -/
def SameT (n : Nat) (f : Nat → Int32) (k : Nat) (g : Nat → Int32) : Prop := n = k ∧ ∀ j, j < n → f j = g j
theorem lo8_inj {x y : Int32} (h0 : ¬ x < 0) (h1 : ¬ 255 < x) (k0 : ¬ y < 0) (k1 : ¬ 255 < y) (h : lo8 x = lo8 y) : x = y := by
  rw [← lo8_mask h0 h1, ← lo8_mask k0 k1, h]
/-- arrays coded by one coder are equal just where the texts are -/
theorem Cod.eqv {cd : Int32} {n k : Nat} {f g : Nat → Int32} {V V' : Cell} (h : Cod cd n f V) (h' : Cod cd k g V') (hf : ∀ j, j < n → ¬ f j < 0 ∧ ¬ 65535 < f j) (hg : ∀ j, j < k → ¬ g j < 0 ∧ ¬ 65535 < g j) : EqC V V' ↔ SameT n f k g := by
  have yvv : ∀ {W : Cell} {i : Nat} {x : Int32}, W.slots[i]? = some (.int x) → yv W i = x := fun q => by unfold yv; rw [q]
  rcases h with ⟨rfl, k1, k2⟩ | ⟨rfl, k1, k2, -⟩
  · rcases h' with ⟨-, m1, m2⟩ | ⟨e, -⟩
    · constructor
      · rintro ⟨e1, e2⟩
        refine ⟨by omega, fun j hj => ?_⟩
        have q := e2 j (by omega)
        rw [yvv (k2 j hj).1, yvv (m2 j (by omega)).1] at q
        exact lo8_inj (hf j hj).1 (k2 j hj).2 (hg j (by omega)).1 (m2 j (by omega)).2 q
      · rintro ⟨rfl, e2⟩
        refine ⟨by omega, fun j hj => ?_⟩
        rw [yvv (k2 j (by omega)).1, yvv (m2 j (by omega)).1, e2 j (by omega)]
    · exact absurd e (by decide)
  · rcases h' with ⟨e, -⟩ | ⟨-, m1, m2, -⟩
    · exact absurd e (by decide)
    · constructor
      · rintro ⟨e1, e2⟩
        refine ⟨by omega, fun j hj => ?_⟩
        have q1 := e2 (2 * j) (by omega)
        have q2 := e2 (2 * j + 1) (by omega)
        rw [yvv (k2 j hj).1, yvv (m2 j (by omega)).1] at q1
        rw [yvv (k2 j hj).2, yvv (m2 j (by omega)).2] at q2
        rw [← pair_says (hf j hj).1 (hf j hj).2, ← pair_says (hg j (by omega)).1 (hg j (by omega)).2, q1, q2]
      · rintro ⟨rfl, e2⟩
        refine ⟨by omega, fun i hi => ?_⟩
        rcases Nat.mod_two_eq_zero_or_one i with e | e
        · obtain ⟨j, rfl⟩ : ∃ j, i = 2 * j := ⟨i / 2, by omega⟩
          rw [yvv (k2 j (by omega)).1, yvv (m2 j (by omega)).1, e2 j (by omega)]
        · obtain ⟨j, rfl⟩ : ∃ j, i = 2 * j + 1 := ⟨i / 2, by omega⟩
          rw [yvv (k2 j (by omega)).2, yvv (m2 j (by omega)).2, e2 j (by omega)]
/-- two codings differ: so do the texts -/
theorem Cod.dif {cd cd' : Int32} {n k : Nat} {f g : Nat → Int32} {V V' : Cell} (h : Cod cd n f V) (h' : Cod cd' k g V') (hne : ¬ cd = cd') : ¬ SameT n f k g := by
  rintro ⟨rfl, e⟩
  rcases h with ⟨rfl, -, k2⟩ | ⟨rfl, -, -, j, hj, hw⟩
  · rcases h' with ⟨rfl, -⟩ | ⟨-, -, -, j, hj, hw⟩
    · exact hne rfl
    · exact (k2 j hj).2 (by rw [e j hj]; exact hw)
  · rcases h' with ⟨-, -, m2⟩ | ⟨rfl, -⟩
    · exact (m2 j hj).2 (by rw [← e j hj]; exact hw)
    · exact hne rfl
/-- an object of exactly C is an instance of C -/
theorem cinst {p : Program} {l : Launch} {e : Env} {R : Room} {s : State} {m : MethodId} {args : Array Value} {below : List Frame} {meth : Method} {c : Code} {T : State} {locs : List Loc} {cells slots : Nat} (X : Stand p l e R s m args below meth c T locs cells slots) (hexec : p.tables.exec = Jvm.exec) {own C : String} {index : Nat} (hown : s.vm.findClass own = some m.cls) (hlink : (Cond.classLink own index C).before args s = true) {a : Addr} (hE : Exact C a T)
    {g : JFrame} (hg : g.method = m) {rest : List Value} (hstack : g.stack = .ref a :: rest) (hdg : decode c.code g.pc = .ok (.instanceof index, 3)) :
    ∃ T', Stand p l e R s m args below meth c T' locs cells slots ∧ T'.heap = T.heap ∧ ∀ target, Steps p.tables e below (T'.setTop { g with pc := g.pc + 3, stack := .int 1 :: rest }) target → Steps p.tables e below (T.setTop g) target := by
  obtain ⟨cB, h1, D, h2, h3, h4⟩ := hE
  have h1' : s.vm.findClass C = some cB := by rw [← X.warmed.alike.findClass]; exact h1
  obtain ⟨vm', X', st⟩ := X.instanceofYes hexec hown hlink h2 h4 h1' (by rw [h3]; exact Jvm.Free.SB.assignable_self _ _) hg hstack hdg
  exact ⟨_, X', rfl, st⟩
theorem cself {p : Program} {l : Launch} {e : Env} {R : Room} {s : State} {m : MethodId} {args : Array Value} {below : List Frame} {meth : Method} {c : Code} {T : State} {locs : List Loc} {cells slots : Nat} (X : Stand p l e R s m args below meth c T locs cells slots) (hexec : p.tables.exec = Jvm.exec) {own C : String} {index : Nat} (hown : s.vm.findClass own = some m.cls) (hlink : (Cond.classLink own index C).before args s = true) {a : Addr} (hE : Exact C a T)
    {g : JFrame} (hg : g.method = m) {rest : List Value} (hstack : g.stack = .ref a :: rest) (hdg : decode c.code g.pc = .ok (.checkcast index, 3)) :
    ∃ T', Stand p l e R s m args below meth c T' locs cells slots ∧ T'.heap = T.heap ∧ ∀ target, Steps p.tables e below (T'.setTop { g with pc := g.pc + 3, stack := .ref a :: rest }) target → Steps p.tables e below (T.setTop g) target := by
  obtain ⟨cB, h1, D, h2, h3, h4⟩ := hE
  have h1' : s.vm.findClass C = some cB := by rw [← X.warmed.alike.findClass]; exact h1
  obtain ⟨vm', X', st⟩ := X.checkcastYes hexec hown hlink h2 h4 h1' (by rw [h3]; exact Jvm.Free.SB.assignable_self _ _) hg hstack hdg
  exact ⟨_, X', rfl, fun t h => st t (by rw [← hstack] at h; exact h)⟩
namespace SEq
def yN : MethodName := ⟨"java/lang/String", "equals", "(Ljava/lang/Object;)Z"⟩
abbrev yB : ByteArray := jdk_42_method_66_code
theorem d0 : decode yB 0 = .ok (.aload_n 0, 1) := by decide +kernel
theorem d1 : decode yB 1 = .ok (.aload_n 1, 1) := by decide +kernel
theorem d2 : decode yB 2 = .ok (.if_acmp (.ne) 5, 3) := by decide +kernel
theorem d5 : decode yB 5 = .ok (.iconst 1, 1) := by decide +kernel
theorem d6 : decode yB 6 = .ok (.ireturn, 1) := by decide +kernel
theorem d7 : decode yB 7 = .ok (.aload_n 1, 1) := by decide +kernel
theorem d8 : decode yB 8 = .ok (.instanceof 10, 3) := by decide +kernel
theorem d11 : decode yB 11 = .ok (.ifCond (.eq) 43, 3) := by decide +kernel
theorem d14 : decode yB 14 = .ok (.aload_n 1, 1) := by decide +kernel
theorem d15 : decode yB 15 = .ok (.checkcast 10, 3) := by decide +kernel
theorem d18 : decode yB 18 = .ok (.astore_n 2, 1) := by decide +kernel
theorem d19 : decode yB 19 = .ok (.getstatic 38, 3) := by decide +kernel
theorem d22 : decode yB 22 = .ok (.ifCond (.eq) 14, 3) := by decide +kernel
theorem d25 : decode yB 25 = .ok (.aload_n 0, 1) := by decide +kernel
theorem d26 : decode yB 26 = .ok (.getfield 15, 3) := by decide +kernel
theorem d29 : decode yB 29 = .ok (.aload_n 2, 1) := by decide +kernel
theorem d30 : decode yB 30 = .ok (.getfield 15, 3) := by decide +kernel
theorem d33 : decode yB 33 = .ok (.if_icmp (.ne) 21, 3) := by decide +kernel
theorem d36 : decode yB 36 = .ok (.aload_n 0, 1) := by decide +kernel
theorem d37 : decode yB 37 = .ok (.getfield 9, 3) := by decide +kernel
theorem d40 : decode yB 40 = .ok (.aload_n 2, 1) := by decide +kernel
theorem d41 : decode yB 41 = .ok (.getfield 9, 3) := by decide +kernel
theorem d44 : decode yB 44 = .ok (.invokestatic 541, 3) := by decide +kernel
theorem d47 : decode yB 47 = .ok (.ifCond (.eq) 7, 3) := by decide +kernel
theorem d50 : decode yB 50 = .ok (.iconst 1, 1) := by decide +kernel
theorem d51 : decode yB 51 = .ok (.goto 4, 3) := by decide +kernel
theorem d54 : decode yB 54 = .ok (.iconst 0, 1) := by decide +kernel
theorem d55 : decode yB 55 = .ok (.ireturn, 1) := by decide +kernel
def site : List Cond := [.classLink "java/lang/String" 10 "java/lang/String", .fieldLink "java/lang/String" 38 "java/lang/String" "COMPACT_STRINGS" "Z", .fieldLink "java/lang/String" 15 "java/lang/String" "coder" "B", .fieldLink "java/lang/String" 9 "java/lang/String" "value" "[B", LEq.tab] ++ staticW "java/lang/String" 541 LEq.yN
def tab : Cond := tabOf yN yB 3 (some .boolean) site
def P (x t : Addr) (V : Cell) (cd : Int32) (n : Nat) (f : Nat → Int32) (y t' : Addr) (V' : Cell) (cd' : Int32) (k : Nat) (g : Nat → Int32) (z : Int32) (args : Array Value) (s : State) : Prop := args = #[.ref x, .ref y] ∧ Txt x t V cd n f s ∧ Txt y t' V' cd' k g s ∧ StaticIs s "java/lang/String" "COMPACT_STRINGS" "Z" (.int z) ∧ ¬ z = 0
/-- equals(Object) of two Strings: whether the texts are the same -/
theorem law (l : Launch) (x t : Addr) (V : Cell) (cd : Int32) (n : Nat) (f : Nat → Int32) (y t' : Addr) (V' : Cell) (cd' : Int32) (k : Nat) (g : Nat → Int32) (z : Int32) : Law l yN 2 1 1 14 yB 3 (some .boolean) site (P x t V cd n f y t' V' cd' k g z) (Says01 (SameT n f k g)) [] 0 0 := by
  refine Law.of_walk (plainFor_of_name (by decide +kernel)) (by decide +kernel) (by decide +kernel) (by decide) (fun _ _ h => by rw [h.1]; rfl) (fun _ U U' hal hh h => ⟨h.1, h.2.1.mv hal hh, h.2.2.1.mv hal hh, h.2.2.2.1.there hal hh, h.2.2.2.2⟩) (fun r U U' V V' h1 hal h2 h => Says01.mv r U U' V V' h1 hal h2 h) ?_
  intro p e s m args below meth c s₁ X0 hexec hbytes hml hret hlk hnm hown hh0 W hP
  obtain ⟨rfl, hx, hy, s1, hz⟩ := hP
  have c1 : Steps p.tables e below (s₁.setTop (entryFrame m #[.ref x, .ref y] 3)) (s₁.setTop (mkF m 2 #[.val (.ref x), .val (.ref y), .unset] [.ref y, .ref x])) := Steps.trans (entry rfl) (by
    show Steps p.tables e below (s₁.setTop (mkF m 0 #[.val (.ref x), .val (.ref y), .unset] [])) _
    refine XS.aloadN X0.here hexec rfl (hb hbytes d0) rfl rfl ?_
    refine XS.aloadN X0.here hexec rfl (hb hbytes d1) rfl rfl ?_
    exact Steps.refl _)
  by_cases hxy : x = y
  · have c2 : Steps p.tables e below (s₁.setTop (entryFrame m #[.ref x, .ref y] 3)) (s₁.setTop (mkF m 6 #[.val (.ref x), .val (.ref y), .unset] [.int 1])) := c1.trans (by
      refine acmpNo X0.here hexec rfl (hb hbytes d2) rfl rfl rfl (by simp [acmp, hxy]) ?_
      refine iconstV X0.here hexec rfl 1 (hb hbytes d5) (by decide) ?_
      exact Steps.refl _)
    subst hxy
    have ec : cd = cd' := by
      obtain ⟨D, fd, a1, a2, a3⟩ := hx.2.2.1
      obtain ⟨D', fd', b1, b2, b3⟩ := hy.2.2.1
      cases a1.symm.trans b1
      obtain ⟨q1, q2, q3, q4⟩ := a2.1
      obtain ⟨r1, r2, r3, r4⟩ := b2.1
      cases q4.symm.trans r4
      cases a3.symm.trans b3; rfl
    have et : t = t' := by
      obtain ⟨D, fd, a1, a2, a3⟩ := hx.2.1
      obtain ⟨D', fd', b1, b2, b3⟩ := hy.2.1
      cases a1.symm.trans b1
      obtain ⟨q1, q2, q3, q4⟩ := a2.1
      obtain ⟨r1, r2, r3, r4⟩ := b2.1
      cases q4.symm.trans r4
      cases a3.symm.trans b3; rfl
    subst ec et
    have ev : V = V' := by cases hx.2.2.2.1.1.symm.trans hy.2.2.2.1.1; rfl
    subst ev
    have hs : SameT n f k g := (Cod.eqv hx.2.2.2.2.1 hy.2.2.2.2.1 hx.2.2.2.2.2 hy.2.2.2.2.2).mp ⟨rfl, fun _ _ => rfl⟩
    exact ⟨s₁, some (.int 1), _, _, _, X0, rfl, rfl, rfl, (fun h => by cases h), ⟨1, rfl, hh0, Or.inl ⟨rfl, hs⟩⟩, fun fs hl => c2.trans (X0.ireturnOut hexec hret rfl (Or.inr (Or.inl rfl)) (hb hbytes d6) hl)⟩
  · have c2 : Steps p.tables e below (s₁.setTop (entryFrame m #[.ref x, .ref y] 3)) (s₁.setTop (mkF m 8 #[.val (.ref x), .val (.ref y), .unset] [.ref y])) := c1.trans (by
      refine acmpYes X0.here hexec rfl (pc0 := 2) rfl (hb hbytes d2) rfl rfl rfl (by simp [acmp, hxy]) (by decide) rfl ?_
      refine XS.aloadN X0.here hexec rfl (hb hbytes d7) rfl rfl ?_
      exact Steps.refl _)
    obtain ⟨T3, X3, q3, st3⟩ := cinst X0 hexec hown (wk W (.classLink "java/lang/String" 10 "java/lang/String")) (hy.mv X0.warmed.alike hh0).1 (g := (mkF m 8 #[.val (.ref x), .val (.ref y), .unset] [.ref y])) rfl (rest := []) rfl (hb hbytes d8)
    have hh3 := q3.trans hh0
    have c4 : Steps p.tables e below (s₁.setTop (entryFrame m #[.ref x, .ref y] 3)) (T3.setTop (mkF m 15 #[.val (.ref x), .val (.ref y), .unset] [.ref y])) := (c2.trans (st3 _ (Steps.refl _))).trans (by
      refine XS.ifNo X3.here hexec rfl (hb hbytes d11) rfl (i0_eq_f (by decide)) ?_
      refine XS.aloadN X3.here hexec rfl (hb hbytes d14) rfl rfl ?_
      exact Steps.refl _)
    obtain ⟨T5, X5, q5, st5⟩ := cself X3 hexec hown (wk W (.classLink "java/lang/String" 10 "java/lang/String")) (hy.mv X3.warmed.alike hh3).1 (g := (mkF m 15 #[.val (.ref x), .val (.ref y), .unset] [.ref y])) rfl (rest := []) rfl (hb hbytes d15)
    have hh5 := q5.trans hh3
    have c6 : Steps p.tables e below (s₁.setTop (entryFrame m #[.ref x, .ref y] 3)) (T5.setTop (mkF m 19 #[.val (.ref x), .val (.ref y), .val (.ref y)] [])) := (c4.trans (st5 _ (Steps.refl _))).trans (by
      refine XS.astoreN X5.here hexec rfl (hb hbytes d18) rfl rfl rfl ?_
      exact Steps.refl _)
    obtain ⟨T7, X7, q7, st7⟩ := X5.sget hexec hown (wk W (.fieldLink "java/lang/String" 38 "java/lang/String" "COMPACT_STRINGS" "Z")) s1 (fun _ _ h => by rw [hh5]; exact h) (g := (mkF m 19 #[.val (.ref x), .val (.ref y), .val (.ref y)] [])) rfl (hb hbytes d19)
    have hh7 := q7.trans hh5
    have c8 : Steps p.tables e below (s₁.setTop (entryFrame m #[.ref x, .ref y] 3)) (T7.setTop (mkF m 26 #[.val (.ref x), .val (.ref y), .val (.ref y)] [.ref x])) := (c6.trans (st7 _ (Steps.refl _))).trans (by
      refine XS.ifNo X7.here hexec rfl (hb hbytes d22) rfl (i0_eq_f hz) ?_
      refine XS.aloadN X7.here hexec rfl (hb hbytes d25) rfl rfl ?_
      exact Steps.refl _)
    obtain ⟨T9, X9, q9, st9⟩ := X7.hget hexec hown (wk W (.fieldLink "java/lang/String" 15 "java/lang/String" "coder" "B")) (hx.mv X7.warmed.alike hh7).2.2.1 (g := (mkF m 26 #[.val (.ref x), .val (.ref y), .val (.ref y)] [.ref x])) rfl (rest := []) rfl (hb hbytes d26)
    have hh9 := q9.trans hh7
    have c10 : Steps p.tables e below (s₁.setTop (entryFrame m #[.ref x, .ref y] 3)) (T9.setTop (mkF m 30 #[.val (.ref x), .val (.ref y), .val (.ref y)] [.ref y, .int cd])) := (c8.trans (st9 _ (Steps.refl _))).trans (by
      refine XS.aloadN X9.here hexec rfl (hb hbytes d29) rfl rfl ?_
      exact Steps.refl _)
    obtain ⟨T11, X11, q11, st11⟩ := X9.hget hexec hown (wk W (.fieldLink "java/lang/String" 15 "java/lang/String" "coder" "B")) (hy.mv X9.warmed.alike hh9).2.2.1 (g := (mkF m 30 #[.val (.ref x), .val (.ref y), .val (.ref y)] [.ref y, .int cd])) rfl (rest := [.int cd]) rfl (hb hbytes d30)
    have hh11 := q11.trans hh9
    have c12 : Steps p.tables e below (s₁.setTop (entryFrame m #[.ref x, .ref y] 3)) (T11.setTop (mkF m 33 #[.val (.ref x), .val (.ref y), .val (.ref y)] [.int cd', .int cd])) := c10.trans (st11 _ (Steps.refl _))
    by_cases hcd : cd = cd'
    · subst hcd
      have c13 : Steps p.tables e below (s₁.setTop (entryFrame m #[.ref x, .ref y] 3)) (T11.setTop (mkF m 37 #[.val (.ref x), .val (.ref y), .val (.ref y)] [.ref x])) := c12.trans (by
        refine XS.icmpNo X11.here hexec rfl (hb hbytes d33) rfl (ii_ne_f rfl) ?_
        refine XS.aloadN X11.here hexec rfl (hb hbytes d36) rfl rfl ?_
        exact Steps.refl _)
      obtain ⟨T14, X14, q14, st14⟩ := X11.hget hexec hown (wk W (.fieldLink "java/lang/String" 9 "java/lang/String" "value" "[B")) (hx.mv X11.warmed.alike hh11).2.1 (g := (mkF m 37 #[.val (.ref x), .val (.ref y), .val (.ref y)] [.ref x])) rfl (rest := []) rfl (hb hbytes d37)
      have hh14 := q14.trans hh11
      have c15 : Steps p.tables e below (s₁.setTop (entryFrame m #[.ref x, .ref y] 3)) (T14.setTop (mkF m 41 #[.val (.ref x), .val (.ref y), .val (.ref y)] [.ref y, .ref t])) := (c13.trans (st14 _ (Steps.refl _))).trans (by
        refine XS.aloadN X14.here hexec rfl (hb hbytes d40) rfl rfl ?_
        exact Steps.refl _)
      obtain ⟨T16, X16, q16, st16⟩ := X14.hget hexec hown (wk W (.fieldLink "java/lang/String" 9 "java/lang/String" "value" "[B")) (hy.mv X14.warmed.alike hh14).2.1 (g := (mkF m 41 #[.val (.ref x), .val (.ref y), .val (.ref y)] [.ref y, .ref t])) rfl (rest := [.ref t]) rfl (hb hbytes d41)
      have hh16 := q16.trans hh14
      have c17 : Steps p.tables e below (s₁.setTop (entryFrame m #[.ref x, .ref y] 3)) (T16.setTop (mkF m 44 #[.val (.ref x), .val (.ref y), .val (.ref y)] [.ref t', .ref t])) := c15.trans (st16 _ (Steps.refl _))
      obtain ⟨v18, T18, X18, E18, g18⟩ := X16.callS hexec (LEq.law l t V t' V') hown (wks W (staticW "java/lang/String" 541 LEq.yN)) (wk W LEq.tab) (W := 0) (Nat.le_of_ble_eq_true rfl) (Nat.le_of_ble_eq_true rfl) (Nat.le_refl _) (Nat.le_refl _) (g := (mkF m 44 #[.val (.ref x), .val (.ref y), .val (.ref y)] [.ref t', .ref t])) rfl (by rw [hml]; rfl) c17 (argsL := [.ref t, .ref t']) (rest := []) rfl rfl (by show 2 * 0 + 0 ≤ _; decide) (hb hbytes d44) (⟨rfl, hx.2.2.2.1.mv X16.warmed.alike hh16, hx.2.2.2.2.1.ty, hy.2.2.2.1.mv X16.warmed.alike hh16, hy.2.2.2.2.1.ty⟩)
      obtain ⟨v, rfl, q18, hv⟩ := E18
      have iff := Cod.eqv hx.2.2.2.2.1 hy.2.2.2.2.1 hx.2.2.2.2.2 hy.2.2.2.2.2
      rcases hv with ⟨rfl, he⟩ | ⟨rfl, he⟩
      · have c19 : Steps p.tables e below (s₁.setTop (entryFrame m #[.ref x, .ref y] 3)) (T18.setTop (mkF m 55 #[.val (.ref x), .val (.ref y), .val (.ref y)] [.int 1])) := Steps.trans g18 (by
          refine XS.ifNo X18.here hexec rfl (hb hbytes d47) rfl (i0_eq_f (by decide)) ?_
          refine iconstV X18.here hexec rfl 1 (hb hbytes d50) (by decide) ?_
          refine XS.goto X18.here hexec rfl (pc0 := 51) rfl (hb hbytes d51) (by decide) rfl ?_
          exact Steps.refl _)
        exact ⟨T18, some (.int 1), _, _, _, X18, rfl, rfl, rfl, (fun h => by cases h), ⟨1, rfl, q18.trans hh16, Or.inl ⟨rfl, iff.mp he⟩⟩, fun fs hl => c19.trans (X18.ireturnOut hexec hret rfl (Or.inr (Or.inl rfl)) (hb hbytes d55) hl)⟩
      · have c19 : Steps p.tables e below (s₁.setTop (entryFrame m #[.ref x, .ref y] 3)) (T18.setTop (mkF m 55 #[.val (.ref x), .val (.ref y), .val (.ref y)] [.int 0])) := Steps.trans g18 (by
          refine XS.ifYes X18.here hexec rfl (pc0 := 47) rfl (hb hbytes d47) rfl (i0_eq_t rfl) (by decide) rfl ?_
          refine iconstV X18.here hexec rfl 0 (hb hbytes d54) (by decide) ?_
          exact Steps.refl _)
        exact ⟨T18, some (.int 0), _, _, _, X18, rfl, rfl, rfl, (fun h => by cases h), ⟨0, rfl, q18.trans hh16, Or.inr ⟨rfl, fun q => he (iff.mpr q)⟩⟩, fun fs hl => c19.trans (X18.ireturnOut hexec hret rfl (Or.inr (Or.inl rfl)) (hb hbytes d55) hl)⟩
    · have c13 : Steps p.tables e below (s₁.setTop (entryFrame m #[.ref x, .ref y] 3)) (T11.setTop (mkF m 55 #[.val (.ref x), .val (.ref y), .val (.ref y)] [.int 0])) := c12.trans (by
        refine XS.icmpYes X11.here hexec rfl (pc0 := 33) rfl (hb hbytes d33) rfl (ii_ne_t hcd) (by decide) rfl ?_
        refine iconstV X11.here hexec rfl 0 (hb hbytes d54) (by decide) ?_
        exact Steps.refl _)
      exact ⟨T11, some (.int 0), _, _, _, X11, rfl, rfl, rfl, (fun h => by cases h), ⟨0, rfl, hh11, Or.inr ⟨rfl, Cod.dif hx.2.2.2.2.1 hy.2.2.2.2.1 hcd⟩⟩, fun fs hl => c13.trans (X11.ireturnOut hexec hret rfl (Or.inr (Or.inl rfl)) (hb hbytes d55) hl)⟩
theorem pays {l : Launch} {R : Room} {p : Program} {e : Env} {below : List Frame} {s : State} {sargs : Array Value} {len W : Nat} (x t : Addr) (V : Cell) (cd : Int32) (n : Nat) (f : Nat → Int32) (y t' : Addr) (V' : Cell) (cd' : Int32) (k : Nat) (g : Nat → Int32) (z : Int32) (htab : tab.before sargs s = true) (hfr : 2 ≤ R.frames) (hlo : W + 28 ≤ R.locals) :
    Back l R p e below s sargs yN len W (fun A₁ a₁ => A₁.cells + 0 ≤ R.cells ∧ A₁.slots + 0 ≤ R.slots ∧ P x t V cd n f y t' V' cd' k g z a₁ A₁.U) (fun A₁ _ v₁ B₁ => Says01 (SameT n f k g) v₁ A₁.U B₁.U ∧ B₁.locs = A₁.locs ++ [] ∧ B₁.cells = A₁.cells + 0 ∧ B₁.slots = A₁.slots + 0) :=
  (law l x t V cd n f y t' V' cd' k g z).pays htab hfr (by omega)
end SEq
end StrChars
namespace StrChars.Road
open Jvm Sem ClassFile Op Lib Jvm.Stand Jvm.Free Jvm.Free.XT
open Jvm.Lib.Cold (StaticIs)
/-- the words of String.equals(Object) -/
abbrev wordsEq : List Jvm.Cond := [.code SEq.yN SEq.yB 3 (some .boolean), .initialized ST, .classLink ST 10 ST, .fieldLink ST 38 ST "COMPACT_STRINGS" "Z", .fieldLink ST 15 ST "coder" "B", .fieldLink ST 9 ST "value" "[B", .methodLink ST 541 LEq.yN, .static LEq.yN, .code LEq.yN LEq.yB 3 (some .boolean), .initialized "java/lang/StringLatin1"]
theorem tabEq_of {a : Array Value} {s : State} (h : ∀ w ∈ wordsEq, w.before a s = true) : SEq.tab.before a s = true := by
  have hl : LEq.tab.before a s = true := unparts (wk h (.code LEq.yN LEq.yB 3 (some .boolean))) (wks h (.initialized LEq.yN.cls :: LEq.site))
  have q := consq hl h
  exact unparts (wk q (.code SEq.yN SEq.yB 3 (some .boolean))) (wks q (.initialized SEq.yN.cls :: SEq.site))
theorem movedEq {Z s : State} {a0 args : Array Value} (hZ : Z.Warmed39 s.vm) (hw : ∀ d ∈ wordsEq, d.before a0 Z = true) : ∀ d ∈ wordsEq, d.before args s = true := fun d hd => by
  have t : ∀ d ∈ wordsEq, (d.onTables && d.keepsFace) = true := by decide +kernel
  exact RoadKit.mv hZ (hw d hd) (t d hd)
/-- the road's facts of a String, as the laws ask it -/
theorem txt_of {Z U : State} {a0 : Array Value} {kI : Nat} (wi : (Jvm.Cond.instantiable ST kI).before a0 Z = true) (al : Z.vm.Alike U.vm) {x t : Addr} {kb : ClassId} {cs : List Int32} {cd N2 : Int32} {vs : List Value} (E : RoadKit.Exa Z U.heap x ST) (V : RoadKit.Fld Z U.heap x ST "value" "[B" (.ref t)) (C : RoadKit.Fld Z U.heap x ST "coder" "B" (.int cd)) (K : RoadKit.Arv Z U.heap t kb .byte N2 vs (.int 0)) (hc : CodA cs cd N2 vs) (hb : ∀ c ∈ cs, ¬ c < 0 ∧ ¬ (65535 : Int32) < c) (l2 : cs.length ≤ 4000) :
    ∃ A, Txt x t A cd cs.length (fun j => cs.getD j 0) U := by
  obtain ⟨A, K1, K2, K3, K4, K5, K6⟩ := K
  have hcod := hc.cod (by omega) K3 K5
  obtain ⟨D, fV, fC, hB, F1, F2, g1, g2, -, -⟩ := strObj wi al E V C
  exact ⟨A, ⟨_, hB.2.2.1, D, hB.1, rfl, by cases q : D.vm <;> first | rfl | exact absurd q (hB.2.1.2 _)⟩, Has.of hB F1 g1, Has.of hB F2 g2, ⟨K1.1, State.isArrayOf_alike al K1.2.1, K1.2.2, by rcases hcod with ⟨-, q, -⟩ | ⟨-, q, -⟩ <;> omega⟩, hcod, fun j hj => by
    have e : cs.getD j 0 = cs[j] := by simp [List.getD_eq_getElem?_getD, hj]
    show ¬ cs.getD j 0 < 0 ∧ ¬ 65535 < cs.getD j 0
    rw [e]; exact hb _ (List.getElem_mem _)⟩
theorem same_list (cs ds : List Int32) : SameT cs.length (fun j => cs.getD j 0) ds.length (fun j => ds.getD j 0) ↔ cs = ds := by
  constructor
  · rintro ⟨e, q⟩
    refine List.ext_getElem e fun j h1 h2 => ?_
    have := q j h1
    simpa [List.getD_eq_getElem?_getD, h1, h2] using this
  · rintro rfl
    exact ⟨rfl, fun _ _ => rfl⟩
/-- **equals(Object) OF TWO SUCH STRINGS**: 1 just where the chars are the same -/
theorem eqW {p : Program} {l : Launch} {e : Env} {R : Room} {s : State} {args : Array Value} {below : List Frame} {len W : Nat} {Z : State} {a0 : Array Value} {h : Heap} (hZ : Z.Warmed39 s.vm) (hw : ∀ d ∈ wordsEq, d.before a0 Z = true) {kI : Nat} (wi : (Jvm.Cond.instantiable ST kI).before a0 Z = true)
    {x t : Addr} {kb : ClassId} {cs : List Int32} {cd N2 : Int32} {vs : List Value} (E : RoadKit.Exa Z h x ST) (V : RoadKit.Fld Z h x ST "value" "[B" (.ref t)) (C : RoadKit.Fld Z h x ST "coder" "B" (.int cd)) (K : RoadKit.Arv Z h t kb .byte N2 vs (.int 0)) (hc : CodA cs cd N2 vs) (hb : ∀ c ∈ cs, ¬ c < 0 ∧ ¬ (65535 : Int32) < c) (l2 : cs.length ≤ 4000)
    {y t' : Addr} {kb' : ClassId} {ds : List Int32} {cd' N2' : Int32} {vs' : List Value} (E' : RoadKit.Exa Z h y ST) (V' : RoadKit.Fld Z h y ST "value" "[B" (.ref t')) (C' : RoadKit.Fld Z h y ST "coder" "B" (.int cd')) (K' : RoadKit.Arv Z h t' kb' .byte N2' vs' (.int 0)) (hc' : CodA ds cd' N2' vs') (hb' : ∀ c ∈ ds, ¬ c < 0 ∧ ¬ (65535 : Int32) < c) (l2' : ds.length ≤ 4000)
    {z : Int32} (S : RoadKit.Sta Z h ST "COMPACT_STRINGS" "Z" (.int z)) (hz : ¬ z = 0) (hfr : 2 ≤ R.frames) (hlo : W + 28 ≤ R.locals) :
    Back l R p e below s args (⟨"java/lang/String", "equals", "(Ljava/lang/Object;)Z"⟩ : MethodName) len W (fun P a => a = #[.ref x, .ref y] ∧ P.U.heap = h ∧ P.cells + 0 ≤ R.cells ∧ P.slots + 0 ≤ R.slots)
      (fun P _ v B => ∃ L, (((v = some (.int 1) ∧ cs = ds) ∨ (v = some (.int 0) ∧ ¬ cs = ds)) ∧ L = [] ∧ B.U.heap = h) ∧ B.locs = P.locs ++ L ∧ B.cells = P.cells + 0 ∧ B.slots = P.slots + 0) := by
  intro m meth c P g ig mk a X hg hsize hdg hW hn hp'
  obtain ⟨rfl, rfl, r1, r2⟩ := hp'
  have al : Z.vm.Alike P.U.vm := hZ.alike.trans X.warmed.alike
  obtain ⟨A, hx⟩ := txt_of wi al E V C K hc hb l2
  obtain ⟨A', hy⟩ := txt_of wi al E' V' C' K' hc' hb' l2'
  obtain ⟨v, B, X', ⟨⟨w, hv, hh, hq⟩, hl, hk, hs⟩, st⟩ := SEq.pays x t A cd cs.length (fun j => cs.getD j 0) y t' A' cd' ds.length (fun j => ds.getD j 0) z (tabEq_of (movedEq hZ hw)) hfr hlo m meth c P g ig mk _ X hg hsize hdg hW hn ⟨r1, r2, rfl, hx, hy, sta_is al S, hz⟩
  refine ⟨v, B, X', ⟨[], ⟨?_, rfl, hh⟩, hl, hk, hs⟩, st⟩
  rcases hq with ⟨rfl, q⟩ | ⟨rfl, q⟩
  · exact Or.inl ⟨hv, (same_list cs ds).mp q⟩
  · exact Or.inr ⟨hv, fun e => q ((same_list cs ds).mpr e)⟩
end StrChars.Road
namespace StrChars.Road
open Jvm Sem ClassFile Op Lib Jvm.Stand Jvm.Free Jvm.Free.XT
open Jvm.Lib.Cold (StaticIs)
/-- what backV says of its String, as the contracts of this text ask it: cs's low bytes, coder 0 -/
theorem codOf {cs : List Int32} {n : Nat} (hn : cs.length = n) (hb : ∀ c ∈ cs, ¬ 255 < c) : CodA cs 0 (Int32.ofNat n) ((cs.map lo8).map Value.int) := Or.inl ⟨rfl, by rw [hn], by simp [List.map_map, Function.comp_def], hb⟩
end StrChars.Road
end Jvm.Pilot.@@N@@

namespace Jvm.Pilot.@@N@@
open Jvm Jvm.ClassFile Sem Op Lib Jvm.Free Jvm.Stand Jvm.LawKit Jvm.RoadKit Bundle Jvm.Pilot.@@N@@.Jvm.D
def own_Go (tb : Tables) (e : Env) (below : List Frame) (K : State → Outcome → Prop) (S : State) : Prop := ∃ t o, Steps tb e below S t ∧ K t o
theorem own_Go.by {tb : Tables} {e : Env} {below : List Frame} {K : State → Outcome → Prop} {S S' : State} (h : ∀ t, Steps tb e below S' t → Steps tb e below S t) (g : own_Go tb e below K S') : own_Go tb e below K S := by
  obtain ⟨t, o, a, b⟩ := g
  exact ⟨t, o, h t a, b⟩
theorem own_Go.fin {tb : Tables} {e : Env} {below : List Frame} {K : State → Outcome → Prop} {S t : State} {o : Outcome} (h : Steps tb e below S t) (k : K t o) : own_Go tb e below K S := ⟨t, o, h, k⟩
theorem own_merge {α : Type} {P : α → Prop} {F : α → State} {tb : Tables} {e : Env} {below : List Frame} {K : State → Outcome → Prop} {S : State} (g : ∀ v, P v → own_Go tb e below K (F v)) (h : (∀ v, P v → own_Go tb e below K (F v)) → own_Go tb e below K S) : own_Go tb e below K S := h g
theorem own_old_le {Z : State} {n0 : Nat} {h : Heap} (O : Old Z n0 h) : n0 ≤ h.size := O.1 ▸ O.2.1
theorem own_rew {s t : State} {o : Outcome} {L : List Loc} {k n k' n' : Nat} (h : ReturnedEndW s o t L k n) (hk : k ≤ k') (hn : n ≤ n') : ReturnedEndW s o t L k' n' := ⟨h.1, h.2.1, h.2.2.1, h.2.2.2.mono hk hn⟩
theorem own_privsel {s : State} {a1 a2 args : Array Value} {y : MethodName} {n : Nat} (wi : (Jvm.Cond.instantiable y.cls n).before a1 s = true) (wp : (Jvm.Cond.privateMethod y).before a2 s = true) (wm : (Jvm.Cond.instanceMethod y).before args s = true) (hy : y.cls ≠ "java/lang/invoke/MethodHandle" ∧ y.cls ≠ "java/lang/invoke/VarHandle") : (Jvm.Cond.selects y.cls y y).before args s = true := by
  obtain ⟨c, k, h1, h2, -, h4, -⟩ := Cond.instantiable_spec wi
  simp only [Bool.or_eq_false_iff] at h4
  exact selects_self_of_private h1 h2 h4.1 (Cond.privateMethod_at wp) wm hy
theorem own_arr_keep {Z : State} {h h' : Heap} {a : Addr} {c : Cell} {ty : FieldType} {ws : List Addr} (A : Arr Z h a c ty) (K : Keep h h' ws) (q : a ∉ ws) : Arr Z h' a c ty := ⟨K.2.1 a c A.1 q, A.2⟩
abbrev sI (x : Int32) : Slot := .val (.int x)
abbrev sR (x : Addr) : Slot := .val (.ref x)
abbrev sJ (x : Int64) : Slot := .val (.long x)

theorem own_hws : ∀ d ∈ StrChars.Road.words, d ∈ tables_1 := by decide +kernel
theorem own_hEL {Z : State} {a0 : Array Value} (hw : ∀ d ∈ tables_1, d.before a0 Z = true) : EW Z a0 consts_1 := (EW.cons (hw _ (List.mem_of_getElem? (i := 34) rfl)) (by decide) (EW.cons (hw _ (List.mem_of_getElem? (i := 74) rfl)) (by decide) (EW.cons (hw _ (List.mem_of_getElem? (i := 75) rfl)) (by decide) (EW.cons (hw _ (List.mem_of_getElem? (i := 78) rfl)) (by decide) EW.nil))))
theorem own_wS : ∀ d ∈ Bundle.stringAtoms, d ∈ tables_1 := by decide +kernel
theorem own_safeNull {Z : State} {EL : List (String × Nat)} {vm : Vm} {h : Heap} {x : Addr} (hal : Z.vm.Alike vm) (E : Exa Z h x "java/lang/String") (F : Fld Z h x "java/lang/String" "value" "[B" .null) : Safe Z EL vm h x := fun B => by
  obtain ⟨cell, k, e1, e2, e3, -, -⟩ := E
  obtain ⟨p, -, u, a, -, q, -, G, rfl | rfl⟩ := B
  · cases (show h[q.sa]? = some q.sC from G.ha).symm.trans e1
    obtain ⟨cS, ⟨⟨-, -, -, ⟨c1, k1, i1, f1, -⟩, -, -, -, v1, -⟩, -⟩, -⟩ := G
    obtain ⟨cell2, d0, k2, i2, sl2, g1, g2, g3, g4, g5, g6, g7⟩ := F
    cases (show h[q.sa]? = some q.sC from e1).symm.trans g1
    obtain ⟨k3, z4⟩ := ff_back (U := Wst Z vm h) hal f1
    have e4 := z4.symm.trans g2
    simp only [Option.some.injEq, Prod.mk.injEq] at e4
    rw [e4.2.2.2] at v1
    rw [v1] at g7
    cases g7
  · cases (show h[q.sd]? = some q.SA from G.hd).symm.trans e1
    obtain ⟨cS, -, -, f, -⟩ := G
    have f : vm.findClass "[B" = some q.SA.cls := f
    rw [hal.findClass] at f
    obtain ⟨k1, q1, q2⟩ := Vm.findClass_spec f
    obtain ⟨k2, q3, q4⟩ := Vm.findClass_spec e2
    cases q1.symm.trans q3
    have := q2.symm.trans q4
    revert this
    decide
theorem own_fitc {x : Int32} (h : nar .char x = x) : fits .char (.int x) = true := h ▸ fits_nar_char x
theorem own_fitC {x : Int32} (h : nar .char x = x) : fits .char (.int x) = true := h ▸ fits_nar_char x
theorem own_b255 {x c : Int32} (h : (x &&& (255 : Int32)).toUInt32.toUInt16.toUInt32.toInt32 = c) : (¬ c < 0 ∧ ¬ (255 : Int32) < c) ∧ nar .char c = c := by
  have e : x &&& 255 = c := (i2c_mask x).symm.trans h
  subst e
  have q := c_and x 255 (by decide)
  have e2 : (255 : Int32).toInt = 255 := rfl
  have e0 : (0 : Int32).toInt = 0 := rfl
  refine ⟨⟨fun r => ?_, fun r => ?_⟩, ?_⟩
  · rw [Int32.lt_iff_toInt_lt] at r; omega
  · rw [Int32.lt_iff_toInt_lt] at r; omega
  · exact i2c_mask x
theorem own_up (cs : List Int32) (h : ∀ c ∈ cs, ¬ c < 0 ∧ ¬ (255 : Int32) < c) : ∀ c ∈ cs, ¬ c < 0 ∧ ¬ (65535 : Int32) < c := fun c hc => ⟨(h c hc).1, fun q => (h c hc).2 (by rw [Int32.lt_iff_toInt_lt] at q ⊢; have e1 : (65535 : Int32).toInt = 65535 := rfl; have e2 : (255 : Int32).toInt = 255 := rfl; omega)⟩
theorem own_heq : ∀ d ∈ StrChars.Road.wordsEq, d ∈ tables_1 := by decide +kernel
theorem own_eqv {P : Prop} {v : Option Value} (h : (v = some (.int 1) ∧ P) ∨ (v = some (.int 0) ∧ ¬ P)) : ∃ q : Int32, v = some (.int q) ∧ ((q = (0 : Int32) ∧ ¬ P) ∨ (q = (1 : Int32) ∧ P)) := by
  rcases h with ⟨a, b⟩ | ⟨a, b⟩
  · exact ⟨1, a, Or.inr ⟨rfl, b⟩⟩
  · exact ⟨0, a, Or.inl ⟨rfl, b⟩⟩
theorem own_eqF {P : Prop} {q : Int32} (h : (q = (0 : Int32) ∧ ¬ P) ∨ (q = (1 : Int32) ∧ P)) (z : q = (0 : Int32)) : ¬ P := by
  rcases h with ⟨_, b⟩ | ⟨a, _⟩
  · exact b
  · rw [a] at z; exact absurd z (by decide)
theorem own_eqT {P : Prop} {q : Int32} (h : (q = (0 : Int32) ∧ ¬ P) ∨ (q = (1 : Int32) ∧ P)) (z : ¬ q = (0 : Int32)) : P := by
  rcases h with ⟨a, _⟩ | ⟨_, b⟩
  · exact absurd a z
  · exact b

def own_ok (vs : List Value) : Prop := vs.length = 7 ∧ ∀ v ∈ vs, ∃ c : Int32, v = .int c ∧ ¬ c < 0 ∧ ¬ (255 : Int32) < c
theorem own_okL (cs : List Int32) (h : cs.length = 7) (hb : ∀ c ∈ cs, ¬ c < 0 ∧ ¬ (255 : Int32) < c) : own_ok (cs.map Value.int) := by
  refine ⟨by rw [List.length_map]; exact h, fun v hv => ?_⟩
  obtain ⟨c, hc, rfl⟩ := List.mem_map.mp hv
  exact ⟨c, rfl, hb c hc⟩
theorem own_ok_set {vs : List Value} (h : own_ok vs) (i : Nat) {c : Int32} (hc : ¬ c < 0 ∧ ¬ (255 : Int32) < c) : own_ok (vs.set i (.int c)) := by
  refine ⟨by rw [List.length_set]; exact h.1, fun v hv => ?_⟩
  rcases List.mem_or_eq_of_mem_set hv with q | q
  · exact h.2 v q
  · exact ⟨c, q, hc⟩
theorem own_ok7 {vs : List Value} (h : own_ok vs) : ∃ b0 b1 b2 b3 b4 b5 b6 : Int32, vs = [.int b0, .int b1, .int b2, .int b3, .int b4, .int b5, .int b6] ∧ ∀ c ∈ ([b0, b1, b2, b3, b4, b5, b6] : List Int32), ¬ c < 0 ∧ ¬ (255 : Int32) < c := by
  obtain ⟨hl, h⟩ := h
  match vs, hl, h with
  | [v0, v1, v2, v3, v4, v5, v6], _, h =>
    obtain ⟨b0, rfl, q0⟩ := h v0 (by simp)
    obtain ⟨b1, rfl, q1⟩ := h v1 (by simp)
    obtain ⟨b2, rfl, q2⟩ := h v2 (by simp)
    obtain ⟨b3, rfl, q3⟩ := h v3 (by simp)
    obtain ⟨b4, rfl, q4⟩ := h v4 (by simp)
    obtain ⟨b5, rfl, q5⟩ := h v5 (by simp)
    obtain ⟨b6, rfl, q6⟩ := h v6 (by simp)
    refine ⟨b0, b1, b2, b3, b4, b5, b6, rfl, fun c hc => ?_⟩
    simp only [List.mem_cons, List.not_mem_nil, or_false] at hc
    rcases hc with rfl | rfl | rfl | rfl | rfl | rfl | rfl <;> assumption
theorem own_narc {c : Int32} (h : ¬ c < 0 ∧ ¬ (255 : Int32) < c) : nar .char c = c := by
  have h1 := h.1
  have h2 := h.2
  rw [Int32.lt_iff_toInt_lt] at h1 h2
  have e2 : (255 : Int32).toInt = 255 := rfl
  have e0 : (0 : Int32).toInt = 0 := rfl
  have q := c_i2c c
  exact Int32.toInt_inj.mp (show (c.toUInt32.toUInt16.toUInt32.toInt32).toInt = c.toInt by omega)
theorem own_ix {x y j : Int32} (d : Int) (hy : y.toInt = d) (h0 : 0 < d) (h7 : d ≤ 7) (h : ((x &&& (2147483647 : Int32)) % y) = j) : (¬ j < (0 : Int32) ∧ j < (7 : Int32)) ∧ j.toNatClampNeg < 7 := by
  have q := c_and x (2147483647 : Int32) (by decide)
  have r := (c_irem (x &&& (2147483647 : Int32)) y d hy).1 q.1
  rw [h] at r
  have a := Int.emod_nonneg (x &&& (2147483647 : Int32)).toInt (show d ≠ 0 by omega)
  have b := Int.emod_lt_of_pos (x &&& (2147483647 : Int32)).toInt h0
  have e7 : (7 : Int32).toInt = 7 := rfl
  have e0 : (0 : Int32).toInt = 0 := rfl
  refine ⟨⟨fun z => ?_, ?_⟩, ?_⟩
  · rw [Int32.lt_iff_toInt_lt] at z; omega
  · rw [Int32.lt_iff_toInt_lt]; omega
  · show j.toInt.toNat < 7
    omega
theorem own_k3 {x : Int32} (h0 : ¬ (x &&& (3 : Int32)) = (0 : Int32)) (h1 : ¬ (x &&& (3 : Int32)) = (1 : Int32)) (h2 : ¬ (x &&& (3 : Int32)) = (2 : Int32)) : ¬ (x &&& (3 : Int32)) < (3 : Int32) := by
  have q := c_and x (3 : Int32) (by decide)
  rw [← Int32.toInt_inj] at h0 h1 h2
  rw [Int32.lt_iff_toInt_lt]
  have e0 : (0 : Int32).toInt = 0 := rfl
  have e1 : (1 : Int32).toInt = 1 := rfl
  have e2 : (2 : Int32).toInt = 2 := rfl
  have e3 : (3 : Int32).toInt = 3 := rfl
  omega
def own_pick (cs : List Int32) (aP aI aG : Addr) : Value := if cs = ([112, 117, 116] : List Int32) then .ref aP else if cs = ([105, 110, 115, 101, 114, 116] : List Int32) then .ref aI else if cs = ([103, 101, 116] : List Int32) then .ref aG else .null
theorem own_pick1 {cs : List Int32} {aP aI aG : Addr} (h : cs = ([112, 117, 116] : List Int32)) : own_pick cs aP aI aG = .ref aP := if_pos h
theorem own_pick2 {cs : List Int32} {aP aI aG : Addr} (n : ¬ cs = ([112, 117, 116] : List Int32)) (h : cs = ([105, 110, 115, 101, 114, 116] : List Int32)) : own_pick cs aP aI aG = .ref aI := (if_neg n).trans (if_pos h)
theorem own_pick3 {cs : List Int32} {aP aI aG : Addr} (n : ¬ cs = ([112, 117, 116] : List Int32)) (n2 : ¬ cs = ([105, 110, 115, 101, 114, 116] : List Int32)) (h : cs = ([103, 101, 116] : List Int32)) : own_pick cs aP aI aG = .ref aG := (if_neg n).trans ((if_neg n2).trans (if_pos h))
theorem own_pick4 {cs : List Int32} {aP aI aG : Addr} (n : ¬ cs = ([112, 117, 116] : List Int32)) (n2 : ¬ cs = ([105, 110, 115, 101, 114, 116] : List Int32)) (n3 : ¬ cs = ([103, 101, 116] : List Int32)) : own_pick cs aP aI aG = .null := (if_neg n).trans ((if_neg n2).trans (if_neg n3))
theorem own_cod_put : StrChars.Road.CodA ([112, 117, 116] : List Int32) (0 : Int32) (3 : Int32) [(.int (112 : Int32)), (.int (117 : Int32)), (.int (116 : Int32))] ∧ (∀ c ∈ ([112, 117, 116] : List Int32), ¬ c < 0 ∧ ¬ (255 : Int32) < c) ∧ ([112, 117, 116] : List Int32).length ≤ 4000 := ⟨Or.inl ⟨rfl, rfl, by decide, by decide⟩, by decide, by decide⟩
theorem own_cod_insert : StrChars.Road.CodA ([105, 110, 115, 101, 114, 116] : List Int32) (0 : Int32) (6 : Int32) [(.int (105 : Int32)), (.int (110 : Int32)), (.int (115 : Int32)), (.int (101 : Int32)), (.int (114 : Int32)), (.int (116 : Int32))] ∧ (∀ c ∈ ([105, 110, 115, 101, 114, 116] : List Int32), ¬ c < 0 ∧ ¬ (255 : Int32) < c) ∧ ([105, 110, 115, 101, 114, 116] : List Int32).length ≤ 4000 := ⟨Or.inl ⟨rfl, rfl, by decide, by decide⟩, by decide, by decide⟩
theorem own_cod_get : StrChars.Road.CodA ([103, 101, 116] : List Int32) (0 : Int32) (3 : Int32) [(.int (103 : Int32)), (.int (101 : Int32)), (.int (116 : Int32))] ∧ (∀ c ∈ ([103, 101, 116] : List Int32), ¬ c < 0 ∧ ¬ (255 : Int32) < c) ∧ ([103, 101, 116] : List Int32).length ≤ 4000 := ⟨Or.inl ⟨rfl, rfl, by decide, by decide⟩, by decide, by decide⟩

theorem d3_0 : decode jdk_42_method_149_code 0 = .ok (.aload_n 0, 1) := by decide +kernel
theorem d3_1 : decode jdk_42_method_149_code 1 = .ok (.invokespecial 1, 3) := by decide +kernel
theorem d3_4 : decode jdk_42_method_149_code 4 = .ok (.iload_n 3, 1) := by decide +kernel
theorem d3_5 : decode jdk_42_method_149_code 5 = .ok (.ifCond .ne 22, 3) := by decide +kernel
theorem d3_8 : decode jdk_42_method_149_code 8 = .ok (.aload_n 0, 1) := by decide +kernel
theorem d3_9 : decode jdk_42_method_149_code 9 = .ok (.ldc 7, 2) := by decide +kernel
theorem d3_11 : decode jdk_42_method_149_code 11 = .ok (.getfield 9, 3) := by decide +kernel
theorem d3_14 : decode jdk_42_method_149_code 14 = .ok (.putfield 9, 3) := by decide +kernel
theorem d3_17 : decode jdk_42_method_149_code 17 = .ok (.aload_n 0, 1) := by decide +kernel
theorem d3_18 : decode jdk_42_method_149_code 18 = .ok (.ldc 7, 2) := by decide +kernel
theorem d3_20 : decode jdk_42_method_149_code 20 = .ok (.getfield 15, 3) := by decide +kernel
theorem d3_23 : decode jdk_42_method_149_code 23 = .ok (.putfield 15, 3) := by decide +kernel
theorem d3_26 : decode jdk_42_method_149_code 26 = .ok (.return_, 1) := by decide +kernel
theorem own_pn_java_lang_String : plainName "java/lang/String" = true := by first | (simp [plainName, overriddenIn]; done) | decide +kernel
theorem own_ef_3 (m : MethodId) (a1 : Addr) (a2 : Addr) : entryFrame m #[(Value.ref a1), (Value.ref a2), (Value.int (0 : Int32)), (Value.int (0 : Int32)), .null] 6 = mkF m 0 #[sR a1, sR a2, sI (0 : Int32), sI (0 : Int32), .val .null, .unset] [] := by first | (simp [entryFrame, mkF, argsToLocals, Value.category]; done) | rfl
def Q3 (Z : State) (a1 : Addr) (a2 : Addr) (h0 : Heap) (n0 : Nat) (v : Option Value) (h : Heap) (L : List Loc) : Prop := ∃ (b : Addr), ∃ (k2 : ClassId), v = none ∧ Fr n0 L ∧ Keep h0 h [a1] ∧ (Exa Z h a1 "java/lang/String") ∧ (Fld Z h a1 "java/lang/String" "coder" "B" (Value.int (0 : Int32))) ∧ (Fld Z h a1 "java/lang/String" "value" "[B" (Value.ref b)) ∧ (Arv Z h b k2 .byte (0 : Int32) [] (Value.int (0 : Int32)))
set_option maxRecDepth 65536 in
set_option maxHeartbeats 40000000 in
theorem rm3 (l : Launch) (Z : State) (a0 : Array Value) (hw : ∀ d ∈ tables_1, d.before a0 Z = true) (ws : List Jvm.Cond) (a1 : Addr) (a2 : Addr) (h0 : Heap) (n0 : Nat) (O0 : Old Z n0 h0) (H0 : Exa Z h0 a1 "java/lang/String") (H1 : Fld Z h0 a1 "java/lang/String" "value" "[B" .null) (H2 : Fld Z h0 a1 "java/lang/String" "coder" "B" (Value.int (0 : Int32))) (H3 : n0 ≤ a1) :
    MetFree l (⟨"java/lang/String", "<init>", "([CIILjava/lang/Void;)V"⟩ : MethodName) (head1 (Jvm.Cond.code (⟨"java/lang/String", "<init>", "([CIILjava/lang/Void;)V"⟩ : MethodName) jdk_42_method_149_code 6 none :: ws) ({ frames := 1, cells := 4, slots := 8, locals := 12 } : Room)) (fun a U => a = #[(Value.ref a1), (Value.ref a2), (Value.int (0 : Int32)), (Value.int (0 : Int32)), .null] ∧ Z.Warmed39 U.vm ∧ U.heap = h0 ∧ CHv Z consts_1 U.vm h0) (fun _ _ _ _ _ => True) (fun _ U o U' => ∃ v L, o = .returned v ∧ Q3 Z a1 a2 h0 n0 v U'.heap L ∧ CHr Z consts_1 U.vm U.heap U'.vm U'.heap ∧ ReturnedEndW U o U' L ({ frames := 1, cells := 4, slots := 8, locals := 12 } : Room).cells ({ frames := 1, cells := 4, slots := 8, locals := 12 } : Room).slots) := by
  refine MetFree.of_bodySF (plainFor_of_name own_pn_java_lang_String) hisR ?_
  intro p e s m args below meth c s₁ Bd hml0 hP hK
  obtain ⟨rfl, hZ, hh, CH0⟩ := hP
  have hx := Bd.exec
  have hby := Bd.bytes
  have hml : c.maxLocals = 6 := hml0
  have hown : s.vm.findClass "java/lang/String" = some m.cls := findClass_of_methodNamed Bd.named
  have hnm := (name_of_methodNamed Bd.named Bd.method).1
  have hEL := own_hEL hw
  have X0 : Stand p l e ({ frames := 1, cells := 4, slots := 8, locals := 12 } : Room) s m #[(Value.ref a1), (Value.ref a2), (Value.int (0 : Int32)), (Value.int (0 : Int32)), .null] below meth c s₁ [] 0 0 := Stand.of_body Bd
  have e0 : s₁.heap = h0 := by rw [← hh, Bd.state]; rfl
  have hS0 : s.Since s.vm 0 := (State.WarmedH.refl s).since 0
  have N0 := Fr.nil n0
  have K0 := Keep.refl h0 [a1]
  show own_Go _ _ _ _ (s₁.setTop (entryFrame m #[(Value.ref a1), (Value.ref a2), (Value.int (0 : Int32)), (Value.int (0 : Int32)), .null] 6))
  refine own_Go.by (fun tq kq => castTop (own_ef_3 m a1 a2) kq) ?_
  have Sf0 := own_safeNull (EL := consts_1) hZ.alike H0 H1
  show own_Go _ _ _ _ (s₁.setTop (mkF m 0 #[sR a1, sR a2, sI (0 : Int32), sI (0 : Int32), .val .null, .unset] []))
  refine own_Go.by (fun tq kq => XS.aloadN X0.here hx rfl (hb hby d3_0) rfl rfl kq) ?_
  show own_Go _ _ _ _ (s₁.setTop (mkF m 1 #[sR a1, sR a2, sI (0 : Int32), sI (0 : Int32), .val .null, .unset] [(Value.ref a1)]))
  obtain ⟨T1, X1, e1, st1⟩ := initO X0 hx hZ hown (hw _ (List.mem_of_getElem? (i := 15) rfl)) (hw _ (List.mem_of_getElem? (i := 16) rfl)) (hw _ (List.mem_of_getElem? (i := 17) rfl)) e0 (g := (mkF m 1 #[sR a1, sR a2, sI (0 : Int32), sI (0 : Int32), .val .null, .unset] [(Value.ref a1)])) rfl (by rw [hml]; rfl) rfl (hb hby d3_1) (by decide) (W := 0) (by show 2 * 0 + _ ≤ _; exact Nat.le_of_eq rfl) (by decide)
  refine own_Go.by st1 ?_
  refine own_Go.by (fun tq kq => XS.iloadN X1.here hx rfl (hb hby d3_4) rfl kq) ?_
  show own_Go _ _ _ _ (T1.setTop (mkF m 5 #[sR a1, sR a2, sI (0 : Int32), sI (0 : Int32), .val .null, .unset] [(Value.int (0 : Int32))]))
  refine own_Go.by (fun tq kq => XS.ifNo X1.here hx rfl (hb hby d3_5) rfl ((if0 _ _).trans (teq (by decide : (0 : Int32) = (0 : Int32))).2) kq) ?_
  refine own_Go.by (fun tq kq => XS.aloadN X1.here hx rfl (hb hby d3_8) rfl rfl kq) ?_
  show own_Go _ _ _ _ (T1.setTop (mkF m 9 #[sR a1, sR a2, sI (0 : Int32), sI (0 : Int32), .val .null, .unset] [(Value.ref a1)]))
  obtain ⟨sa2, T2, h2, k2, sb2, kk2, X2, e2, E2, hS2, hk2, hZ2, hown2, Ea2, Fc2, Fv2, Va2, -, -, R2, -, hne2, st2⟩ := ldcCH (s := s) (vm0 := s.vm) (EL := consts_1) X1 hx hZ hown (hw _ (List.mem_of_getElem? (i := 78) rfl)) (fun d hd => hw d (own_wS d hd)) e1 hS0 (Nat.zero_le _) hEL (List.mem_of_getElem? (i := 3) rfl) CH0 (vs := []) (z := (0 : Int32)) ⟨by decide, by decide +kernel⟩ (by decide) rfl (g := (mkF m 9 #[sR a1, sR a2, sI (0 : Int32), sI (0 : Int32), .val .null, .unset] [(Value.ref a1)])) rfl (hb hby d3_9) (n := 0) (by decide) (by decide) (by decide) (by decide)
  refine own_Go.by st2 ?_
  have O3 := O0.ext E2
  have K3 := K0.ext E2
  show own_Go _ _ _ _ (T2.setTop (mkF m 11 #[sR a1, sR a2, sI (0 : Int32), sI (0 : Int32), .val .null, .unset] [(Value.ref sa2), (Value.ref a1)]))
  obtain ⟨T4, X4, e4, st4⟩ := getF X2 hx hZ2 hown2 (host := "") (Or.inl (hw _ (List.mem_of_getElem? (i := 32) rfl))) Via.refl e2 Fv2 (g := (mkF m 11 #[sR a1, sR a2, sI (0 : Int32), sI (0 : Int32), .val .null, .unset] [(Value.ref sa2), (Value.ref a1)])) rfl rfl (hb hby d3_11)
  refine own_Go.by st4 ?_
  show own_Go _ _ _ _ (T4.setTop (mkF m 14 #[sR a1, sR a2, sI (0 : Int32), sI (0 : Int32), .val .null, .unset] [(Value.ref sb2), (Value.ref a1)]))
  have c5 := (H1.ext E2)
  have c6 := (H0.ext E2)
  obtain ⟨T7, h7, X7, e7, W7, st7⟩ := putF X4 hx hZ2 hown2 (host := "") (Or.inl (hw _ (List.mem_of_getElem? (i := 32) rfl))) Via.refl e4 c5 c6 (Or.inr ⟨(hw _ (List.mem_of_getElem? (i := 33) rfl)), rfl, hnm⟩) (hw _ (List.mem_of_getElem? (i := 6) rfl)) (ty := (.array .byte)) (by decide) rfl rfl (g := (mkF m 14 #[sR a1, sR a2, sI (0 : Int32), sI (0 : Int32), .val .null, .unset] [(Value.ref sb2), (Value.ref a1)])) rfl rfl (hb hby d3_14)
  refine own_Go.by st7 ?_
  have N7 := Fr.snoc X7 N0 H3
  have O8 := O3.wr W7 H3
  have K8 := K3.wr W7 (Or.inl (List.mem_of_getElem? (i := 0) rfl))
  have hk_8 := Nat.le_trans hk2 (Keep.of_wr W7).1
  have F7 := c5.same W7
  refine own_Go.by (fun tq kq => XS.aloadN X7.here hx rfl (hb hby d3_17) rfl rfl kq) ?_
  show own_Go _ _ _ _ (T7.setTop (mkF m 18 #[sR a1, sR a2, sI (0 : Int32), sI (0 : Int32), .val .null, .unset] [(Value.ref a1)]))
  have R10 := CHr.wr W7 (R2.safe H0.lt Sf0) R2.1
  obtain ⟨sa9, T9, h9, k9, sb9, kk9, X9, e9, E9, hS9, hk9, hZ9, hown9, Ea9, Fc9, Fv9, Va9, -, -, R9, -, hne9, st9⟩ := ldcCH (s := s) (vm0 := T2.vm) (EL := consts_1) X7 hx hZ2 hown2 (hw _ (List.mem_of_getElem? (i := 78) rfl)) (fun d hd => hw d (own_wS d hd)) e7 hS2 hk_8 hEL (List.mem_of_getElem? (i := 3) rfl) R10.1 (vs := []) (z := (0 : Int32)) ⟨by decide, by decide +kernel⟩ (by decide) rfl (g := (mkF m 18 #[sR a1, sR a2, sI (0 : Int32), sI (0 : Int32), .val .null, .unset] [(Value.ref a1)])) rfl (hb hby d3_18) (n := 0) (by decide) (by decide) (by decide) (by decide)
  refine own_Go.by st9 ?_
  have O11 := O8.ext E9
  have K11 := K8.ext E9
  show own_Go _ _ _ _ (T9.setTop (mkF m 20 #[sR a1, sR a2, sI (0 : Int32), sI (0 : Int32), .val .null, .unset] [(Value.ref sa9), (Value.ref a1)]))
  obtain ⟨T12, X12, e12, st12⟩ := getF X9 hx hZ9 hown9 (host := "") (Or.inl (hw _ (List.mem_of_getElem? (i := 30) rfl))) Via.refl e9 Fc9 (g := (mkF m 20 #[sR a1, sR a2, sI (0 : Int32), sI (0 : Int32), .val .null, .unset] [(Value.ref sa9), (Value.ref a1)])) rfl rfl (hb hby d3_20)
  refine own_Go.by st12 ?_
  show own_Go _ _ _ _ (T12.setTop (mkF m 23 #[sR a1, sR a2, sI (0 : Int32), sI (0 : Int32), .val .null, .unset] [(Value.int (0 : Int32)), (Value.ref a1)]))
  have c13 := (((H2.ext E2).other W7 (Or.inr (slot_ne (Or.inr (hw _ (List.mem_of_getElem? (i := 31) rfl))) (Or.inr (hw _ (List.mem_of_getElem? (i := 33) rfl))) (by decide) (t := .byte) (t' := (.array .byte)) (by decide) (by decide)))).ext E9)
  have c14 := ((c6.wr W7).ext E9)
  obtain ⟨T15, h15, X15, e15, W15, st15⟩ := putFN X12 hx hZ9 hown9 (hw _ (List.mem_of_getElem? (i := 30) rfl)) Via.refl e12 c13 c14 (Or.inr ⟨(hw _ (List.mem_of_getElem? (i := 31) rfl)), rfl, hnm⟩) (hw _ (List.mem_of_getElem? (i := 6) rfl)) (ty := .byte) (v' := (Value.int (0 : Int32))) (by decide) rfl rfl (g := (mkF m 23 #[sR a1, sR a2, sI (0 : Int32), sI (0 : Int32), .val .null, .unset] [(Value.int (0 : Int32)), (Value.ref a1)])) rfl rfl (hb hby d3_23)
  refine own_Go.by st15 ?_
  have N15 := Fr.snoc X15 N7 H3
  have O16 := O11.wr W15 H3
  have K16 := K11.wr W15 (Or.inl (List.mem_of_getElem? (i := 0) rfl))
  have hk_16 := Nat.le_trans hk9 (Keep.of_wr W15).1
  have F15 := c13.same W15
  show own_Go _ _ _ _ (T15.setTop (mkF m 26 #[sR a1, sR a2, sI (0 : Int32), sI (0 : Int32), .val .null, .unset] []))
  have c17 := (c14.wr W15)
  have c18 := ((F7.ext E9).other W15 (Or.inr (slot_ne (Or.inr (hw _ (List.mem_of_getElem? (i := 33) rfl))) (Or.inr (hw _ (List.mem_of_getElem? (i := 31) rfl))) (by decide) (t := (.array .byte)) (t' := .byte) (by decide) (by decide))))
  have c19 := (((Va2.other W7 (Ne.symm (hne2 _ (R2.safe H0.lt Sf0)).2)).ext E9).other W15 (Ne.symm (hne2 _ (R2.safe H0.lt Sf0)).2))
  obtain ⟨fs, hr, hrun, hended, hRE⟩ := Stand.leaveW (s := s) (vm₁ := T9.vm) X15 hS9 (by rw [e15]; exact hk_16) (v := none) (fun _ => rfl)
  have R20 := CHr.wr W15 (((R2.trans R10).trans R9).safe H0.lt Sf0) R9.1
  have hCR := (((R2.trans R10).trans R9).trans R20)
  have hCZ : CHr Z consts_1 s.vm s.heap T15.vm T15.heap := by
    rw [hh, e15]
    exact hCR.trans (CHv.at (s := s) (vm0 := T9.vm) X15 hZ9 hEL hCR.1)
  refine own_Go.fin (X15.returnOut hx Bd.returns (hb hby d3_26) hr) ⟨hrun, hended, _, _, rfl, ?_, hCZ, own_rew hRE (by decide) (by decide)⟩
  show Q3 Z a1 a2 h0 n0 _ T15.heap _
  rw [e15]
  exact ⟨sb2, kk2, rfl, N15, K16, c17, F15, c18, c19⟩

theorem own_pd0 : parseMethodDescriptor "([CIILjava/lang/Void;)V" = some ⟨[(.array .char), .int, .int, (.object "java/lang/Void")], none⟩ := by decide +kernel
theorem d2_0 : decode jdk_42_method_3_code 0 = .ok (.aload_n 0, 1) := by decide +kernel
theorem d2_1 : decode jdk_42_method_3_code 1 = .ok (.aload_n 1, 1) := by decide +kernel
theorem d2_2 : decode jdk_42_method_3_code 2 = .ok (.iconst 0, 1) := by decide +kernel
theorem d2_3 : decode jdk_42_method_3_code 3 = .ok (.aload_n 1, 1) := by decide +kernel
theorem d2_4 : decode jdk_42_method_3_code 4 = .ok (.arraylength, 1) := by decide +kernel
theorem d2_5 : decode jdk_42_method_3_code 5 = .ok (.aconst_null, 1) := by decide +kernel
theorem d2_6 : decode jdk_42_method_3_code 6 = .ok (.invokespecial 27, 3) := by decide +kernel
theorem d2_9 : decode jdk_42_method_3_code 9 = .ok (.return_, 1) := by decide +kernel
theorem own_ef_2 (m : MethodId) (a1 : Addr) (a2 : Addr) : entryFrame m #[(Value.ref a1), (Value.ref a2)] 2 = mkF m 0 #[sR a1, sR a2] [] := by first | (simp [entryFrame, mkF, argsToLocals, Value.category]; done) | rfl
def Q2 (Z : State) (a1 : Addr) (a2 : Addr) (kB : ClassId) (h0 : Heap) (n0 : Nat) (v : Option Value) (h : Heap) (L : List Loc) : Prop := ∃ (b : Addr), ∃ (k2 : ClassId), v = none ∧ Fr n0 L ∧ Keep h0 h [a1] ∧ (Exa Z h a1 "java/lang/String") ∧ (Fld Z h a1 "java/lang/String" "coder" "B" (Value.int (0 : Int32))) ∧ (Fld Z h a1 "java/lang/String" "value" "[B" (Value.ref b)) ∧ (Arv Z h b k2 .byte (0 : Int32) [] (Value.int (0 : Int32)))
set_option maxRecDepth 65536 in
set_option maxHeartbeats 40000000 in
theorem rm2 (l : Launch) (Z : State) (a0 : Array Value) (hw : ∀ d ∈ tables_1, d.before a0 Z = true) (ws : List Jvm.Cond) (a1 : Addr) (a2 : Addr) (kB : ClassId) (h0 : Heap) (n0 : Nat) (O0 : Old Z n0 h0) (H0 : Exa Z h0 a1 "java/lang/String") (H1 : Fld Z h0 a1 "java/lang/String" "value" "[B" .null) (H2 : Fld Z h0 a1 "java/lang/String" "coder" "B" (Value.int (0 : Int32))) (H3 : n0 ≤ a1) (H4 : Arv Z h0 a2 kB .char (0 : Int32) [] (Value.int (0 : Int32))) :
    MetFree l (⟨"java/lang/String", "<init>", "([C)V"⟩ : MethodName) (head1 (Jvm.Cond.code (⟨"java/lang/String", "<init>", "([C)V"⟩ : MethodName) jdk_42_method_3_code 2 none :: ws) ({ frames := 2, cells := 4, slots := 8, locals := 29 } : Room)) (fun a U => a = #[(Value.ref a1), (Value.ref a2)] ∧ Z.Warmed39 U.vm ∧ U.heap = h0 ∧ CHv Z consts_1 U.vm h0) (fun _ _ _ _ _ => True) (fun _ U o U' => ∃ v L, o = .returned v ∧ Q2 Z a1 a2 kB h0 n0 v U'.heap L ∧ CHr Z consts_1 U.vm U.heap U'.vm U'.heap ∧ ReturnedEndW U o U' L ({ frames := 2, cells := 4, slots := 8, locals := 29 } : Room).cells ({ frames := 2, cells := 4, slots := 8, locals := 29 } : Room).slots) := by
  refine MetFree.of_bodySF (plainFor_of_name own_pn_java_lang_String) hisR ?_
  intro p e s m args below meth c s₁ Bd hml0 hP hK
  obtain ⟨rfl, hZ, hh, CH0⟩ := hP
  have hx := Bd.exec
  have hby := Bd.bytes
  have hml : c.maxLocals = 2 := hml0
  have hown : s.vm.findClass "java/lang/String" = some m.cls := findClass_of_methodNamed Bd.named
  have hnm := (name_of_methodNamed Bd.named Bd.method).1
  have hEL := own_hEL hw
  have X0 : Stand p l e ({ frames := 2, cells := 4, slots := 8, locals := 29 } : Room) s m #[(Value.ref a1), (Value.ref a2)] below meth c s₁ [] 0 0 := Stand.of_body Bd
  have e0 : s₁.heap = h0 := by rw [← hh, Bd.state]; rfl
  have hS0 : s.Since s.vm 0 := (State.WarmedH.refl s).since 0
  have N0 := Fr.nil n0
  have K0 := Keep.refl h0 [a1]
  show own_Go _ _ _ _ (s₁.setTop (entryFrame m #[(Value.ref a1), (Value.ref a2)] 2))
  refine own_Go.by (fun tq kq => castTop (own_ef_2 m a1 a2) kq) ?_
  have Sf0 := own_safeNull (EL := consts_1) hZ.alike H0 H1
  show own_Go _ _ _ _ (s₁.setTop (mkF m 0 #[sR a1, sR a2] []))
  refine own_Go.by (fun tq kq => XS.aloadN X0.here hx rfl (hb hby d2_0) rfl rfl kq) ?_
  refine own_Go.by (fun tq kq => XS.aloadN X0.here hx rfl (hb hby d2_1) rfl rfl kq) ?_
  refine own_Go.by (fun tq kq => XS.iconst X0.here hx rfl (hb hby d2_2) kq) ?_
  refine own_Go.by (fun tq kq => XS.aloadN X0.here hx rfl (hb hby d2_3) rfl rfl kq) ?_
  show own_Go _ _ _ _ (s₁.setTop (mkF m 4 #[sR a1, sR a2] [(Value.ref a2), (Value.int (0 : Int32)), (Value.ref a2), (Value.ref a1)]))
  obtain ⟨cl1, Ar1, q1, S1, M1, Hh1, G1⟩ := id H4
  refine own_Go.by (fun tq kq => X0.arraylength hx (by rw [e0]; exact Ar1.1) (State.isArrayOf_alike hZ.alike Ar1.2.1) (g := (mkF m 4 #[sR a1, sR a2] [(Value.ref a2), (Value.int (0 : Int32)), (Value.ref a2), (Value.ref a1)])) rfl rfl (hb hby d2_4) _ kq) ?_
  rw [len_of S1 M1]
  refine own_Go.by (fun tq kq => XS.aconstNull X0.here hx rfl (hb hby d2_5) kq) ?_
  show own_Go _ _ _ _ (s₁.setTop (mkF m 6 #[sR a1, sR a2] [.null, (Value.int (0 : Int32)), (Value.int (0 : Int32)), (Value.ref a2), (Value.ref a1)]))
  obtain ⟨_, _, ⟨T2, L2, k2, n2⟩, -, X2, hs2, hg2, ⟨Lc2, hQ2, l2, y2, z2, R2⟩, st2⟩ := X0.specialBackS hx (y := (⟨"java/lang/String", "<init>", "([CIILjava/lang/Void;)V"⟩ : MethodName)) rfl hown (mvT hZ (hw _ (List.mem_of_getElem? (i := 11) rfl))) (mvT hZ (hw _ (List.mem_of_getElem? (i := 12) rfl))) (mvT hZ (hw _ (List.mem_of_getElem? (i := 14) rfl))) (by decide) (backOfSH (W := 0) (rm3 l Z a0 hw [] a1 a2 h0 n0 O0 H0 H1 H2 H3) hZ (hw _ (List.mem_of_getElem? (i := 14) rfl)) (hw _ (List.mem_of_getElem? (i := 7) rfl)) (by decide) (by decide) hEL CH0) (g := (mkF m 6 #[sR a1, sR a2] [.null, (Value.int (0 : Int32)), (Value.int (0 : Int32)), (Value.ref a2), (Value.ref a1)])) rfl (by rw [hml]; rfl) (Steps.refl _) (a := a1) (argsL := [(Value.ref a2), (Value.int (0 : Int32)), (Value.int (0 : Int32)), .null]) (rest := []) (lenOf own_pd0 rfl) rfl (by show 2 * 0 + _ ≤ _; exact Nat.le_of_eq rfl) (hb hby d2_6) (fun _ _ => ⟨rfl, e0, (by decide : 0 + 4 ≤ _), (by decide : 0 + 8 ≤ _)⟩)
  dsimp only [Pt.U, Pt.locs, Pt.cells, Pt.slots] at X2 l2 y2 z2 st2 hQ2 hs2 hg2 R2
  subst l2 y2 z2
  obtain ⟨X2, hS2, hZ2, hown2⟩ := rebS (s := s) (vm0 := s.vm) hS0 (Nat.zero_le _) X2 hs2 hg2 hZ hown
  refine own_Go.by (fun tq kq => st2.trans kq) ?_
  obtain ⟨b_2, k2_2, rfl, N2q, K2q, p2_0, p2_1, p2_2, p2_3⟩ := hQ2
  have N2 := Fr.app N0 N2q
  have O3 := O0.keep K2q (allS H3 all0)
  have K3 := K0.trans K2q (allS (Or.inl (List.mem_of_getElem? (i := 0) rfl)) all0)
  show own_Go _ _ _ _ (T2.setTop (mkF m 9 #[sR a1, sR a2] []))
  obtain ⟨fs, hr, hrun, hended, hRE⟩ := Stand.leaveW (s := s) (vm₁ := T2.vm) X2 hS2 (Nat.le_refl _) (v := none) (fun _ => rfl)
  have hCR := R2
  have hCZ : CHr Z consts_1 s.vm s.heap T2.vm T2.heap := by
    rw [hh]
    exact hCR.trans (CHv.at (s := s) (vm0 := T2.vm) X2 hZ2 hEL hCR.1)
  refine own_Go.fin (X2.returnOut hx Bd.returns (hb hby d2_9) hr) ⟨hrun, hended, _, _, rfl, ?_, hCZ, own_rew hRE (by decide) (by decide)⟩
  show Q2 Z a1 a2 kB h0 n0 _ T2.heap _
  exact ⟨b_2, k2_2, rfl, N2, K3, p2_0, p2_1, p2_2, p2_3⟩

theorem own_pd1 : parseMethodDescriptor "([C)V" = some ⟨[(.array .char)], none⟩ := by decide +kernel
theorem d1_0 : decode method_3_code 0 = .ok (.iload_n 1, 1) := by decide +kernel
theorem d1_1 : decode method_3_code 1 = .ok (.ifCond .ne 14, 3) := by decide +kernel
theorem d1_4 : decode method_3_code 4 = .ok (.new 17, 3) := by decide +kernel
theorem d1_7 : decode method_3_code 7 = .ok (.dup, 1) := by decide +kernel
theorem d1_8 : decode method_3_code 8 = .ok (.iconst 0, 1) := by decide +kernel
theorem d1_9 : decode method_3_code 9 = .ok (.newarray .char, 2) := by decide +kernel
theorem d1_11 : decode method_3_code 11 = .ok (.invokespecial 42, 3) := by decide +kernel
theorem d1_14 : decode method_3_code 14 = .ok (.areturn, 1) := by decide +kernel
theorem d1_15 : decode method_3_code 15 = .ok (.iload_n 1, 1) := by decide +kernel
theorem d1_16 : decode method_3_code 16 = .ok (.iconst 1, 1) := by decide +kernel
theorem d1_17 : decode method_3_code 17 = .ok (.if_icmp .ne 20, 3) := by decide +kernel
theorem d1_20 : decode method_3_code 20 = .ok (.new 17, 3) := by decide +kernel
theorem d1_23 : decode method_3_code 23 = .ok (.dup, 1) := by decide +kernel
theorem d1_24 : decode method_3_code 24 = .ok (.iconst 1, 1) := by decide +kernel
theorem d1_25 : decode method_3_code 25 = .ok (.newarray .char, 2) := by decide +kernel
theorem d1_27 : decode method_3_code 27 = .ok (.dup, 1) := by decide +kernel
theorem d1_28 : decode method_3_code 28 = .ok (.iconst 0, 1) := by decide +kernel
theorem d1_29 : decode method_3_code 29 = .ok (.aload_n 0, 1) := by decide +kernel
theorem d1_30 : decode method_3_code 30 = .ok (.iconst 0, 1) := by decide +kernel
theorem d1_31 : decode method_3_code 31 = .ok (.caload, 1) := by decide +kernel
theorem d1_32 : decode method_3_code 32 = .ok (.castore, 1) := by decide +kernel
theorem d1_33 : decode method_3_code 33 = .ok (.invokespecial 42, 3) := by decide +kernel
theorem d1_36 : decode method_3_code 36 = .ok (.areturn, 1) := by decide +kernel
theorem d1_37 : decode method_3_code 37 = .ok (.iload_n 1, 1) := by decide +kernel
theorem d1_38 : decode method_3_code 38 = .ok (.iconst 2, 1) := by decide +kernel
theorem d1_39 : decode method_3_code 39 = .ok (.if_icmp .ne 26, 3) := by decide +kernel
theorem d1_42 : decode method_3_code 42 = .ok (.new 17, 3) := by decide +kernel
theorem d1_45 : decode method_3_code 45 = .ok (.dup, 1) := by decide +kernel
theorem d1_46 : decode method_3_code 46 = .ok (.iconst 2, 1) := by decide +kernel
theorem d1_47 : decode method_3_code 47 = .ok (.newarray .char, 2) := by decide +kernel
theorem d1_49 : decode method_3_code 49 = .ok (.dup, 1) := by decide +kernel
theorem d1_50 : decode method_3_code 50 = .ok (.iconst 0, 1) := by decide +kernel
theorem d1_51 : decode method_3_code 51 = .ok (.aload_n 0, 1) := by decide +kernel
theorem d1_52 : decode method_3_code 52 = .ok (.iconst 0, 1) := by decide +kernel
theorem d1_53 : decode method_3_code 53 = .ok (.caload, 1) := by decide +kernel
theorem d1_54 : decode method_3_code 54 = .ok (.castore, 1) := by decide +kernel
theorem d1_55 : decode method_3_code 55 = .ok (.dup, 1) := by decide +kernel
theorem d1_56 : decode method_3_code 56 = .ok (.iconst 1, 1) := by decide +kernel
theorem d1_57 : decode method_3_code 57 = .ok (.aload_n 0, 1) := by decide +kernel
theorem d1_58 : decode method_3_code 58 = .ok (.iconst 1, 1) := by decide +kernel
theorem d1_59 : decode method_3_code 59 = .ok (.caload, 1) := by decide +kernel
theorem d1_60 : decode method_3_code 60 = .ok (.castore, 1) := by decide +kernel
theorem d1_61 : decode method_3_code 61 = .ok (.invokespecial 42, 3) := by decide +kernel
theorem d1_64 : decode method_3_code 64 = .ok (.areturn, 1) := by decide +kernel
theorem d1_65 : decode method_3_code 65 = .ok (.iload_n 1, 1) := by decide +kernel
theorem d1_66 : decode method_3_code 66 = .ok (.iconst 3, 1) := by decide +kernel
theorem d1_67 : decode method_3_code 67 = .ok (.if_icmp .ne 32, 3) := by decide +kernel
theorem d1_70 : decode method_3_code 70 = .ok (.new 17, 3) := by decide +kernel
theorem d1_73 : decode method_3_code 73 = .ok (.dup, 1) := by decide +kernel
theorem d1_74 : decode method_3_code 74 = .ok (.iconst 3, 1) := by decide +kernel
theorem d1_75 : decode method_3_code 75 = .ok (.newarray .char, 2) := by decide +kernel
theorem d1_77 : decode method_3_code 77 = .ok (.dup, 1) := by decide +kernel
theorem d1_78 : decode method_3_code 78 = .ok (.iconst 0, 1) := by decide +kernel
theorem d1_79 : decode method_3_code 79 = .ok (.aload_n 0, 1) := by decide +kernel
theorem d1_80 : decode method_3_code 80 = .ok (.iconst 0, 1) := by decide +kernel
theorem d1_81 : decode method_3_code 81 = .ok (.caload, 1) := by decide +kernel
theorem d1_82 : decode method_3_code 82 = .ok (.castore, 1) := by decide +kernel
theorem d1_83 : decode method_3_code 83 = .ok (.dup, 1) := by decide +kernel
theorem d1_84 : decode method_3_code 84 = .ok (.iconst 1, 1) := by decide +kernel
theorem d1_85 : decode method_3_code 85 = .ok (.aload_n 0, 1) := by decide +kernel
theorem d1_86 : decode method_3_code 86 = .ok (.iconst 1, 1) := by decide +kernel
theorem d1_87 : decode method_3_code 87 = .ok (.caload, 1) := by decide +kernel
theorem d1_88 : decode method_3_code 88 = .ok (.castore, 1) := by decide +kernel
theorem d1_89 : decode method_3_code 89 = .ok (.dup, 1) := by decide +kernel
theorem d1_90 : decode method_3_code 90 = .ok (.iconst 2, 1) := by decide +kernel
theorem d1_91 : decode method_3_code 91 = .ok (.aload_n 0, 1) := by decide +kernel
theorem d1_92 : decode method_3_code 92 = .ok (.iconst 2, 1) := by decide +kernel
theorem d1_93 : decode method_3_code 93 = .ok (.caload, 1) := by decide +kernel
theorem d1_94 : decode method_3_code 94 = .ok (.castore, 1) := by decide +kernel
theorem d1_95 : decode method_3_code 95 = .ok (.invokespecial 42, 3) := by decide +kernel
theorem d1_98 : decode method_3_code 98 = .ok (.areturn, 1) := by decide +kernel
theorem d1_99 : decode method_3_code 99 = .ok (.iload_n 1, 1) := by decide +kernel
theorem d1_100 : decode method_3_code 100 = .ok (.iconst 4, 1) := by decide +kernel
theorem d1_101 : decode method_3_code 101 = .ok (.if_icmp .ne 38, 3) := by decide +kernel
theorem d1_104 : decode method_3_code 104 = .ok (.new 17, 3) := by decide +kernel
theorem d1_107 : decode method_3_code 107 = .ok (.dup, 1) := by decide +kernel
theorem d1_108 : decode method_3_code 108 = .ok (.iconst 4, 1) := by decide +kernel
theorem d1_109 : decode method_3_code 109 = .ok (.newarray .char, 2) := by decide +kernel
theorem d1_111 : decode method_3_code 111 = .ok (.dup, 1) := by decide +kernel
theorem d1_112 : decode method_3_code 112 = .ok (.iconst 0, 1) := by decide +kernel
theorem d1_113 : decode method_3_code 113 = .ok (.aload_n 0, 1) := by decide +kernel
theorem d1_114 : decode method_3_code 114 = .ok (.iconst 0, 1) := by decide +kernel
theorem d1_115 : decode method_3_code 115 = .ok (.caload, 1) := by decide +kernel
theorem d1_116 : decode method_3_code 116 = .ok (.castore, 1) := by decide +kernel
theorem d1_117 : decode method_3_code 117 = .ok (.dup, 1) := by decide +kernel
theorem d1_118 : decode method_3_code 118 = .ok (.iconst 1, 1) := by decide +kernel
theorem d1_119 : decode method_3_code 119 = .ok (.aload_n 0, 1) := by decide +kernel
theorem d1_120 : decode method_3_code 120 = .ok (.iconst 1, 1) := by decide +kernel
theorem d1_121 : decode method_3_code 121 = .ok (.caload, 1) := by decide +kernel
theorem d1_122 : decode method_3_code 122 = .ok (.castore, 1) := by decide +kernel
theorem d1_123 : decode method_3_code 123 = .ok (.dup, 1) := by decide +kernel
theorem d1_124 : decode method_3_code 124 = .ok (.iconst 2, 1) := by decide +kernel
theorem d1_125 : decode method_3_code 125 = .ok (.aload_n 0, 1) := by decide +kernel
theorem d1_126 : decode method_3_code 126 = .ok (.iconst 2, 1) := by decide +kernel
theorem d1_127 : decode method_3_code 127 = .ok (.caload, 1) := by decide +kernel
theorem d1_128 : decode method_3_code 128 = .ok (.castore, 1) := by decide +kernel
theorem d1_129 : decode method_3_code 129 = .ok (.dup, 1) := by decide +kernel
theorem d1_130 : decode method_3_code 130 = .ok (.iconst 3, 1) := by decide +kernel
theorem d1_131 : decode method_3_code 131 = .ok (.aload_n 0, 1) := by decide +kernel
theorem d1_132 : decode method_3_code 132 = .ok (.iconst 3, 1) := by decide +kernel
theorem d1_133 : decode method_3_code 133 = .ok (.caload, 1) := by decide +kernel
theorem d1_134 : decode method_3_code 134 = .ok (.castore, 1) := by decide +kernel
theorem d1_135 : decode method_3_code 135 = .ok (.invokespecial 42, 3) := by decide +kernel
theorem d1_138 : decode method_3_code 138 = .ok (.areturn, 1) := by decide +kernel
theorem d1_139 : decode method_3_code 139 = .ok (.iload_n 1, 1) := by decide +kernel
theorem d1_140 : decode method_3_code 140 = .ok (.iconst 5, 1) := by decide +kernel
theorem d1_141 : decode method_3_code 141 = .ok (.if_icmp .ne 44, 3) := by decide +kernel
theorem d1_144 : decode method_3_code 144 = .ok (.new 17, 3) := by decide +kernel
theorem d1_147 : decode method_3_code 147 = .ok (.dup, 1) := by decide +kernel
theorem d1_148 : decode method_3_code 148 = .ok (.iconst 5, 1) := by decide +kernel
theorem d1_149 : decode method_3_code 149 = .ok (.newarray .char, 2) := by decide +kernel
theorem d1_151 : decode method_3_code 151 = .ok (.dup, 1) := by decide +kernel
theorem d1_152 : decode method_3_code 152 = .ok (.iconst 0, 1) := by decide +kernel
theorem d1_153 : decode method_3_code 153 = .ok (.aload_n 0, 1) := by decide +kernel
theorem d1_154 : decode method_3_code 154 = .ok (.iconst 0, 1) := by decide +kernel
theorem d1_155 : decode method_3_code 155 = .ok (.caload, 1) := by decide +kernel
theorem d1_156 : decode method_3_code 156 = .ok (.castore, 1) := by decide +kernel
theorem d1_157 : decode method_3_code 157 = .ok (.dup, 1) := by decide +kernel
theorem d1_158 : decode method_3_code 158 = .ok (.iconst 1, 1) := by decide +kernel
theorem d1_159 : decode method_3_code 159 = .ok (.aload_n 0, 1) := by decide +kernel
theorem d1_160 : decode method_3_code 160 = .ok (.iconst 1, 1) := by decide +kernel
theorem d1_161 : decode method_3_code 161 = .ok (.caload, 1) := by decide +kernel
theorem d1_162 : decode method_3_code 162 = .ok (.castore, 1) := by decide +kernel
theorem d1_163 : decode method_3_code 163 = .ok (.dup, 1) := by decide +kernel
theorem d1_164 : decode method_3_code 164 = .ok (.iconst 2, 1) := by decide +kernel
theorem d1_165 : decode method_3_code 165 = .ok (.aload_n 0, 1) := by decide +kernel
theorem d1_166 : decode method_3_code 166 = .ok (.iconst 2, 1) := by decide +kernel
theorem d1_167 : decode method_3_code 167 = .ok (.caload, 1) := by decide +kernel
theorem d1_168 : decode method_3_code 168 = .ok (.castore, 1) := by decide +kernel
theorem d1_169 : decode method_3_code 169 = .ok (.dup, 1) := by decide +kernel
theorem d1_170 : decode method_3_code 170 = .ok (.iconst 3, 1) := by decide +kernel
theorem d1_171 : decode method_3_code 171 = .ok (.aload_n 0, 1) := by decide +kernel
theorem d1_172 : decode method_3_code 172 = .ok (.iconst 3, 1) := by decide +kernel
theorem d1_173 : decode method_3_code 173 = .ok (.caload, 1) := by decide +kernel
theorem d1_174 : decode method_3_code 174 = .ok (.castore, 1) := by decide +kernel
theorem d1_175 : decode method_3_code 175 = .ok (.dup, 1) := by decide +kernel
theorem d1_176 : decode method_3_code 176 = .ok (.iconst 4, 1) := by decide +kernel
theorem d1_177 : decode method_3_code 177 = .ok (.aload_n 0, 1) := by decide +kernel
theorem d1_178 : decode method_3_code 178 = .ok (.iconst 4, 1) := by decide +kernel
theorem d1_179 : decode method_3_code 179 = .ok (.caload, 1) := by decide +kernel
theorem d1_180 : decode method_3_code 180 = .ok (.castore, 1) := by decide +kernel
theorem d1_181 : decode method_3_code 181 = .ok (.invokespecial 42, 3) := by decide +kernel
theorem d1_184 : decode method_3_code 184 = .ok (.areturn, 1) := by decide +kernel
theorem d1_185 : decode method_3_code 185 = .ok (.iload_n 1, 1) := by decide +kernel
theorem d1_186 : decode method_3_code 186 = .ok (.bipush 6, 2) := by decide +kernel
theorem d1_188 : decode method_3_code 188 = .ok (.if_icmp .ne 51, 3) := by decide +kernel
theorem d1_191 : decode method_3_code 191 = .ok (.new 17, 3) := by decide +kernel
theorem d1_194 : decode method_3_code 194 = .ok (.dup, 1) := by decide +kernel
theorem d1_195 : decode method_3_code 195 = .ok (.bipush 6, 2) := by decide +kernel
theorem d1_197 : decode method_3_code 197 = .ok (.newarray .char, 2) := by decide +kernel
theorem d1_199 : decode method_3_code 199 = .ok (.dup, 1) := by decide +kernel
theorem d1_200 : decode method_3_code 200 = .ok (.iconst 0, 1) := by decide +kernel
theorem d1_201 : decode method_3_code 201 = .ok (.aload_n 0, 1) := by decide +kernel
theorem d1_202 : decode method_3_code 202 = .ok (.iconst 0, 1) := by decide +kernel
theorem d1_203 : decode method_3_code 203 = .ok (.caload, 1) := by decide +kernel
theorem d1_204 : decode method_3_code 204 = .ok (.castore, 1) := by decide +kernel
theorem d1_205 : decode method_3_code 205 = .ok (.dup, 1) := by decide +kernel
theorem d1_206 : decode method_3_code 206 = .ok (.iconst 1, 1) := by decide +kernel
theorem d1_207 : decode method_3_code 207 = .ok (.aload_n 0, 1) := by decide +kernel
theorem d1_208 : decode method_3_code 208 = .ok (.iconst 1, 1) := by decide +kernel
theorem d1_209 : decode method_3_code 209 = .ok (.caload, 1) := by decide +kernel
theorem d1_210 : decode method_3_code 210 = .ok (.castore, 1) := by decide +kernel
theorem d1_211 : decode method_3_code 211 = .ok (.dup, 1) := by decide +kernel
theorem d1_212 : decode method_3_code 212 = .ok (.iconst 2, 1) := by decide +kernel
theorem d1_213 : decode method_3_code 213 = .ok (.aload_n 0, 1) := by decide +kernel
theorem d1_214 : decode method_3_code 214 = .ok (.iconst 2, 1) := by decide +kernel
theorem d1_215 : decode method_3_code 215 = .ok (.caload, 1) := by decide +kernel
theorem d1_216 : decode method_3_code 216 = .ok (.castore, 1) := by decide +kernel
theorem d1_217 : decode method_3_code 217 = .ok (.dup, 1) := by decide +kernel
theorem d1_218 : decode method_3_code 218 = .ok (.iconst 3, 1) := by decide +kernel
theorem d1_219 : decode method_3_code 219 = .ok (.aload_n 0, 1) := by decide +kernel
theorem d1_220 : decode method_3_code 220 = .ok (.iconst 3, 1) := by decide +kernel
theorem d1_221 : decode method_3_code 221 = .ok (.caload, 1) := by decide +kernel
theorem d1_222 : decode method_3_code 222 = .ok (.castore, 1) := by decide +kernel
theorem d1_223 : decode method_3_code 223 = .ok (.dup, 1) := by decide +kernel
theorem d1_224 : decode method_3_code 224 = .ok (.iconst 4, 1) := by decide +kernel
theorem d1_225 : decode method_3_code 225 = .ok (.aload_n 0, 1) := by decide +kernel
theorem d1_226 : decode method_3_code 226 = .ok (.iconst 4, 1) := by decide +kernel
theorem d1_227 : decode method_3_code 227 = .ok (.caload, 1) := by decide +kernel
theorem d1_228 : decode method_3_code 228 = .ok (.castore, 1) := by decide +kernel
theorem d1_229 : decode method_3_code 229 = .ok (.dup, 1) := by decide +kernel
theorem d1_230 : decode method_3_code 230 = .ok (.iconst 5, 1) := by decide +kernel
theorem d1_231 : decode method_3_code 231 = .ok (.aload_n 0, 1) := by decide +kernel
theorem d1_232 : decode method_3_code 232 = .ok (.iconst 5, 1) := by decide +kernel
theorem d1_233 : decode method_3_code 233 = .ok (.caload, 1) := by decide +kernel
theorem d1_234 : decode method_3_code 234 = .ok (.castore, 1) := by decide +kernel
theorem d1_235 : decode method_3_code 235 = .ok (.invokespecial 42, 3) := by decide +kernel
theorem d1_238 : decode method_3_code 238 = .ok (.areturn, 1) := by decide +kernel
theorem d1_239 : decode method_3_code 239 = .ok (.new 17, 3) := by decide +kernel
theorem d1_242 : decode method_3_code 242 = .ok (.dup, 1) := by decide +kernel
theorem d1_243 : decode method_3_code 243 = .ok (.bipush 7, 2) := by decide +kernel
theorem d1_245 : decode method_3_code 245 = .ok (.newarray .char, 2) := by decide +kernel
theorem d1_247 : decode method_3_code 247 = .ok (.dup, 1) := by decide +kernel
theorem d1_248 : decode method_3_code 248 = .ok (.iconst 0, 1) := by decide +kernel
theorem d1_249 : decode method_3_code 249 = .ok (.aload_n 0, 1) := by decide +kernel
theorem d1_250 : decode method_3_code 250 = .ok (.iconst 0, 1) := by decide +kernel
theorem d1_251 : decode method_3_code 251 = .ok (.caload, 1) := by decide +kernel
theorem d1_252 : decode method_3_code 252 = .ok (.castore, 1) := by decide +kernel
theorem d1_253 : decode method_3_code 253 = .ok (.dup, 1) := by decide +kernel
theorem d1_254 : decode method_3_code 254 = .ok (.iconst 1, 1) := by decide +kernel
theorem d1_255 : decode method_3_code 255 = .ok (.aload_n 0, 1) := by decide +kernel
theorem d1_256 : decode method_3_code 256 = .ok (.iconst 1, 1) := by decide +kernel
theorem d1_257 : decode method_3_code 257 = .ok (.caload, 1) := by decide +kernel
theorem d1_258 : decode method_3_code 258 = .ok (.castore, 1) := by decide +kernel
theorem d1_259 : decode method_3_code 259 = .ok (.dup, 1) := by decide +kernel
theorem d1_260 : decode method_3_code 260 = .ok (.iconst 2, 1) := by decide +kernel
theorem d1_261 : decode method_3_code 261 = .ok (.aload_n 0, 1) := by decide +kernel
theorem d1_262 : decode method_3_code 262 = .ok (.iconst 2, 1) := by decide +kernel
theorem d1_263 : decode method_3_code 263 = .ok (.caload, 1) := by decide +kernel
theorem d1_264 : decode method_3_code 264 = .ok (.castore, 1) := by decide +kernel
theorem d1_265 : decode method_3_code 265 = .ok (.dup, 1) := by decide +kernel
theorem d1_266 : decode method_3_code 266 = .ok (.iconst 3, 1) := by decide +kernel
theorem d1_267 : decode method_3_code 267 = .ok (.aload_n 0, 1) := by decide +kernel
theorem d1_268 : decode method_3_code 268 = .ok (.iconst 3, 1) := by decide +kernel
theorem d1_269 : decode method_3_code 269 = .ok (.caload, 1) := by decide +kernel
theorem d1_270 : decode method_3_code 270 = .ok (.castore, 1) := by decide +kernel
theorem d1_271 : decode method_3_code 271 = .ok (.dup, 1) := by decide +kernel
theorem d1_272 : decode method_3_code 272 = .ok (.iconst 4, 1) := by decide +kernel
theorem d1_273 : decode method_3_code 273 = .ok (.aload_n 0, 1) := by decide +kernel
theorem d1_274 : decode method_3_code 274 = .ok (.iconst 4, 1) := by decide +kernel
theorem d1_275 : decode method_3_code 275 = .ok (.caload, 1) := by decide +kernel
theorem d1_276 : decode method_3_code 276 = .ok (.castore, 1) := by decide +kernel
theorem d1_277 : decode method_3_code 277 = .ok (.dup, 1) := by decide +kernel
theorem d1_278 : decode method_3_code 278 = .ok (.iconst 5, 1) := by decide +kernel
theorem d1_279 : decode method_3_code 279 = .ok (.aload_n 0, 1) := by decide +kernel
theorem d1_280 : decode method_3_code 280 = .ok (.iconst 5, 1) := by decide +kernel
theorem d1_281 : decode method_3_code 281 = .ok (.caload, 1) := by decide +kernel
theorem d1_282 : decode method_3_code 282 = .ok (.castore, 1) := by decide +kernel
theorem d1_283 : decode method_3_code 283 = .ok (.dup, 1) := by decide +kernel
theorem d1_284 : decode method_3_code 284 = .ok (.bipush 6, 2) := by decide +kernel
theorem d1_286 : decode method_3_code 286 = .ok (.aload_n 0, 1) := by decide +kernel
theorem d1_287 : decode method_3_code 287 = .ok (.bipush 6, 2) := by decide +kernel
theorem d1_289 : decode method_3_code 289 = .ok (.caload, 1) := by decide +kernel
theorem d1_290 : decode method_3_code 290 = .ok (.castore, 1) := by decide +kernel
theorem d1_291 : decode method_3_code 291 = .ok (.invokespecial 42, 3) := by decide +kernel
theorem d1_294 : decode method_3_code 294 = .ok (.areturn, 1) := by decide +kernel
theorem own_pn_com_example_concordat_concordat_server_KindByNamePinLaw : plainName "com/example/concordat/concordat/server/KindByNamePinLaw" = true := by first | (simp [plainName, overriddenIn]; done) | decide +kernel
theorem own_ef_1 (m : MethodId) (a1 : Addr) (nn : Int32) : entryFrame m #[(Value.ref a1), (Value.int nn)] 2 = mkF m 0 #[sR a1, sI nn] [] := by first | (simp [entryFrame, mkF, argsToLocals, Value.category]; done) | rfl
def Q1 (Z : State) (a1 : Addr) (kB : ClassId) (b0 : Int32) (b1 : Int32) (b2 : Int32) (b3 : Int32) (b4 : Int32) (b5 : Int32) (b6 : Int32) (nn : Int32) (zc : Int32) (h0 : Heap) (n0 : Nat) (v : Option Value) (h : Heap) (L : List Loc) : Prop := ∃ (x : Addr), ∃ (t : Addr), ∃ (kb : ClassId), ∃ (N2 : Int32), ∃ (vs2 : List Value), ∃ (cs : List Int32), v = some (Value.ref x) ∧ Fr n0 L ∧ Keep h0 h [] ∧ (h0.size ≤ x) ∧ (Exa Z h x "java/lang/String") ∧ (Fld Z h x "java/lang/String" "coder" "B" (Value.int (0 : Int32))) ∧ (Fld Z h x "java/lang/String" "value" "[B" (Value.ref t)) ∧ (Arv Z h t kb .byte N2 vs2 (Value.int (0 : Int32))) ∧ (StrChars.Road.CodA cs (0 : Int32) N2 vs2 ∧ (∀ c ∈ cs, ¬ c < 0 ∧ ¬ (255 : Int32) < c) ∧ cs.length ≤ 4000)
set_option maxRecDepth 65536 in
set_option maxHeartbeats 40000000 in
theorem rm1 (l : Launch) (Z : State) (a0 : Array Value) (hw : ∀ d ∈ tables_1, d.before a0 Z = true) (ws : List Jvm.Cond) (a1 : Addr) (kB : ClassId) (b0 : Int32) (b1 : Int32) (b2 : Int32) (b3 : Int32) (b4 : Int32) (b5 : Int32) (b6 : Int32) (nn : Int32) (zc : Int32) (h0 : Heap) (n0 : Nat) (O0 : Old Z n0 h0) (H0 : Arv Z h0 a1 kB .char (7 : Int32) [(Value.int b0), (Value.int b1), (Value.int b2), (Value.int b3), (Value.int b4), (Value.int b5), (Value.int b6)] (Value.int (0 : Int32))) (hbn : ∀ c ∈ ([b0, b1, b2, b3, b4, b5, b6] : List Int32), ¬ c < 0 ∧ ¬ (255 : Int32) < c) (H2 : Sta Z Z.heap "java/lang/String" "COMPACT_STRINGS" "Z" (Value.int zc)) (hzc : ¬ (zc = (0 : Int32))) :
    MetFree l (⟨"com/example/concordat/concordat/server/KindByNamePinLaw", "make", "([CI)Ljava/lang/String;"⟩ : MethodName) (head1 (Jvm.Cond.code (⟨"com/example/concordat/concordat/server/KindByNamePinLaw", "make", "([CI)Ljava/lang/String;"⟩ : MethodName) method_3_code 2 (some (.object "java/lang/String")) :: ws) ({ frames := 4, cells := 6, slots := 18, locals := 66 } : Room)) (fun a U => a = #[(Value.ref a1), (Value.int nn)] ∧ Z.Warmed39 U.vm ∧ U.heap = h0 ∧ CHv Z consts_1 U.vm h0) (fun _ _ _ _ _ => True) (fun _ U o U' => ∃ v L, o = .returned v ∧ Q1 Z a1 kB b0 b1 b2 b3 b4 b5 b6 nn zc h0 n0 v U'.heap L ∧ CHr Z consts_1 U.vm U.heap U'.vm U'.heap ∧ ReturnedEndW U o U' L ({ frames := 4, cells := 6, slots := 18, locals := 66 } : Room).cells ({ frames := 4, cells := 6, slots := 18, locals := 66 } : Room).slots) := by
  refine MetFree.of_bodySF (plainFor_of_name own_pn_com_example_concordat_concordat_server_KindByNamePinLaw) hisR ?_
  intro p e s m args below meth c s₁ Bd hml0 hP hK
  obtain ⟨rfl, hZ, hh, CH0⟩ := hP
  have hx := Bd.exec
  have hby := Bd.bytes
  have hml : c.maxLocals = 2 := hml0
  have hown : s.vm.findClass "com/example/concordat/concordat/server/KindByNamePinLaw" = some m.cls := findClass_of_methodNamed Bd.named
  have hnm := (name_of_methodNamed Bd.named Bd.method).1
  have hEL := own_hEL hw
  have X0 : Stand p l e ({ frames := 4, cells := 6, slots := 18, locals := 66 } : Room) s m #[(Value.ref a1), (Value.int nn)] below meth c s₁ [] 0 0 := Stand.of_body Bd
  have e0 : s₁.heap = h0 := by rw [← hh, Bd.state]; rfl
  have hS0 : s.Since s.vm 0 := (State.WarmedH.refl s).since 0
  have N0 := Fr.nil n0
  have K0 : Keep h0 h0 [] := Keep.refl h0 []
  show own_Go _ _ _ _ (s₁.setTop (entryFrame m #[(Value.ref a1), (Value.int nn)] 2))
  refine own_Go.by (fun tq kq => castTop (own_ef_1 m a1 nn) kq) ?_
  show own_Go _ _ _ _ (s₁.setTop (mkF m 0 #[sR a1, sI nn] []))
  refine own_Go.by (fun tq kq => XS.iloadN X0.here hx rfl (hb hby d1_0) rfl kq) ?_
  show own_Go _ _ _ _ (s₁.setTop (mkF m 1 #[sR a1, sI nn] [(Value.int nn)]))
  by_cases hc1_1 : nn = (0 : Int32)
  ·
    refine own_Go.by (fun tq kq => XS.ifNo X0.here hx rfl (hb hby d1_1) rfl ((if0 _ _).trans (teq hc1_1).2) kq) ?_
    show own_Go _ _ _ _ (s₁.setTop (mkF m 4 #[sR a1, sI nn] []))
    obtain ⟨T2, h2, X2, e2, E2, A2, D2, -, st2⟩ := newO X0 hx hZ hown (hw _ (List.mem_of_getElem? (i := 5) rfl)) (hw _ (List.mem_of_getElem? (i := 6) rfl)) (hw _ (List.mem_of_getElem? (i := 7) rfl)) e0 (g := (mkF m 4 #[sR a1, sI nn] [])) rfl (hb hby d1_4) (by decide) (by decide)
    obtain ⟨ob2, y2⟩ : ∃ z, z = h0.size := ⟨_, rfl⟩
    rw [← y2] at A2 D2 st2
    refine own_Go.by st2 ?_
    have O3 := O0.ext E2
    have K3 := K0.ext E2
    have g4 : n0 ≤ ob2 := Nat.le_trans (own_old_le O0) (Nat.le_of_eq y2.symm)
    have z4 : h0.size ≤ ob2 := Nat.le_trans K0.1 (Nat.le_of_eq y2.symm)
    have F2_coder : Fld Z h2 ob2 "java/lang/String" "coder" "B" (Value.int (0 : Int32)) := D2 (Or.inr (hw _ (List.mem_of_getElem? (i := 31) rfl))) (ty := .byte) (by decide)
    have F2_value : Fld Z h2 ob2 "java/lang/String" "value" "[B" .null := D2 (Or.inr (hw _ (List.mem_of_getElem? (i := 33) rfl))) (ty := (.array .byte)) (by decide)
    refine own_Go.by (fun tq kq => XS.dup X2.here hx rfl (hb hby d1_7) rfl rfl kq) ?_
    refine own_Go.by (fun tq kq => XS.iconst X2.here hx rfl (hb hby d1_8) kq) ?_
    show own_Go _ _ _ _ (T2.setTop (mkF m 9 #[sR a1, sI nn] [(Value.int (0 : Int32)), (Value.ref ob2), (Value.ref ob2)]))
    obtain ⟨T5, h5, k5, X5, e5, E5, A5, Ea5, st5⟩ := newPE X2 hx hZ (hw _ (List.mem_of_getElem? (i := 0) rfl)) e2 (g := (mkF m 9 #[sR a1, sI nn] [(Value.int (0 : Int32)), (Value.ref ob2), (Value.ref ob2)])) rfl (hb hby d1_9) rfl (by decide : ¬ ((0 : Int32) < (0 : Int32))) (cap := 0) (by decide : (0 : Int32).toNatClampNeg ≤ 0) (by decide) (by decide) (by decide) (ad := "[C") rfl
    obtain ⟨ob5, y5⟩ : ∃ z, z = h2.size := ⟨_, rfl⟩
    rw [← y5] at A5 Ea5 st5
    refine own_Go.by st5 ?_
    have O6 := O3.ext E5
    have K6 := K3.ext E5
    have g7 : n0 ≤ ob5 := Nat.le_trans (own_old_le O3) (Nat.le_of_eq y5.symm)
    have z7 : h0.size ≤ ob5 := Nat.le_trans K3.1 (Nat.le_of_eq y5.symm)
    have V5 : Arv Z h5 ob5 k5 .char (0 : Int32) [] (Value.int (0 : Int32)) := Arv.new A5 (by decide : ¬ ((0 : Int32) < (0 : Int32)))
    show own_Go _ _ _ _ (T5.setTop (mkF m 11 #[sR a1, sI nn] [(Value.ref ob5), (Value.ref ob2), (Value.ref ob2)]))
    have c9 := (A2.ext E5)
    have c10 := (F2_value.ext E5)
    have c11 := (F2_coder.ext E5)
    have R12 := CHr.ext E2 CH0
    have R13 := CHr.ext E5 R12.1
    obtain ⟨_, _, ⟨T8, L8, k8, n8⟩, -, X8, hs8, hg8, ⟨Lc8, hQ8, l8, y8, z8, R8⟩, st8⟩ := X5.specialBackS hx (y := (⟨"java/lang/String", "<init>", "([C)V"⟩ : MethodName)) rfl hown (mvT hZ (hw _ (List.mem_of_getElem? (i := 8) rfl))) (mvT hZ (hw _ (List.mem_of_getElem? (i := 9) rfl))) (mvT hZ (hw _ (List.mem_of_getElem? (i := 10) rfl))) (by decide) (backOfSH (W := 1) (rm2 l Z a0 hw [] ob2 ob5 k5 h5 n0 O6 c9 c10 c11 g4 V5) hZ (hw _ (List.mem_of_getElem? (i := 10) rfl)) (hw _ (List.mem_of_getElem? (i := 7) rfl)) (by decide) (by decide) hEL R13.1) (g := (mkF m 11 #[sR a1, sI nn] [(Value.ref ob5), (Value.ref ob2), (Value.ref ob2)])) rfl (by rw [hml]; rfl) (Steps.refl _) (a := ob2) (argsL := [(Value.ref ob5)]) (rest := [(Value.ref ob2)]) (lenOf own_pd1 rfl) rfl (by show 2 * 0 + _ ≤ _; exact Nat.le_of_eq rfl) (hb hby d1_11) (fun _ _ => ⟨rfl, e5, (by decide : 2 + 4 ≤ _), (by decide : 4 + 8 ≤ _)⟩)
    dsimp only [Pt.U, Pt.locs, Pt.cells, Pt.slots] at X8 l8 y8 z8 st8 hQ8 hs8 hg8 R8
    subst l8 y8 z8
    obtain ⟨X8, hS8, hZ8, hown8⟩ := rebS (s := s) (vm0 := s.vm) hS0 (Nat.zero_le _) X8 hs8 hg8 hZ hown
    refine own_Go.by (fun tq kq => st8.trans kq) ?_
    obtain ⟨b_8, k2_8, rfl, N8q, K8q, p8_0, p8_1, p8_2, p8_3⟩ := hQ8
    have N8 := Fr.app N0 N8q
    have O14 := O6.keep K8q (allS g4 all0)
    have K14 := K6.trans K8q (allS (Or.inr z4) all0)
    show own_Go _ _ _ _ (T8.setTop (mkF m 14 #[sR a1, sI nn] [(Value.ref ob2)]))
    obtain ⟨fs, hr, hrun, hended, hRE⟩ := Stand.leaveW (s := s) (vm₁ := T8.vm) X8 hS8 (Nat.le_refl _) (v := some (Value.ref ob2)) (fun h => by rw [Bd.returns] at h; cases h)
    have hCR := ((R12.trans R13).trans R8)
    have hCZ : CHr Z consts_1 s.vm s.heap T8.vm T8.heap := by
      rw [hh]
      exact hCR.trans (CHv.at (s := s) (vm0 := T8.vm) X8 hZ8 hEL hCR.1)
    refine own_Go.fin (retOut X8 hx Bd.returns rfl (Or.inr (Or.inr (Or.inr (Or.inr ⟨rfl, rfl, rfl⟩)))) (hb hby d1_14) hr) ⟨hrun, hended, _, _, rfl, ?_, hCZ, own_rew hRE (by decide) (by decide)⟩
    show Q1 Z a1 kB b0 b1 b2 b3 b4 b5 b6 nn zc h0 n0 _ T8.heap _
    exact ⟨ob2, b_8, k2_8, (0 : Int32), [], ([] : List Int32), rfl, N8, K14, z4, p8_0, p8_1, p8_2, p8_3, ⟨StrChars.Road.codOf (n := 0) rfl (fun x hx => nomatch hx), (fun x hx => nomatch hx), Nat.zero_le _⟩⟩
  ·
    refine own_Go.by (fun tq kq => XS.ifYes X0.here hx rfl (pc0 := 1) (pc' := 15) rfl (hb hby d1_1) rfl ((if0 _ _).trans (feq hc1_1).2) (by decide) (by decide) kq) ?_
    refine own_Go.by (fun tq kq => XS.iloadN X0.here hx rfl (hb hby d1_15) rfl kq) ?_
    refine own_Go.by (fun tq kq => XS.iconst X0.here hx rfl (hb hby d1_16) kq) ?_
    show own_Go _ _ _ _ (s₁.setTop (mkF m 17 #[sR a1, sI nn] [(Value.int (1 : Int32)), (Value.int nn)]))
    by_cases hc17_15 : nn = (1 : Int32)
    ·
      refine own_Go.by (fun tq kq => XS.icmpNo X0.here hx rfl (hb hby d1_17) rfl (teq hc17_15).2 kq) ?_
      show own_Go _ _ _ _ (s₁.setTop (mkF m 20 #[sR a1, sI nn] []))
      obtain ⟨T16, h16, X16, e16, E16, A16, D16, -, st16⟩ := newO X0 hx hZ hown (hw _ (List.mem_of_getElem? (i := 5) rfl)) (hw _ (List.mem_of_getElem? (i := 6) rfl)) (hw _ (List.mem_of_getElem? (i := 7) rfl)) e0 (g := (mkF m 20 #[sR a1, sI nn] [])) rfl (hb hby d1_20) (by decide) (by decide)
      obtain ⟨ob16, y16⟩ : ∃ z, z = h0.size := ⟨_, rfl⟩
      rw [← y16] at A16 D16 st16
      refine own_Go.by st16 ?_
      have O17 := O0.ext E16
      have K17 := K0.ext E16
      have g18 : n0 ≤ ob16 := Nat.le_trans (own_old_le O0) (Nat.le_of_eq y16.symm)
      have z18 : h0.size ≤ ob16 := Nat.le_trans K0.1 (Nat.le_of_eq y16.symm)
      have F16_coder : Fld Z h16 ob16 "java/lang/String" "coder" "B" (Value.int (0 : Int32)) := D16 (Or.inr (hw _ (List.mem_of_getElem? (i := 31) rfl))) (ty := .byte) (by decide)
      have F16_value : Fld Z h16 ob16 "java/lang/String" "value" "[B" .null := D16 (Or.inr (hw _ (List.mem_of_getElem? (i := 33) rfl))) (ty := (.array .byte)) (by decide)
      refine own_Go.by (fun tq kq => XS.dup X16.here hx rfl (hb hby d1_23) rfl rfl kq) ?_
      refine own_Go.by (fun tq kq => XS.iconst X16.here hx rfl (hb hby d1_24) kq) ?_
      show own_Go _ _ _ _ (T16.setTop (mkF m 25 #[sR a1, sI nn] [(Value.int (1 : Int32)), (Value.ref ob16), (Value.ref ob16)]))
      obtain ⟨T19, h19, k19, X19, e19, E19, A19, Ea19, st19⟩ := newPE X16 hx hZ (hw _ (List.mem_of_getElem? (i := 0) rfl)) e16 (g := (mkF m 25 #[sR a1, sI nn] [(Value.int (1 : Int32)), (Value.ref ob16), (Value.ref ob16)])) rfl (hb hby d1_25) rfl (by decide : ¬ ((1 : Int32) < (0 : Int32))) (cap := 1) (by decide : (1 : Int32).toNatClampNeg ≤ 1) (by decide) (by decide) (by decide) (ad := "[C") rfl
      obtain ⟨ob19, y19⟩ : ∃ z, z = h16.size := ⟨_, rfl⟩
      rw [← y19] at A19 Ea19 st19
      refine own_Go.by st19 ?_
      have O20 := O17.ext E19
      have K20 := K17.ext E19
      have g21 : n0 ≤ ob19 := Nat.le_trans (own_old_le O17) (Nat.le_of_eq y19.symm)
      have z21 : h0.size ≤ ob19 := Nat.le_trans K17.1 (Nat.le_of_eq y19.symm)
      have V19 : Arv Z h19 ob19 k19 .char (1 : Int32) [(Value.int (0 : Int32))] (Value.int (0 : Int32)) := (Arv.new A19 (by decide : ¬ ((1 : Int32) < (0 : Int32)))).pad (pad_rep [] (Value.int (0 : Int32)) 1)
      refine own_Go.by (fun tq kq => XS.dup X19.here hx rfl (hb hby d1_27) rfl rfl kq) ?_
      refine own_Go.by (fun tq kq => XS.iconst X19.here hx rfl (hb hby d1_28) kq) ?_
      refine own_Go.by (fun tq kq => XS.aloadN X19.here hx rfl (hb hby d1_29) rfl rfl kq) ?_
      show own_Go _ _ _ _ (T19.setTop (mkF m 30 #[sR a1, sI nn] [(Value.ref a1), (Value.int (0 : Int32)), (Value.ref ob19), (Value.ref ob19), (Value.ref ob16), (Value.ref ob16)]))
      refine own_Go.by (fun tq kq => XS.iconst X19.here hx rfl (hb hby d1_30) kq) ?_
      show own_Go _ _ _ _ (T19.setTop (mkF m 31 #[sR a1, sI nn] [(Value.int (0 : Int32)), (Value.ref a1), (Value.int (0 : Int32)), (Value.ref ob19), (Value.ref ob19), (Value.ref ob16), (Value.ref ob16)]))
      have c22 := ((H0.ext E16).ext E19)
      obtain ⟨cl23, Ar23, q23, S23, M23, Hh23, G23⟩ := id c22
      refine own_Go.by (fun tq kq => X19.caload hx (j := (0 : Int32)) (v := (Value.int b0)) (by rw [e19]; exact Ar23.1) (State.isArrayOf_alike hZ.alike Ar23.2.1) Ar23.2.2 (inb_of S23 ⟨(by decide : ¬ ((0 : Int32) < (0 : Int32))), (by decide : (0 : Int32) < (7 : Int32))⟩) (Has.at Hh23 (inb_of S23 ⟨(by decide : ¬ ((0 : Int32) < (0 : Int32))), (by decide : (0 : Int32) < (7 : Int32))⟩) (rfl : _ = (Value.int b0))) (g := (mkF m 31 #[sR a1, sI nn] [(Value.int (0 : Int32)), (Value.ref a1), (Value.int (0 : Int32)), (Value.ref ob19), (Value.ref ob19), (Value.ref ob16), (Value.ref ob16)])) rfl rfl (hb hby d1_31) _ kq) ?_
      show own_Go _ _ _ _ (T19.setTop (mkF m 32 #[sR a1, sI nn] [(Value.int b0), (Value.int (0 : Int32)), (Value.ref ob19), (Value.ref ob19), (Value.ref ob16), (Value.ref ob16)]))
      obtain ⟨cl24, Ar24, q24, S24, M24, Hh24, G24⟩ := id V19
      obtain ⟨T25, h25, X25, e25, W25, st25⟩ := stC X19 hx hZ e19 Ar24 (j := (0 : Int32)) (inb_of S24 ⟨(by decide : ¬ ((0 : Int32) < (0 : Int32))), (by decide : (0 : Int32) < (1 : Int32))⟩) (g := (mkF m 32 #[sR a1, sI nn] [(Value.int b0), (Value.int (0 : Int32)), (Value.ref ob19), (Value.ref ob19), (Value.ref ob16), (Value.ref ob16)])) rfl rfl (hb hby d1_32)
      refine own_Go.by st25 ?_
      have N25 := Fr.snoc X25 N0 g21
      have O26 := O20.wr W25 g21
      have K26 := K20.wr W25 (Or.inr z21)
      rw [show nar .char b0 = b0 from own_narc (hbn _ (by simp))] at W25
      have V25 : Arv Z h25 ob19 k19 .char (1 : Int32) [(Value.int b0)] (Value.int (0 : Int32)) := Arv.set Ar24 q24 S24 M24 Hh24 G24 (own_fitC (own_narc (hbn _ (by simp)))) W25 0 rfl (Nat.le_of_ble_eq_true rfl)
      show own_Go _ _ _ _ (T25.setTop (mkF m 33 #[sR a1, sI nn] [(Value.ref ob19), (Value.ref ob16), (Value.ref ob16)]))
      have c28 := ((A16.ext E19).wr W25)
      have c29 := ((F16_value.ext E19).other W25 (Or.inl (Nat.ne_of_lt (Nat.lt_of_lt_of_le A16.lt (Nat.le_of_eq y19.symm)))))
      have c30 := ((F16_coder.ext E19).other W25 (Or.inl (Nat.ne_of_lt (Nat.lt_of_lt_of_le A16.lt (Nat.le_of_eq y19.symm)))))
      have hp27 : ∀ c ∈ ([b0] : List Int32), ¬ c < 0 ∧ ¬ (255 : Int32) < c := fun c hc => hbn c (by simp only [List.mem_cons, List.not_mem_nil, or_false] at hc ⊢; subst hc; simp)
      obtain ⟨_, _, ⟨T27, L27, k27, n27⟩, -, X27, ⟨Lc27, hQ27, l27, y27, z27⟩, st27⟩ := X25.specialBack hx (y := (⟨"java/lang/String", "<init>", "([C)V"⟩ : MethodName)) rfl hown (mvT hZ (hw _ (List.mem_of_getElem? (i := 8) rfl))) (mvT hZ (hw _ (List.mem_of_getElem? (i := 9) rfl))) (mvT hZ (hw _ (List.mem_of_getElem? (i := 10) rfl))) (by decide) (StrChars.Road.backV (W := 1) hZ (fun d hd => hw d (own_hws d hd)) (kI := 4) (hw _ (List.mem_of_getElem? (i := 6) rfl)) (cs := ([b0] : List Int32)) (bs := (([b0] : List Int32).map (fun c => c.toInt8.toInt32))) (n := 1) g18 (own_old_le O26) c28 c29 c30 V25 (H2.ext O26.2) hzc rfl rfl (by decide) (by decide) hp27 rfl (by decide) (by decide)) (g := (mkF m 33 #[sR a1, sI nn] [(Value.ref ob19), (Value.ref ob16), (Value.ref ob16)])) rfl (by rw [hml]; rfl) (Steps.refl _) (a := ob16) (argsL := [(Value.ref ob19)]) (rest := [(Value.ref ob16)]) (lenOf own_pd1 rfl) rfl (by show 2 * 0 + _ ≤ _; exact Nat.le_of_eq rfl) (hb hby d1_33) (fun _ _ => ⟨rfl, e25, (by decide : 2 + 1 ≤ _), (by decide : 5 + 1 ≤ _)⟩)
      dsimp only [Pt.U, Pt.locs, Pt.cells, Pt.slots] at X27 l27 y27 z27 st27 hQ27
      subst l27 y27 z27
      refine own_Go.by (fun tq kq => st27.trans kq) ?_
      obtain ⟨rfl, N27q, K27q, E27q, C27q, t27, kb27, u27, v27, w27, V27q, A27q⟩ := hQ27
      have N27 := Fr.app N25 N27q
      have O31 := O26.keep K27q (allS g18 all0)
      have K31 := K26.trans K27q (allS (Or.inr z18) all0)
      have g32 : n0 ≤ t27 := Nat.le_trans (own_old_le O26) v27
      have z32 : h0.size ≤ t27 := Nat.le_trans K26.1 v27
      show own_Go _ _ _ _ (T27.setTop (mkF m 36 #[sR a1, sI nn] [(Value.ref ob16)]))
      obtain ⟨fs, hr, hrun, hended, hRE⟩ := Stand.leaveW (s := s) (vm₁ := s.vm) X27 hS0 (Nat.zero_le _) (v := some (Value.ref ob16)) (fun h => by rw [Bd.returns] at h; cases h)
      have R33 := CHr.ext E16 CH0
      have R34 := CHr.ext E19 R33.1
      have Sf35 := Safe.ext E19 R33.1 (Safe.new (Nat.le_of_eq y19.symm))
      have R36 := CHr.wr W25 Sf35 R34.1
      have Sf37 := Safe.ext E16 CH0 (Safe.new (Nat.le_of_eq y16.symm))
      have R38 := CHr.keep K27q (allS ((R34.trans R36).safe A16.lt Sf37) all0) R36.1
      have hCR := (((R33.trans R34).trans R36).trans R38)
      have hCZ : CHr Z consts_1 s.vm s.heap T27.vm T27.heap := by
        rw [hh]
        exact hCR.trans (CHv.at (s := s) (vm0 := s.vm) X27 hZ hEL hCR.1)
      refine own_Go.fin (retOut X27 hx Bd.returns rfl (Or.inr (Or.inr (Or.inr (Or.inr ⟨rfl, rfl, rfl⟩)))) (hb hby d1_36) hr) ⟨hrun, hended, _, _, rfl, ?_, hCZ, own_rew hRE (by decide) (by decide)⟩
      show Q1 Z a1 kB b0 b1 b2 b3 b4 b5 b6 nn zc h0 n0 _ T27.heap _
      exact ⟨ob16, t27, kb27, (1 : Int32), ((([b0] : List Int32).map (fun c => c.toInt8.toInt32)).map Value.int), ([b0] : List Int32), rfl, N27, K31, z18, E27q, C27q, V27q, A27q, ⟨StrChars.Road.codOf (n := 1) rfl (fun x hx => (hp27 x hx).2), hp27, Nat.le_of_ble_eq_true rfl⟩⟩
    ·
      refine own_Go.by (fun tq kq => XS.icmpYes X0.here hx rfl (pc0 := 17) (pc' := 37) rfl (hb hby d1_17) rfl (feq hc17_15).2 (by decide) (by decide) kq) ?_
      refine own_Go.by (fun tq kq => XS.iloadN X0.here hx rfl (hb hby d1_37) rfl kq) ?_
      refine own_Go.by (fun tq kq => XS.iconst X0.here hx rfl (hb hby d1_38) kq) ?_
      show own_Go _ _ _ _ (s₁.setTop (mkF m 39 #[sR a1, sI nn] [(Value.int (2 : Int32)), (Value.int nn)]))
      by_cases hc39_39 : nn = (2 : Int32)
      ·
        refine own_Go.by (fun tq kq => XS.icmpNo X0.here hx rfl (hb hby d1_39) rfl (teq hc39_39).2 kq) ?_
        show own_Go _ _ _ _ (s₁.setTop (mkF m 42 #[sR a1, sI nn] []))
        obtain ⟨T40, h40, X40, e40, E40, A40, D40, -, st40⟩ := newO X0 hx hZ hown (hw _ (List.mem_of_getElem? (i := 5) rfl)) (hw _ (List.mem_of_getElem? (i := 6) rfl)) (hw _ (List.mem_of_getElem? (i := 7) rfl)) e0 (g := (mkF m 42 #[sR a1, sI nn] [])) rfl (hb hby d1_42) (by decide) (by decide)
        obtain ⟨ob40, y40⟩ : ∃ z, z = h0.size := ⟨_, rfl⟩
        rw [← y40] at A40 D40 st40
        refine own_Go.by st40 ?_
        have O41 := O0.ext E40
        have K41 := K0.ext E40
        have g42 : n0 ≤ ob40 := Nat.le_trans (own_old_le O0) (Nat.le_of_eq y40.symm)
        have z42 : h0.size ≤ ob40 := Nat.le_trans K0.1 (Nat.le_of_eq y40.symm)
        have F40_coder : Fld Z h40 ob40 "java/lang/String" "coder" "B" (Value.int (0 : Int32)) := D40 (Or.inr (hw _ (List.mem_of_getElem? (i := 31) rfl))) (ty := .byte) (by decide)
        have F40_value : Fld Z h40 ob40 "java/lang/String" "value" "[B" .null := D40 (Or.inr (hw _ (List.mem_of_getElem? (i := 33) rfl))) (ty := (.array .byte)) (by decide)
        refine own_Go.by (fun tq kq => XS.dup X40.here hx rfl (hb hby d1_45) rfl rfl kq) ?_
        refine own_Go.by (fun tq kq => XS.iconst X40.here hx rfl (hb hby d1_46) kq) ?_
        show own_Go _ _ _ _ (T40.setTop (mkF m 47 #[sR a1, sI nn] [(Value.int (2 : Int32)), (Value.ref ob40), (Value.ref ob40)]))
        obtain ⟨T43, h43, k43, X43, e43, E43, A43, Ea43, st43⟩ := newPE X40 hx hZ (hw _ (List.mem_of_getElem? (i := 0) rfl)) e40 (g := (mkF m 47 #[sR a1, sI nn] [(Value.int (2 : Int32)), (Value.ref ob40), (Value.ref ob40)])) rfl (hb hby d1_47) rfl (by decide : ¬ ((2 : Int32) < (0 : Int32))) (cap := 2) (by decide : (2 : Int32).toNatClampNeg ≤ 2) (by decide) (by decide) (by decide) (ad := "[C") rfl
        obtain ⟨ob43, y43⟩ : ∃ z, z = h40.size := ⟨_, rfl⟩
        rw [← y43] at A43 Ea43 st43
        refine own_Go.by st43 ?_
        have O44 := O41.ext E43
        have K44 := K41.ext E43
        have g45 : n0 ≤ ob43 := Nat.le_trans (own_old_le O41) (Nat.le_of_eq y43.symm)
        have z45 : h0.size ≤ ob43 := Nat.le_trans K41.1 (Nat.le_of_eq y43.symm)
        have V43 : Arv Z h43 ob43 k43 .char (2 : Int32) [(Value.int (0 : Int32)), (Value.int (0 : Int32))] (Value.int (0 : Int32)) := (Arv.new A43 (by decide : ¬ ((2 : Int32) < (0 : Int32)))).pad (pad_rep [] (Value.int (0 : Int32)) 2)
        refine own_Go.by (fun tq kq => XS.dup X43.here hx rfl (hb hby d1_49) rfl rfl kq) ?_
        refine own_Go.by (fun tq kq => XS.iconst X43.here hx rfl (hb hby d1_50) kq) ?_
        refine own_Go.by (fun tq kq => XS.aloadN X43.here hx rfl (hb hby d1_51) rfl rfl kq) ?_
        show own_Go _ _ _ _ (T43.setTop (mkF m 52 #[sR a1, sI nn] [(Value.ref a1), (Value.int (0 : Int32)), (Value.ref ob43), (Value.ref ob43), (Value.ref ob40), (Value.ref ob40)]))
        refine own_Go.by (fun tq kq => XS.iconst X43.here hx rfl (hb hby d1_52) kq) ?_
        show own_Go _ _ _ _ (T43.setTop (mkF m 53 #[sR a1, sI nn] [(Value.int (0 : Int32)), (Value.ref a1), (Value.int (0 : Int32)), (Value.ref ob43), (Value.ref ob43), (Value.ref ob40), (Value.ref ob40)]))
        have c46 := ((H0.ext E40).ext E43)
        obtain ⟨cl47, Ar47, q47, S47, M47, Hh47, G47⟩ := id c46
        refine own_Go.by (fun tq kq => X43.caload hx (j := (0 : Int32)) (v := (Value.int b0)) (by rw [e43]; exact Ar47.1) (State.isArrayOf_alike hZ.alike Ar47.2.1) Ar47.2.2 (inb_of S47 ⟨(by decide : ¬ ((0 : Int32) < (0 : Int32))), (by decide : (0 : Int32) < (7 : Int32))⟩) (Has.at Hh47 (inb_of S47 ⟨(by decide : ¬ ((0 : Int32) < (0 : Int32))), (by decide : (0 : Int32) < (7 : Int32))⟩) (rfl : _ = (Value.int b0))) (g := (mkF m 53 #[sR a1, sI nn] [(Value.int (0 : Int32)), (Value.ref a1), (Value.int (0 : Int32)), (Value.ref ob43), (Value.ref ob43), (Value.ref ob40), (Value.ref ob40)])) rfl rfl (hb hby d1_53) _ kq) ?_
        show own_Go _ _ _ _ (T43.setTop (mkF m 54 #[sR a1, sI nn] [(Value.int b0), (Value.int (0 : Int32)), (Value.ref ob43), (Value.ref ob43), (Value.ref ob40), (Value.ref ob40)]))
        obtain ⟨cl48, Ar48, q48, S48, M48, Hh48, G48⟩ := id V43
        obtain ⟨T49, h49, X49, e49, W49, st49⟩ := stC X43 hx hZ e43 Ar48 (j := (0 : Int32)) (inb_of S48 ⟨(by decide : ¬ ((0 : Int32) < (0 : Int32))), (by decide : (0 : Int32) < (2 : Int32))⟩) (g := (mkF m 54 #[sR a1, sI nn] [(Value.int b0), (Value.int (0 : Int32)), (Value.ref ob43), (Value.ref ob43), (Value.ref ob40), (Value.ref ob40)])) rfl rfl (hb hby d1_54)
        refine own_Go.by st49 ?_
        have N49 := Fr.snoc X49 N0 g45
        have O50 := O44.wr W49 g45
        have K50 := K44.wr W49 (Or.inr z45)
        rw [show nar .char b0 = b0 from own_narc (hbn _ (by simp))] at W49
        have V49 : Arv Z h49 ob43 k43 .char (2 : Int32) [(Value.int b0), (Value.int (0 : Int32))] (Value.int (0 : Int32)) := Arv.set Ar48 q48 S48 M48 Hh48 G48 (own_fitC (own_narc (hbn _ (by simp)))) W49 0 rfl (Nat.le_of_ble_eq_true rfl)
        refine own_Go.by (fun tq kq => XS.dup X49.here hx rfl (hb hby d1_55) rfl rfl kq) ?_
        refine own_Go.by (fun tq kq => XS.iconst X49.here hx rfl (hb hby d1_56) kq) ?_
        refine own_Go.by (fun tq kq => XS.aloadN X49.here hx rfl (hb hby d1_57) rfl rfl kq) ?_
        show own_Go _ _ _ _ (T49.setTop (mkF m 58 #[sR a1, sI nn] [(Value.ref a1), (Value.int (1 : Int32)), (Value.ref ob43), (Value.ref ob43), (Value.ref ob40), (Value.ref ob40)]))
        refine own_Go.by (fun tq kq => XS.iconst X49.here hx rfl (hb hby d1_58) kq) ?_
        show own_Go _ _ _ _ (T49.setTop (mkF m 59 #[sR a1, sI nn] [(Value.int (1 : Int32)), (Value.ref a1), (Value.int (1 : Int32)), (Value.ref ob43), (Value.ref ob43), (Value.ref ob40), (Value.ref ob40)]))
        have c51 := (c46.other W49 (Nat.ne_of_lt (Nat.lt_of_lt_of_le H0.lt (Nat.le_trans E40.1 (Nat.le_of_eq y43.symm)))))
        obtain ⟨cl52, Ar52, q52, S52, M52, Hh52, G52⟩ := id c51
        refine own_Go.by (fun tq kq => X49.caload hx (j := (1 : Int32)) (v := (Value.int b1)) (by rw [e49]; exact Ar52.1) (State.isArrayOf_alike hZ.alike Ar52.2.1) Ar52.2.2 (inb_of S52 ⟨(by decide : ¬ ((1 : Int32) < (0 : Int32))), (by decide : (1 : Int32) < (7 : Int32))⟩) (Has.at Hh52 (inb_of S52 ⟨(by decide : ¬ ((1 : Int32) < (0 : Int32))), (by decide : (1 : Int32) < (7 : Int32))⟩) (rfl : _ = (Value.int b1))) (g := (mkF m 59 #[sR a1, sI nn] [(Value.int (1 : Int32)), (Value.ref a1), (Value.int (1 : Int32)), (Value.ref ob43), (Value.ref ob43), (Value.ref ob40), (Value.ref ob40)])) rfl rfl (hb hby d1_59) _ kq) ?_
        show own_Go _ _ _ _ (T49.setTop (mkF m 60 #[sR a1, sI nn] [(Value.int b1), (Value.int (1 : Int32)), (Value.ref ob43), (Value.ref ob43), (Value.ref ob40), (Value.ref ob40)]))
        obtain ⟨cl53, Ar53, q53, S53, M53, Hh53, G53⟩ := id V49
        obtain ⟨T54, h54, X54, e54, W54, st54⟩ := stC X49 hx hZ e49 Ar53 (j := (1 : Int32)) (inb_of S53 ⟨(by decide : ¬ ((1 : Int32) < (0 : Int32))), (by decide : (1 : Int32) < (2 : Int32))⟩) (g := (mkF m 60 #[sR a1, sI nn] [(Value.int b1), (Value.int (1 : Int32)), (Value.ref ob43), (Value.ref ob43), (Value.ref ob40), (Value.ref ob40)])) rfl rfl (hb hby d1_60)
        refine own_Go.by st54 ?_
        have N54 := Fr.snoc X54 N49 g45
        have O55 := O50.wr W54 g45
        have K55 := K50.wr W54 (Or.inr z45)
        rw [show nar .char b1 = b1 from own_narc (hbn _ (by simp))] at W54
        have V54 : Arv Z h54 ob43 k43 .char (2 : Int32) [(Value.int b0), (Value.int b1)] (Value.int (0 : Int32)) := Arv.set Ar53 q53 S53 M53 Hh53 G53 (own_fitC (own_narc (hbn _ (by simp)))) W54 1 rfl (Nat.le_of_ble_eq_true rfl)
        show own_Go _ _ _ _ (T54.setTop (mkF m 61 #[sR a1, sI nn] [(Value.ref ob43), (Value.ref ob40), (Value.ref ob40)]))
        have c57 := (((A40.ext E43).wr W49).wr W54)
        have c58 := (((F40_value.ext E43).other W49 (Or.inl (Nat.ne_of_lt (Nat.lt_of_lt_of_le A40.lt (Nat.le_of_eq y43.symm))))).other W54 (Or.inl (Nat.ne_of_lt (Nat.lt_of_lt_of_le A40.lt (Nat.le_of_eq y43.symm)))))
        have c59 := (((F40_coder.ext E43).other W49 (Or.inl (Nat.ne_of_lt (Nat.lt_of_lt_of_le A40.lt (Nat.le_of_eq y43.symm))))).other W54 (Or.inl (Nat.ne_of_lt (Nat.lt_of_lt_of_le A40.lt (Nat.le_of_eq y43.symm)))))
        have hp56 : ∀ c ∈ ([b0, b1] : List Int32), ¬ c < 0 ∧ ¬ (255 : Int32) < c := fun c hc => hbn c (by simp only [List.mem_cons, List.not_mem_nil, or_false] at hc ⊢; rcases hc with rfl | rfl <;> simp)
        obtain ⟨_, _, ⟨T56, L56, k56, n56⟩, -, X56, ⟨Lc56, hQ56, l56, y56, z56⟩, st56⟩ := X54.specialBack hx (y := (⟨"java/lang/String", "<init>", "([C)V"⟩ : MethodName)) rfl hown (mvT hZ (hw _ (List.mem_of_getElem? (i := 8) rfl))) (mvT hZ (hw _ (List.mem_of_getElem? (i := 9) rfl))) (mvT hZ (hw _ (List.mem_of_getElem? (i := 10) rfl))) (by decide) (StrChars.Road.backV (W := 1) hZ (fun d hd => hw d (own_hws d hd)) (kI := 4) (hw _ (List.mem_of_getElem? (i := 6) rfl)) (cs := ([b0, b1] : List Int32)) (bs := (([b0, b1] : List Int32).map (fun c => c.toInt8.toInt32))) (n := 2) g42 (own_old_le O55) c57 c58 c59 V54 (H2.ext O55.2) hzc rfl rfl (by decide) (by decide) hp56 rfl (by decide) (by decide)) (g := (mkF m 61 #[sR a1, sI nn] [(Value.ref ob43), (Value.ref ob40), (Value.ref ob40)])) rfl (by rw [hml]; rfl) (Steps.refl _) (a := ob40) (argsL := [(Value.ref ob43)]) (rest := [(Value.ref ob40)]) (lenOf own_pd1 rfl) rfl (by show 2 * 0 + _ ≤ _; exact Nat.le_of_eq rfl) (hb hby d1_61) (fun _ _ => ⟨rfl, e54, (by decide : 2 + 1 ≤ _), (by decide : 6 + 2 ≤ _)⟩)
        dsimp only [Pt.U, Pt.locs, Pt.cells, Pt.slots] at X56 l56 y56 z56 st56 hQ56
        subst l56 y56 z56
        refine own_Go.by (fun tq kq => st56.trans kq) ?_
        obtain ⟨rfl, N56q, K56q, E56q, C56q, t56, kb56, u56, v56, w56, V56q, A56q⟩ := hQ56
        have N56 := Fr.app N54 N56q
        have O60 := O55.keep K56q (allS g42 all0)
        have K60 := K55.trans K56q (allS (Or.inr z42) all0)
        have g61 : n0 ≤ t56 := Nat.le_trans (own_old_le O55) v56
        have z61 : h0.size ≤ t56 := Nat.le_trans K55.1 v56
        show own_Go _ _ _ _ (T56.setTop (mkF m 64 #[sR a1, sI nn] [(Value.ref ob40)]))
        obtain ⟨fs, hr, hrun, hended, hRE⟩ := Stand.leaveW (s := s) (vm₁ := s.vm) X56 hS0 (Nat.zero_le _) (v := some (Value.ref ob40)) (fun h => by rw [Bd.returns] at h; cases h)
        have R62 := CHr.ext E40 CH0
        have R63 := CHr.ext E43 R62.1
        have Sf64 := Safe.ext E43 R62.1 (Safe.new (Nat.le_of_eq y43.symm))
        have R65 := CHr.wr W49 Sf64 R63.1
        have R66 := CHr.wr W54 (R65.safe A43.lt Sf64) R65.1
        have Sf67 := Safe.ext E40 CH0 (Safe.new (Nat.le_of_eq y40.symm))
        have R68 := CHr.keep K56q (allS (((R63.trans R65).trans R66).safe A40.lt Sf67) all0) R66.1
        have hCR := ((((R62.trans R63).trans R65).trans R66).trans R68)
        have hCZ : CHr Z consts_1 s.vm s.heap T56.vm T56.heap := by
          rw [hh]
          exact hCR.trans (CHv.at (s := s) (vm0 := s.vm) X56 hZ hEL hCR.1)
        refine own_Go.fin (retOut X56 hx Bd.returns rfl (Or.inr (Or.inr (Or.inr (Or.inr ⟨rfl, rfl, rfl⟩)))) (hb hby d1_64) hr) ⟨hrun, hended, _, _, rfl, ?_, hCZ, own_rew hRE (by decide) (by decide)⟩
        show Q1 Z a1 kB b0 b1 b2 b3 b4 b5 b6 nn zc h0 n0 _ T56.heap _
        exact ⟨ob40, t56, kb56, (2 : Int32), ((([b0, b1] : List Int32).map (fun c => c.toInt8.toInt32)).map Value.int), ([b0, b1] : List Int32), rfl, N56, K60, z42, E56q, C56q, V56q, A56q, ⟨StrChars.Road.codOf (n := 2) rfl (fun x hx => (hp56 x hx).2), hp56, Nat.le_of_ble_eq_true rfl⟩⟩
      ·
        refine own_Go.by (fun tq kq => XS.icmpYes X0.here hx rfl (pc0 := 39) (pc' := 65) rfl (hb hby d1_39) rfl (feq hc39_39).2 (by decide) (by decide) kq) ?_
        refine own_Go.by (fun tq kq => XS.iloadN X0.here hx rfl (hb hby d1_65) rfl kq) ?_
        refine own_Go.by (fun tq kq => XS.iconst X0.here hx rfl (hb hby d1_66) kq) ?_
        show own_Go _ _ _ _ (s₁.setTop (mkF m 67 #[sR a1, sI nn] [(Value.int (3 : Int32)), (Value.int nn)]))
        by_cases hc67_69 : nn = (3 : Int32)
        ·
          refine own_Go.by (fun tq kq => XS.icmpNo X0.here hx rfl (hb hby d1_67) rfl (teq hc67_69).2 kq) ?_
          show own_Go _ _ _ _ (s₁.setTop (mkF m 70 #[sR a1, sI nn] []))
          obtain ⟨T70, h70, X70, e70, E70, A70, D70, -, st70⟩ := newO X0 hx hZ hown (hw _ (List.mem_of_getElem? (i := 5) rfl)) (hw _ (List.mem_of_getElem? (i := 6) rfl)) (hw _ (List.mem_of_getElem? (i := 7) rfl)) e0 (g := (mkF m 70 #[sR a1, sI nn] [])) rfl (hb hby d1_70) (by decide) (by decide)
          obtain ⟨ob70, y70⟩ : ∃ z, z = h0.size := ⟨_, rfl⟩
          rw [← y70] at A70 D70 st70
          refine own_Go.by st70 ?_
          have O71 := O0.ext E70
          have K71 := K0.ext E70
          have g72 : n0 ≤ ob70 := Nat.le_trans (own_old_le O0) (Nat.le_of_eq y70.symm)
          have z72 : h0.size ≤ ob70 := Nat.le_trans K0.1 (Nat.le_of_eq y70.symm)
          have F70_coder : Fld Z h70 ob70 "java/lang/String" "coder" "B" (Value.int (0 : Int32)) := D70 (Or.inr (hw _ (List.mem_of_getElem? (i := 31) rfl))) (ty := .byte) (by decide)
          have F70_value : Fld Z h70 ob70 "java/lang/String" "value" "[B" .null := D70 (Or.inr (hw _ (List.mem_of_getElem? (i := 33) rfl))) (ty := (.array .byte)) (by decide)
          refine own_Go.by (fun tq kq => XS.dup X70.here hx rfl (hb hby d1_73) rfl rfl kq) ?_
          refine own_Go.by (fun tq kq => XS.iconst X70.here hx rfl (hb hby d1_74) kq) ?_
          show own_Go _ _ _ _ (T70.setTop (mkF m 75 #[sR a1, sI nn] [(Value.int (3 : Int32)), (Value.ref ob70), (Value.ref ob70)]))
          obtain ⟨T73, h73, k73, X73, e73, E73, A73, Ea73, st73⟩ := newPE X70 hx hZ (hw _ (List.mem_of_getElem? (i := 0) rfl)) e70 (g := (mkF m 75 #[sR a1, sI nn] [(Value.int (3 : Int32)), (Value.ref ob70), (Value.ref ob70)])) rfl (hb hby d1_75) rfl (by decide : ¬ ((3 : Int32) < (0 : Int32))) (cap := 3) (by decide : (3 : Int32).toNatClampNeg ≤ 3) (by decide) (by decide) (by decide) (ad := "[C") rfl
          obtain ⟨ob73, y73⟩ : ∃ z, z = h70.size := ⟨_, rfl⟩
          rw [← y73] at A73 Ea73 st73
          refine own_Go.by st73 ?_
          have O74 := O71.ext E73
          have K74 := K71.ext E73
          have g75 : n0 ≤ ob73 := Nat.le_trans (own_old_le O71) (Nat.le_of_eq y73.symm)
          have z75 : h0.size ≤ ob73 := Nat.le_trans K71.1 (Nat.le_of_eq y73.symm)
          have V73 : Arv Z h73 ob73 k73 .char (3 : Int32) [(Value.int (0 : Int32)), (Value.int (0 : Int32)), (Value.int (0 : Int32))] (Value.int (0 : Int32)) := (Arv.new A73 (by decide : ¬ ((3 : Int32) < (0 : Int32)))).pad (pad_rep [] (Value.int (0 : Int32)) 3)
          refine own_Go.by (fun tq kq => XS.dup X73.here hx rfl (hb hby d1_77) rfl rfl kq) ?_
          refine own_Go.by (fun tq kq => XS.iconst X73.here hx rfl (hb hby d1_78) kq) ?_
          refine own_Go.by (fun tq kq => XS.aloadN X73.here hx rfl (hb hby d1_79) rfl rfl kq) ?_
          show own_Go _ _ _ _ (T73.setTop (mkF m 80 #[sR a1, sI nn] [(Value.ref a1), (Value.int (0 : Int32)), (Value.ref ob73), (Value.ref ob73), (Value.ref ob70), (Value.ref ob70)]))
          refine own_Go.by (fun tq kq => XS.iconst X73.here hx rfl (hb hby d1_80) kq) ?_
          show own_Go _ _ _ _ (T73.setTop (mkF m 81 #[sR a1, sI nn] [(Value.int (0 : Int32)), (Value.ref a1), (Value.int (0 : Int32)), (Value.ref ob73), (Value.ref ob73), (Value.ref ob70), (Value.ref ob70)]))
          have c76 := ((H0.ext E70).ext E73)
          obtain ⟨cl77, Ar77, q77, S77, M77, Hh77, G77⟩ := id c76
          refine own_Go.by (fun tq kq => X73.caload hx (j := (0 : Int32)) (v := (Value.int b0)) (by rw [e73]; exact Ar77.1) (State.isArrayOf_alike hZ.alike Ar77.2.1) Ar77.2.2 (inb_of S77 ⟨(by decide : ¬ ((0 : Int32) < (0 : Int32))), (by decide : (0 : Int32) < (7 : Int32))⟩) (Has.at Hh77 (inb_of S77 ⟨(by decide : ¬ ((0 : Int32) < (0 : Int32))), (by decide : (0 : Int32) < (7 : Int32))⟩) (rfl : _ = (Value.int b0))) (g := (mkF m 81 #[sR a1, sI nn] [(Value.int (0 : Int32)), (Value.ref a1), (Value.int (0 : Int32)), (Value.ref ob73), (Value.ref ob73), (Value.ref ob70), (Value.ref ob70)])) rfl rfl (hb hby d1_81) _ kq) ?_
          show own_Go _ _ _ _ (T73.setTop (mkF m 82 #[sR a1, sI nn] [(Value.int b0), (Value.int (0 : Int32)), (Value.ref ob73), (Value.ref ob73), (Value.ref ob70), (Value.ref ob70)]))
          obtain ⟨cl78, Ar78, q78, S78, M78, Hh78, G78⟩ := id V73
          obtain ⟨T79, h79, X79, e79, W79, st79⟩ := stC X73 hx hZ e73 Ar78 (j := (0 : Int32)) (inb_of S78 ⟨(by decide : ¬ ((0 : Int32) < (0 : Int32))), (by decide : (0 : Int32) < (3 : Int32))⟩) (g := (mkF m 82 #[sR a1, sI nn] [(Value.int b0), (Value.int (0 : Int32)), (Value.ref ob73), (Value.ref ob73), (Value.ref ob70), (Value.ref ob70)])) rfl rfl (hb hby d1_82)
          refine own_Go.by st79 ?_
          have N79 := Fr.snoc X79 N0 g75
          have O80 := O74.wr W79 g75
          have K80 := K74.wr W79 (Or.inr z75)
          rw [show nar .char b0 = b0 from own_narc (hbn _ (by simp))] at W79
          have V79 : Arv Z h79 ob73 k73 .char (3 : Int32) [(Value.int b0), (Value.int (0 : Int32)), (Value.int (0 : Int32))] (Value.int (0 : Int32)) := Arv.set Ar78 q78 S78 M78 Hh78 G78 (own_fitC (own_narc (hbn _ (by simp)))) W79 0 rfl (Nat.le_of_ble_eq_true rfl)
          refine own_Go.by (fun tq kq => XS.dup X79.here hx rfl (hb hby d1_83) rfl rfl kq) ?_
          refine own_Go.by (fun tq kq => XS.iconst X79.here hx rfl (hb hby d1_84) kq) ?_
          refine own_Go.by (fun tq kq => XS.aloadN X79.here hx rfl (hb hby d1_85) rfl rfl kq) ?_
          show own_Go _ _ _ _ (T79.setTop (mkF m 86 #[sR a1, sI nn] [(Value.ref a1), (Value.int (1 : Int32)), (Value.ref ob73), (Value.ref ob73), (Value.ref ob70), (Value.ref ob70)]))
          refine own_Go.by (fun tq kq => XS.iconst X79.here hx rfl (hb hby d1_86) kq) ?_
          show own_Go _ _ _ _ (T79.setTop (mkF m 87 #[sR a1, sI nn] [(Value.int (1 : Int32)), (Value.ref a1), (Value.int (1 : Int32)), (Value.ref ob73), (Value.ref ob73), (Value.ref ob70), (Value.ref ob70)]))
          have c81 := (c76.other W79 (Nat.ne_of_lt (Nat.lt_of_lt_of_le H0.lt (Nat.le_trans E70.1 (Nat.le_of_eq y73.symm)))))
          obtain ⟨cl82, Ar82, q82, S82, M82, Hh82, G82⟩ := id c81
          refine own_Go.by (fun tq kq => X79.caload hx (j := (1 : Int32)) (v := (Value.int b1)) (by rw [e79]; exact Ar82.1) (State.isArrayOf_alike hZ.alike Ar82.2.1) Ar82.2.2 (inb_of S82 ⟨(by decide : ¬ ((1 : Int32) < (0 : Int32))), (by decide : (1 : Int32) < (7 : Int32))⟩) (Has.at Hh82 (inb_of S82 ⟨(by decide : ¬ ((1 : Int32) < (0 : Int32))), (by decide : (1 : Int32) < (7 : Int32))⟩) (rfl : _ = (Value.int b1))) (g := (mkF m 87 #[sR a1, sI nn] [(Value.int (1 : Int32)), (Value.ref a1), (Value.int (1 : Int32)), (Value.ref ob73), (Value.ref ob73), (Value.ref ob70), (Value.ref ob70)])) rfl rfl (hb hby d1_87) _ kq) ?_
          show own_Go _ _ _ _ (T79.setTop (mkF m 88 #[sR a1, sI nn] [(Value.int b1), (Value.int (1 : Int32)), (Value.ref ob73), (Value.ref ob73), (Value.ref ob70), (Value.ref ob70)]))
          obtain ⟨cl83, Ar83, q83, S83, M83, Hh83, G83⟩ := id V79
          obtain ⟨T84, h84, X84, e84, W84, st84⟩ := stC X79 hx hZ e79 Ar83 (j := (1 : Int32)) (inb_of S83 ⟨(by decide : ¬ ((1 : Int32) < (0 : Int32))), (by decide : (1 : Int32) < (3 : Int32))⟩) (g := (mkF m 88 #[sR a1, sI nn] [(Value.int b1), (Value.int (1 : Int32)), (Value.ref ob73), (Value.ref ob73), (Value.ref ob70), (Value.ref ob70)])) rfl rfl (hb hby d1_88)
          refine own_Go.by st84 ?_
          have N84 := Fr.snoc X84 N79 g75
          have O85 := O80.wr W84 g75
          have K85 := K80.wr W84 (Or.inr z75)
          rw [show nar .char b1 = b1 from own_narc (hbn _ (by simp))] at W84
          have V84 : Arv Z h84 ob73 k73 .char (3 : Int32) [(Value.int b0), (Value.int b1), (Value.int (0 : Int32))] (Value.int (0 : Int32)) := Arv.set Ar83 q83 S83 M83 Hh83 G83 (own_fitC (own_narc (hbn _ (by simp)))) W84 1 rfl (Nat.le_of_ble_eq_true rfl)
          refine own_Go.by (fun tq kq => XS.dup X84.here hx rfl (hb hby d1_89) rfl rfl kq) ?_
          refine own_Go.by (fun tq kq => XS.iconst X84.here hx rfl (hb hby d1_90) kq) ?_
          refine own_Go.by (fun tq kq => XS.aloadN X84.here hx rfl (hb hby d1_91) rfl rfl kq) ?_
          show own_Go _ _ _ _ (T84.setTop (mkF m 92 #[sR a1, sI nn] [(Value.ref a1), (Value.int (2 : Int32)), (Value.ref ob73), (Value.ref ob73), (Value.ref ob70), (Value.ref ob70)]))
          refine own_Go.by (fun tq kq => XS.iconst X84.here hx rfl (hb hby d1_92) kq) ?_
          show own_Go _ _ _ _ (T84.setTop (mkF m 93 #[sR a1, sI nn] [(Value.int (2 : Int32)), (Value.ref a1), (Value.int (2 : Int32)), (Value.ref ob73), (Value.ref ob73), (Value.ref ob70), (Value.ref ob70)]))
          have c86 := (c81.other W84 (Nat.ne_of_lt (Nat.lt_of_lt_of_le H0.lt (Nat.le_trans E70.1 (Nat.le_of_eq y73.symm)))))
          obtain ⟨cl87, Ar87, q87, S87, M87, Hh87, G87⟩ := id c86
          refine own_Go.by (fun tq kq => X84.caload hx (j := (2 : Int32)) (v := (Value.int b2)) (by rw [e84]; exact Ar87.1) (State.isArrayOf_alike hZ.alike Ar87.2.1) Ar87.2.2 (inb_of S87 ⟨(by decide : ¬ ((2 : Int32) < (0 : Int32))), (by decide : (2 : Int32) < (7 : Int32))⟩) (Has.at Hh87 (inb_of S87 ⟨(by decide : ¬ ((2 : Int32) < (0 : Int32))), (by decide : (2 : Int32) < (7 : Int32))⟩) (rfl : _ = (Value.int b2))) (g := (mkF m 93 #[sR a1, sI nn] [(Value.int (2 : Int32)), (Value.ref a1), (Value.int (2 : Int32)), (Value.ref ob73), (Value.ref ob73), (Value.ref ob70), (Value.ref ob70)])) rfl rfl (hb hby d1_93) _ kq) ?_
          show own_Go _ _ _ _ (T84.setTop (mkF m 94 #[sR a1, sI nn] [(Value.int b2), (Value.int (2 : Int32)), (Value.ref ob73), (Value.ref ob73), (Value.ref ob70), (Value.ref ob70)]))
          obtain ⟨cl88, Ar88, q88, S88, M88, Hh88, G88⟩ := id V84
          obtain ⟨T89, h89, X89, e89, W89, st89⟩ := stC X84 hx hZ e84 Ar88 (j := (2 : Int32)) (inb_of S88 ⟨(by decide : ¬ ((2 : Int32) < (0 : Int32))), (by decide : (2 : Int32) < (3 : Int32))⟩) (g := (mkF m 94 #[sR a1, sI nn] [(Value.int b2), (Value.int (2 : Int32)), (Value.ref ob73), (Value.ref ob73), (Value.ref ob70), (Value.ref ob70)])) rfl rfl (hb hby d1_94)
          refine own_Go.by st89 ?_
          have N89 := Fr.snoc X89 N84 g75
          have O90 := O85.wr W89 g75
          have K90 := K85.wr W89 (Or.inr z75)
          rw [show nar .char b2 = b2 from own_narc (hbn _ (by simp))] at W89
          have V89 : Arv Z h89 ob73 k73 .char (3 : Int32) [(Value.int b0), (Value.int b1), (Value.int b2)] (Value.int (0 : Int32)) := Arv.set Ar88 q88 S88 M88 Hh88 G88 (own_fitC (own_narc (hbn _ (by simp)))) W89 2 rfl (Nat.le_of_ble_eq_true rfl)
          show own_Go _ _ _ _ (T89.setTop (mkF m 95 #[sR a1, sI nn] [(Value.ref ob73), (Value.ref ob70), (Value.ref ob70)]))
          have c92 := ((((A70.ext E73).wr W79).wr W84).wr W89)
          have c93 := ((((F70_value.ext E73).other W79 (Or.inl (Nat.ne_of_lt (Nat.lt_of_lt_of_le A70.lt (Nat.le_of_eq y73.symm))))).other W84 (Or.inl (Nat.ne_of_lt (Nat.lt_of_lt_of_le A70.lt (Nat.le_of_eq y73.symm))))).other W89 (Or.inl (Nat.ne_of_lt (Nat.lt_of_lt_of_le A70.lt (Nat.le_of_eq y73.symm)))))
          have c94 := ((((F70_coder.ext E73).other W79 (Or.inl (Nat.ne_of_lt (Nat.lt_of_lt_of_le A70.lt (Nat.le_of_eq y73.symm))))).other W84 (Or.inl (Nat.ne_of_lt (Nat.lt_of_lt_of_le A70.lt (Nat.le_of_eq y73.symm))))).other W89 (Or.inl (Nat.ne_of_lt (Nat.lt_of_lt_of_le A70.lt (Nat.le_of_eq y73.symm)))))
          have hp91 : ∀ c ∈ ([b0, b1, b2] : List Int32), ¬ c < 0 ∧ ¬ (255 : Int32) < c := fun c hc => hbn c (by simp only [List.mem_cons, List.not_mem_nil, or_false] at hc ⊢; rcases hc with rfl | rfl | rfl <;> simp)
          obtain ⟨_, _, ⟨T91, L91, k91, n91⟩, -, X91, ⟨Lc91, hQ91, l91, y91, z91⟩, st91⟩ := X89.specialBack hx (y := (⟨"java/lang/String", "<init>", "([C)V"⟩ : MethodName)) rfl hown (mvT hZ (hw _ (List.mem_of_getElem? (i := 8) rfl))) (mvT hZ (hw _ (List.mem_of_getElem? (i := 9) rfl))) (mvT hZ (hw _ (List.mem_of_getElem? (i := 10) rfl))) (by decide) (StrChars.Road.backV (W := 1) hZ (fun d hd => hw d (own_hws d hd)) (kI := 4) (hw _ (List.mem_of_getElem? (i := 6) rfl)) (cs := ([b0, b1, b2] : List Int32)) (bs := (([b0, b1, b2] : List Int32).map (fun c => c.toInt8.toInt32))) (n := 3) g72 (own_old_le O90) c92 c93 c94 V89 (H2.ext O90.2) hzc rfl rfl (by decide) (by decide) hp91 rfl (by decide) (by decide)) (g := (mkF m 95 #[sR a1, sI nn] [(Value.ref ob73), (Value.ref ob70), (Value.ref ob70)])) rfl (by rw [hml]; rfl) (Steps.refl _) (a := ob70) (argsL := [(Value.ref ob73)]) (rest := [(Value.ref ob70)]) (lenOf own_pd1 rfl) rfl (by show 2 * 0 + _ ≤ _; exact Nat.le_of_eq rfl) (hb hby d1_95) (fun _ _ => ⟨rfl, e89, (by decide : 2 + 1 ≤ _), (by decide : 7 + 3 ≤ _)⟩)
          dsimp only [Pt.U, Pt.locs, Pt.cells, Pt.slots] at X91 l91 y91 z91 st91 hQ91
          subst l91 y91 z91
          refine own_Go.by (fun tq kq => st91.trans kq) ?_
          obtain ⟨rfl, N91q, K91q, E91q, C91q, t91, kb91, u91, v91, w91, V91q, A91q⟩ := hQ91
          have N91 := Fr.app N89 N91q
          have O95 := O90.keep K91q (allS g72 all0)
          have K95 := K90.trans K91q (allS (Or.inr z72) all0)
          have g96 : n0 ≤ t91 := Nat.le_trans (own_old_le O90) v91
          have z96 : h0.size ≤ t91 := Nat.le_trans K90.1 v91
          show own_Go _ _ _ _ (T91.setTop (mkF m 98 #[sR a1, sI nn] [(Value.ref ob70)]))
          obtain ⟨fs, hr, hrun, hended, hRE⟩ := Stand.leaveW (s := s) (vm₁ := s.vm) X91 hS0 (Nat.zero_le _) (v := some (Value.ref ob70)) (fun h => by rw [Bd.returns] at h; cases h)
          have R97 := CHr.ext E70 CH0
          have R98 := CHr.ext E73 R97.1
          have Sf99 := Safe.ext E73 R97.1 (Safe.new (Nat.le_of_eq y73.symm))
          have R100 := CHr.wr W79 Sf99 R98.1
          have R101 := CHr.wr W84 (R100.safe A73.lt Sf99) R100.1
          have R102 := CHr.wr W89 ((R100.trans R101).safe A73.lt Sf99) R101.1
          have Sf103 := Safe.ext E70 CH0 (Safe.new (Nat.le_of_eq y70.symm))
          have R104 := CHr.keep K91q (allS ((((R98.trans R100).trans R101).trans R102).safe A70.lt Sf103) all0) R102.1
          have hCR := (((((R97.trans R98).trans R100).trans R101).trans R102).trans R104)
          have hCZ : CHr Z consts_1 s.vm s.heap T91.vm T91.heap := by
            rw [hh]
            exact hCR.trans (CHv.at (s := s) (vm0 := s.vm) X91 hZ hEL hCR.1)
          refine own_Go.fin (retOut X91 hx Bd.returns rfl (Or.inr (Or.inr (Or.inr (Or.inr ⟨rfl, rfl, rfl⟩)))) (hb hby d1_98) hr) ⟨hrun, hended, _, _, rfl, ?_, hCZ, own_rew hRE (by decide) (by decide)⟩
          show Q1 Z a1 kB b0 b1 b2 b3 b4 b5 b6 nn zc h0 n0 _ T91.heap _
          exact ⟨ob70, t91, kb91, (3 : Int32), ((([b0, b1, b2] : List Int32).map (fun c => c.toInt8.toInt32)).map Value.int), ([b0, b1, b2] : List Int32), rfl, N91, K95, z72, E91q, C91q, V91q, A91q, ⟨StrChars.Road.codOf (n := 3) rfl (fun x hx => (hp91 x hx).2), hp91, Nat.le_of_ble_eq_true rfl⟩⟩
        ·
          refine own_Go.by (fun tq kq => XS.icmpYes X0.here hx rfl (pc0 := 67) (pc' := 99) rfl (hb hby d1_67) rfl (feq hc67_69).2 (by decide) (by decide) kq) ?_
          refine own_Go.by (fun tq kq => XS.iloadN X0.here hx rfl (hb hby d1_99) rfl kq) ?_
          refine own_Go.by (fun tq kq => XS.iconst X0.here hx rfl (hb hby d1_100) kq) ?_
          show own_Go _ _ _ _ (s₁.setTop (mkF m 101 #[sR a1, sI nn] [(Value.int (4 : Int32)), (Value.int nn)]))
          by_cases hc101_105 : nn = (4 : Int32)
          ·
            refine own_Go.by (fun tq kq => XS.icmpNo X0.here hx rfl (hb hby d1_101) rfl (teq hc101_105).2 kq) ?_
            show own_Go _ _ _ _ (s₁.setTop (mkF m 104 #[sR a1, sI nn] []))
            obtain ⟨T106, h106, X106, e106, E106, A106, D106, -, st106⟩ := newO X0 hx hZ hown (hw _ (List.mem_of_getElem? (i := 5) rfl)) (hw _ (List.mem_of_getElem? (i := 6) rfl)) (hw _ (List.mem_of_getElem? (i := 7) rfl)) e0 (g := (mkF m 104 #[sR a1, sI nn] [])) rfl (hb hby d1_104) (by decide) (by decide)
            obtain ⟨ob106, y106⟩ : ∃ z, z = h0.size := ⟨_, rfl⟩
            rw [← y106] at A106 D106 st106
            refine own_Go.by st106 ?_
            have O107 := O0.ext E106
            have K107 := K0.ext E106
            have g108 : n0 ≤ ob106 := Nat.le_trans (own_old_le O0) (Nat.le_of_eq y106.symm)
            have z108 : h0.size ≤ ob106 := Nat.le_trans K0.1 (Nat.le_of_eq y106.symm)
            have F106_coder : Fld Z h106 ob106 "java/lang/String" "coder" "B" (Value.int (0 : Int32)) := D106 (Or.inr (hw _ (List.mem_of_getElem? (i := 31) rfl))) (ty := .byte) (by decide)
            have F106_value : Fld Z h106 ob106 "java/lang/String" "value" "[B" .null := D106 (Or.inr (hw _ (List.mem_of_getElem? (i := 33) rfl))) (ty := (.array .byte)) (by decide)
            refine own_Go.by (fun tq kq => XS.dup X106.here hx rfl (hb hby d1_107) rfl rfl kq) ?_
            refine own_Go.by (fun tq kq => XS.iconst X106.here hx rfl (hb hby d1_108) kq) ?_
            show own_Go _ _ _ _ (T106.setTop (mkF m 109 #[sR a1, sI nn] [(Value.int (4 : Int32)), (Value.ref ob106), (Value.ref ob106)]))
            obtain ⟨T109, h109, k109, X109, e109, E109, A109, Ea109, st109⟩ := newPE X106 hx hZ (hw _ (List.mem_of_getElem? (i := 0) rfl)) e106 (g := (mkF m 109 #[sR a1, sI nn] [(Value.int (4 : Int32)), (Value.ref ob106), (Value.ref ob106)])) rfl (hb hby d1_109) rfl (by decide : ¬ ((4 : Int32) < (0 : Int32))) (cap := 4) (by decide : (4 : Int32).toNatClampNeg ≤ 4) (by decide) (by decide) (by decide) (ad := "[C") rfl
            obtain ⟨ob109, y109⟩ : ∃ z, z = h106.size := ⟨_, rfl⟩
            rw [← y109] at A109 Ea109 st109
            refine own_Go.by st109 ?_
            have O110 := O107.ext E109
            have K110 := K107.ext E109
            have g111 : n0 ≤ ob109 := Nat.le_trans (own_old_le O107) (Nat.le_of_eq y109.symm)
            have z111 : h0.size ≤ ob109 := Nat.le_trans K107.1 (Nat.le_of_eq y109.symm)
            have V109 : Arv Z h109 ob109 k109 .char (4 : Int32) [(Value.int (0 : Int32)), (Value.int (0 : Int32)), (Value.int (0 : Int32)), (Value.int (0 : Int32))] (Value.int (0 : Int32)) := (Arv.new A109 (by decide : ¬ ((4 : Int32) < (0 : Int32)))).pad (pad_rep [] (Value.int (0 : Int32)) 4)
            refine own_Go.by (fun tq kq => XS.dup X109.here hx rfl (hb hby d1_111) rfl rfl kq) ?_
            refine own_Go.by (fun tq kq => XS.iconst X109.here hx rfl (hb hby d1_112) kq) ?_
            refine own_Go.by (fun tq kq => XS.aloadN X109.here hx rfl (hb hby d1_113) rfl rfl kq) ?_
            show own_Go _ _ _ _ (T109.setTop (mkF m 114 #[sR a1, sI nn] [(Value.ref a1), (Value.int (0 : Int32)), (Value.ref ob109), (Value.ref ob109), (Value.ref ob106), (Value.ref ob106)]))
            refine own_Go.by (fun tq kq => XS.iconst X109.here hx rfl (hb hby d1_114) kq) ?_
            show own_Go _ _ _ _ (T109.setTop (mkF m 115 #[sR a1, sI nn] [(Value.int (0 : Int32)), (Value.ref a1), (Value.int (0 : Int32)), (Value.ref ob109), (Value.ref ob109), (Value.ref ob106), (Value.ref ob106)]))
            have c112 := ((H0.ext E106).ext E109)
            obtain ⟨cl113, Ar113, q113, S113, M113, Hh113, G113⟩ := id c112
            refine own_Go.by (fun tq kq => X109.caload hx (j := (0 : Int32)) (v := (Value.int b0)) (by rw [e109]; exact Ar113.1) (State.isArrayOf_alike hZ.alike Ar113.2.1) Ar113.2.2 (inb_of S113 ⟨(by decide : ¬ ((0 : Int32) < (0 : Int32))), (by decide : (0 : Int32) < (7 : Int32))⟩) (Has.at Hh113 (inb_of S113 ⟨(by decide : ¬ ((0 : Int32) < (0 : Int32))), (by decide : (0 : Int32) < (7 : Int32))⟩) (rfl : _ = (Value.int b0))) (g := (mkF m 115 #[sR a1, sI nn] [(Value.int (0 : Int32)), (Value.ref a1), (Value.int (0 : Int32)), (Value.ref ob109), (Value.ref ob109), (Value.ref ob106), (Value.ref ob106)])) rfl rfl (hb hby d1_115) _ kq) ?_
            show own_Go _ _ _ _ (T109.setTop (mkF m 116 #[sR a1, sI nn] [(Value.int b0), (Value.int (0 : Int32)), (Value.ref ob109), (Value.ref ob109), (Value.ref ob106), (Value.ref ob106)]))
            obtain ⟨cl114, Ar114, q114, S114, M114, Hh114, G114⟩ := id V109
            obtain ⟨T115, h115, X115, e115, W115, st115⟩ := stC X109 hx hZ e109 Ar114 (j := (0 : Int32)) (inb_of S114 ⟨(by decide : ¬ ((0 : Int32) < (0 : Int32))), (by decide : (0 : Int32) < (4 : Int32))⟩) (g := (mkF m 116 #[sR a1, sI nn] [(Value.int b0), (Value.int (0 : Int32)), (Value.ref ob109), (Value.ref ob109), (Value.ref ob106), (Value.ref ob106)])) rfl rfl (hb hby d1_116)
            refine own_Go.by st115 ?_
            have N115 := Fr.snoc X115 N0 g111
            have O116 := O110.wr W115 g111
            have K116 := K110.wr W115 (Or.inr z111)
            rw [show nar .char b0 = b0 from own_narc (hbn _ (by simp))] at W115
            have V115 : Arv Z h115 ob109 k109 .char (4 : Int32) [(Value.int b0), (Value.int (0 : Int32)), (Value.int (0 : Int32)), (Value.int (0 : Int32))] (Value.int (0 : Int32)) := Arv.set Ar114 q114 S114 M114 Hh114 G114 (own_fitC (own_narc (hbn _ (by simp)))) W115 0 rfl (Nat.le_of_ble_eq_true rfl)
            refine own_Go.by (fun tq kq => XS.dup X115.here hx rfl (hb hby d1_117) rfl rfl kq) ?_
            refine own_Go.by (fun tq kq => XS.iconst X115.here hx rfl (hb hby d1_118) kq) ?_
            refine own_Go.by (fun tq kq => XS.aloadN X115.here hx rfl (hb hby d1_119) rfl rfl kq) ?_
            show own_Go _ _ _ _ (T115.setTop (mkF m 120 #[sR a1, sI nn] [(Value.ref a1), (Value.int (1 : Int32)), (Value.ref ob109), (Value.ref ob109), (Value.ref ob106), (Value.ref ob106)]))
            refine own_Go.by (fun tq kq => XS.iconst X115.here hx rfl (hb hby d1_120) kq) ?_
            show own_Go _ _ _ _ (T115.setTop (mkF m 121 #[sR a1, sI nn] [(Value.int (1 : Int32)), (Value.ref a1), (Value.int (1 : Int32)), (Value.ref ob109), (Value.ref ob109), (Value.ref ob106), (Value.ref ob106)]))
            have c117 := (c112.other W115 (Nat.ne_of_lt (Nat.lt_of_lt_of_le H0.lt (Nat.le_trans E106.1 (Nat.le_of_eq y109.symm)))))
            obtain ⟨cl118, Ar118, q118, S118, M118, Hh118, G118⟩ := id c117
            refine own_Go.by (fun tq kq => X115.caload hx (j := (1 : Int32)) (v := (Value.int b1)) (by rw [e115]; exact Ar118.1) (State.isArrayOf_alike hZ.alike Ar118.2.1) Ar118.2.2 (inb_of S118 ⟨(by decide : ¬ ((1 : Int32) < (0 : Int32))), (by decide : (1 : Int32) < (7 : Int32))⟩) (Has.at Hh118 (inb_of S118 ⟨(by decide : ¬ ((1 : Int32) < (0 : Int32))), (by decide : (1 : Int32) < (7 : Int32))⟩) (rfl : _ = (Value.int b1))) (g := (mkF m 121 #[sR a1, sI nn] [(Value.int (1 : Int32)), (Value.ref a1), (Value.int (1 : Int32)), (Value.ref ob109), (Value.ref ob109), (Value.ref ob106), (Value.ref ob106)])) rfl rfl (hb hby d1_121) _ kq) ?_
            show own_Go _ _ _ _ (T115.setTop (mkF m 122 #[sR a1, sI nn] [(Value.int b1), (Value.int (1 : Int32)), (Value.ref ob109), (Value.ref ob109), (Value.ref ob106), (Value.ref ob106)]))
            obtain ⟨cl119, Ar119, q119, S119, M119, Hh119, G119⟩ := id V115
            obtain ⟨T120, h120, X120, e120, W120, st120⟩ := stC X115 hx hZ e115 Ar119 (j := (1 : Int32)) (inb_of S119 ⟨(by decide : ¬ ((1 : Int32) < (0 : Int32))), (by decide : (1 : Int32) < (4 : Int32))⟩) (g := (mkF m 122 #[sR a1, sI nn] [(Value.int b1), (Value.int (1 : Int32)), (Value.ref ob109), (Value.ref ob109), (Value.ref ob106), (Value.ref ob106)])) rfl rfl (hb hby d1_122)
            refine own_Go.by st120 ?_
            have N120 := Fr.snoc X120 N115 g111
            have O121 := O116.wr W120 g111
            have K121 := K116.wr W120 (Or.inr z111)
            rw [show nar .char b1 = b1 from own_narc (hbn _ (by simp))] at W120
            have V120 : Arv Z h120 ob109 k109 .char (4 : Int32) [(Value.int b0), (Value.int b1), (Value.int (0 : Int32)), (Value.int (0 : Int32))] (Value.int (0 : Int32)) := Arv.set Ar119 q119 S119 M119 Hh119 G119 (own_fitC (own_narc (hbn _ (by simp)))) W120 1 rfl (Nat.le_of_ble_eq_true rfl)
            refine own_Go.by (fun tq kq => XS.dup X120.here hx rfl (hb hby d1_123) rfl rfl kq) ?_
            refine own_Go.by (fun tq kq => XS.iconst X120.here hx rfl (hb hby d1_124) kq) ?_
            refine own_Go.by (fun tq kq => XS.aloadN X120.here hx rfl (hb hby d1_125) rfl rfl kq) ?_
            show own_Go _ _ _ _ (T120.setTop (mkF m 126 #[sR a1, sI nn] [(Value.ref a1), (Value.int (2 : Int32)), (Value.ref ob109), (Value.ref ob109), (Value.ref ob106), (Value.ref ob106)]))
            refine own_Go.by (fun tq kq => XS.iconst X120.here hx rfl (hb hby d1_126) kq) ?_
            show own_Go _ _ _ _ (T120.setTop (mkF m 127 #[sR a1, sI nn] [(Value.int (2 : Int32)), (Value.ref a1), (Value.int (2 : Int32)), (Value.ref ob109), (Value.ref ob109), (Value.ref ob106), (Value.ref ob106)]))
            have c122 := (c117.other W120 (Nat.ne_of_lt (Nat.lt_of_lt_of_le H0.lt (Nat.le_trans E106.1 (Nat.le_of_eq y109.symm)))))
            obtain ⟨cl123, Ar123, q123, S123, M123, Hh123, G123⟩ := id c122
            refine own_Go.by (fun tq kq => X120.caload hx (j := (2 : Int32)) (v := (Value.int b2)) (by rw [e120]; exact Ar123.1) (State.isArrayOf_alike hZ.alike Ar123.2.1) Ar123.2.2 (inb_of S123 ⟨(by decide : ¬ ((2 : Int32) < (0 : Int32))), (by decide : (2 : Int32) < (7 : Int32))⟩) (Has.at Hh123 (inb_of S123 ⟨(by decide : ¬ ((2 : Int32) < (0 : Int32))), (by decide : (2 : Int32) < (7 : Int32))⟩) (rfl : _ = (Value.int b2))) (g := (mkF m 127 #[sR a1, sI nn] [(Value.int (2 : Int32)), (Value.ref a1), (Value.int (2 : Int32)), (Value.ref ob109), (Value.ref ob109), (Value.ref ob106), (Value.ref ob106)])) rfl rfl (hb hby d1_127) _ kq) ?_
            show own_Go _ _ _ _ (T120.setTop (mkF m 128 #[sR a1, sI nn] [(Value.int b2), (Value.int (2 : Int32)), (Value.ref ob109), (Value.ref ob109), (Value.ref ob106), (Value.ref ob106)]))
            obtain ⟨cl124, Ar124, q124, S124, M124, Hh124, G124⟩ := id V120
            obtain ⟨T125, h125, X125, e125, W125, st125⟩ := stC X120 hx hZ e120 Ar124 (j := (2 : Int32)) (inb_of S124 ⟨(by decide : ¬ ((2 : Int32) < (0 : Int32))), (by decide : (2 : Int32) < (4 : Int32))⟩) (g := (mkF m 128 #[sR a1, sI nn] [(Value.int b2), (Value.int (2 : Int32)), (Value.ref ob109), (Value.ref ob109), (Value.ref ob106), (Value.ref ob106)])) rfl rfl (hb hby d1_128)
            refine own_Go.by st125 ?_
            have N125 := Fr.snoc X125 N120 g111
            have O126 := O121.wr W125 g111
            have K126 := K121.wr W125 (Or.inr z111)
            rw [show nar .char b2 = b2 from own_narc (hbn _ (by simp))] at W125
            have V125 : Arv Z h125 ob109 k109 .char (4 : Int32) [(Value.int b0), (Value.int b1), (Value.int b2), (Value.int (0 : Int32))] (Value.int (0 : Int32)) := Arv.set Ar124 q124 S124 M124 Hh124 G124 (own_fitC (own_narc (hbn _ (by simp)))) W125 2 rfl (Nat.le_of_ble_eq_true rfl)
            refine own_Go.by (fun tq kq => XS.dup X125.here hx rfl (hb hby d1_129) rfl rfl kq) ?_
            refine own_Go.by (fun tq kq => XS.iconst X125.here hx rfl (hb hby d1_130) kq) ?_
            refine own_Go.by (fun tq kq => XS.aloadN X125.here hx rfl (hb hby d1_131) rfl rfl kq) ?_
            show own_Go _ _ _ _ (T125.setTop (mkF m 132 #[sR a1, sI nn] [(Value.ref a1), (Value.int (3 : Int32)), (Value.ref ob109), (Value.ref ob109), (Value.ref ob106), (Value.ref ob106)]))
            refine own_Go.by (fun tq kq => XS.iconst X125.here hx rfl (hb hby d1_132) kq) ?_
            show own_Go _ _ _ _ (T125.setTop (mkF m 133 #[sR a1, sI nn] [(Value.int (3 : Int32)), (Value.ref a1), (Value.int (3 : Int32)), (Value.ref ob109), (Value.ref ob109), (Value.ref ob106), (Value.ref ob106)]))
            have c127 := (c122.other W125 (Nat.ne_of_lt (Nat.lt_of_lt_of_le H0.lt (Nat.le_trans E106.1 (Nat.le_of_eq y109.symm)))))
            obtain ⟨cl128, Ar128, q128, S128, M128, Hh128, G128⟩ := id c127
            refine own_Go.by (fun tq kq => X125.caload hx (j := (3 : Int32)) (v := (Value.int b3)) (by rw [e125]; exact Ar128.1) (State.isArrayOf_alike hZ.alike Ar128.2.1) Ar128.2.2 (inb_of S128 ⟨(by decide : ¬ ((3 : Int32) < (0 : Int32))), (by decide : (3 : Int32) < (7 : Int32))⟩) (Has.at Hh128 (inb_of S128 ⟨(by decide : ¬ ((3 : Int32) < (0 : Int32))), (by decide : (3 : Int32) < (7 : Int32))⟩) (rfl : _ = (Value.int b3))) (g := (mkF m 133 #[sR a1, sI nn] [(Value.int (3 : Int32)), (Value.ref a1), (Value.int (3 : Int32)), (Value.ref ob109), (Value.ref ob109), (Value.ref ob106), (Value.ref ob106)])) rfl rfl (hb hby d1_133) _ kq) ?_
            show own_Go _ _ _ _ (T125.setTop (mkF m 134 #[sR a1, sI nn] [(Value.int b3), (Value.int (3 : Int32)), (Value.ref ob109), (Value.ref ob109), (Value.ref ob106), (Value.ref ob106)]))
            obtain ⟨cl129, Ar129, q129, S129, M129, Hh129, G129⟩ := id V125
            obtain ⟨T130, h130, X130, e130, W130, st130⟩ := stC X125 hx hZ e125 Ar129 (j := (3 : Int32)) (inb_of S129 ⟨(by decide : ¬ ((3 : Int32) < (0 : Int32))), (by decide : (3 : Int32) < (4 : Int32))⟩) (g := (mkF m 134 #[sR a1, sI nn] [(Value.int b3), (Value.int (3 : Int32)), (Value.ref ob109), (Value.ref ob109), (Value.ref ob106), (Value.ref ob106)])) rfl rfl (hb hby d1_134)
            refine own_Go.by st130 ?_
            have N130 := Fr.snoc X130 N125 g111
            have O131 := O126.wr W130 g111
            have K131 := K126.wr W130 (Or.inr z111)
            rw [show nar .char b3 = b3 from own_narc (hbn _ (by simp))] at W130
            have V130 : Arv Z h130 ob109 k109 .char (4 : Int32) [(Value.int b0), (Value.int b1), (Value.int b2), (Value.int b3)] (Value.int (0 : Int32)) := Arv.set Ar129 q129 S129 M129 Hh129 G129 (own_fitC (own_narc (hbn _ (by simp)))) W130 3 rfl (Nat.le_of_ble_eq_true rfl)
            show own_Go _ _ _ _ (T130.setTop (mkF m 135 #[sR a1, sI nn] [(Value.ref ob109), (Value.ref ob106), (Value.ref ob106)]))
            have c133 := (((((A106.ext E109).wr W115).wr W120).wr W125).wr W130)
            have c134 := (((((F106_value.ext E109).other W115 (Or.inl (Nat.ne_of_lt (Nat.lt_of_lt_of_le A106.lt (Nat.le_of_eq y109.symm))))).other W120 (Or.inl (Nat.ne_of_lt (Nat.lt_of_lt_of_le A106.lt (Nat.le_of_eq y109.symm))))).other W125 (Or.inl (Nat.ne_of_lt (Nat.lt_of_lt_of_le A106.lt (Nat.le_of_eq y109.symm))))).other W130 (Or.inl (Nat.ne_of_lt (Nat.lt_of_lt_of_le A106.lt (Nat.le_of_eq y109.symm)))))
            have c135 := (((((F106_coder.ext E109).other W115 (Or.inl (Nat.ne_of_lt (Nat.lt_of_lt_of_le A106.lt (Nat.le_of_eq y109.symm))))).other W120 (Or.inl (Nat.ne_of_lt (Nat.lt_of_lt_of_le A106.lt (Nat.le_of_eq y109.symm))))).other W125 (Or.inl (Nat.ne_of_lt (Nat.lt_of_lt_of_le A106.lt (Nat.le_of_eq y109.symm))))).other W130 (Or.inl (Nat.ne_of_lt (Nat.lt_of_lt_of_le A106.lt (Nat.le_of_eq y109.symm)))))
            have hp132 : ∀ c ∈ ([b0, b1, b2, b3] : List Int32), ¬ c < 0 ∧ ¬ (255 : Int32) < c := fun c hc => hbn c (by simp only [List.mem_cons, List.not_mem_nil, or_false] at hc ⊢; rcases hc with rfl | rfl | rfl | rfl <;> simp)
            obtain ⟨_, _, ⟨T132, L132, k132, n132⟩, -, X132, ⟨Lc132, hQ132, l132, y132, z132⟩, st132⟩ := X130.specialBack hx (y := (⟨"java/lang/String", "<init>", "([C)V"⟩ : MethodName)) rfl hown (mvT hZ (hw _ (List.mem_of_getElem? (i := 8) rfl))) (mvT hZ (hw _ (List.mem_of_getElem? (i := 9) rfl))) (mvT hZ (hw _ (List.mem_of_getElem? (i := 10) rfl))) (by decide) (StrChars.Road.backV (W := 1) hZ (fun d hd => hw d (own_hws d hd)) (kI := 4) (hw _ (List.mem_of_getElem? (i := 6) rfl)) (cs := ([b0, b1, b2, b3] : List Int32)) (bs := (([b0, b1, b2, b3] : List Int32).map (fun c => c.toInt8.toInt32))) (n := 4) g108 (own_old_le O131) c133 c134 c135 V130 (H2.ext O131.2) hzc rfl rfl (by decide) (by decide) hp132 rfl (by decide) (by decide)) (g := (mkF m 135 #[sR a1, sI nn] [(Value.ref ob109), (Value.ref ob106), (Value.ref ob106)])) rfl (by rw [hml]; rfl) (Steps.refl _) (a := ob106) (argsL := [(Value.ref ob109)]) (rest := [(Value.ref ob106)]) (lenOf own_pd1 rfl) rfl (by show 2 * 0 + _ ≤ _; exact Nat.le_of_eq rfl) (hb hby d1_135) (fun _ _ => ⟨rfl, e130, (by decide : 2 + 1 ≤ _), (by decide : 8 + 4 ≤ _)⟩)
            dsimp only [Pt.U, Pt.locs, Pt.cells, Pt.slots] at X132 l132 y132 z132 st132 hQ132
            subst l132 y132 z132
            refine own_Go.by (fun tq kq => st132.trans kq) ?_
            obtain ⟨rfl, N132q, K132q, E132q, C132q, t132, kb132, u132, v132, w132, V132q, A132q⟩ := hQ132
            have N132 := Fr.app N130 N132q
            have O136 := O131.keep K132q (allS g108 all0)
            have K136 := K131.trans K132q (allS (Or.inr z108) all0)
            have g137 : n0 ≤ t132 := Nat.le_trans (own_old_le O131) v132
            have z137 : h0.size ≤ t132 := Nat.le_trans K131.1 v132
            show own_Go _ _ _ _ (T132.setTop (mkF m 138 #[sR a1, sI nn] [(Value.ref ob106)]))
            obtain ⟨fs, hr, hrun, hended, hRE⟩ := Stand.leaveW (s := s) (vm₁ := s.vm) X132 hS0 (Nat.zero_le _) (v := some (Value.ref ob106)) (fun h => by rw [Bd.returns] at h; cases h)
            have R138 := CHr.ext E106 CH0
            have R139 := CHr.ext E109 R138.1
            have Sf140 := Safe.ext E109 R138.1 (Safe.new (Nat.le_of_eq y109.symm))
            have R141 := CHr.wr W115 Sf140 R139.1
            have R142 := CHr.wr W120 (R141.safe A109.lt Sf140) R141.1
            have R143 := CHr.wr W125 ((R141.trans R142).safe A109.lt Sf140) R142.1
            have R144 := CHr.wr W130 (((R141.trans R142).trans R143).safe A109.lt Sf140) R143.1
            have Sf145 := Safe.ext E106 CH0 (Safe.new (Nat.le_of_eq y106.symm))
            have R146 := CHr.keep K132q (allS (((((R139.trans R141).trans R142).trans R143).trans R144).safe A106.lt Sf145) all0) R144.1
            have hCR := ((((((R138.trans R139).trans R141).trans R142).trans R143).trans R144).trans R146)
            have hCZ : CHr Z consts_1 s.vm s.heap T132.vm T132.heap := by
              rw [hh]
              exact hCR.trans (CHv.at (s := s) (vm0 := s.vm) X132 hZ hEL hCR.1)
            refine own_Go.fin (retOut X132 hx Bd.returns rfl (Or.inr (Or.inr (Or.inr (Or.inr ⟨rfl, rfl, rfl⟩)))) (hb hby d1_138) hr) ⟨hrun, hended, _, _, rfl, ?_, hCZ, own_rew hRE (by decide) (by decide)⟩
            show Q1 Z a1 kB b0 b1 b2 b3 b4 b5 b6 nn zc h0 n0 _ T132.heap _
            exact ⟨ob106, t132, kb132, (4 : Int32), ((([b0, b1, b2, b3] : List Int32).map (fun c => c.toInt8.toInt32)).map Value.int), ([b0, b1, b2, b3] : List Int32), rfl, N132, K136, z108, E132q, C132q, V132q, A132q, ⟨StrChars.Road.codOf (n := 4) rfl (fun x hx => (hp132 x hx).2), hp132, Nat.le_of_ble_eq_true rfl⟩⟩
          ·
            refine own_Go.by (fun tq kq => XS.icmpYes X0.here hx rfl (pc0 := 101) (pc' := 139) rfl (hb hby d1_101) rfl (feq hc101_105).2 (by decide) (by decide) kq) ?_
            refine own_Go.by (fun tq kq => XS.iloadN X0.here hx rfl (hb hby d1_139) rfl kq) ?_
            refine own_Go.by (fun tq kq => XS.iconst X0.here hx rfl (hb hby d1_140) kq) ?_
            show own_Go _ _ _ _ (s₁.setTop (mkF m 141 #[sR a1, sI nn] [(Value.int (5 : Int32)), (Value.int nn)]))
            by_cases hc141_147 : nn = (5 : Int32)
            ·
              refine own_Go.by (fun tq kq => XS.icmpNo X0.here hx rfl (hb hby d1_141) rfl (teq hc141_147).2 kq) ?_
              show own_Go _ _ _ _ (s₁.setTop (mkF m 144 #[sR a1, sI nn] []))
              obtain ⟨T148, h148, X148, e148, E148, A148, D148, -, st148⟩ := newO X0 hx hZ hown (hw _ (List.mem_of_getElem? (i := 5) rfl)) (hw _ (List.mem_of_getElem? (i := 6) rfl)) (hw _ (List.mem_of_getElem? (i := 7) rfl)) e0 (g := (mkF m 144 #[sR a1, sI nn] [])) rfl (hb hby d1_144) (by decide) (by decide)
              obtain ⟨ob148, y148⟩ : ∃ z, z = h0.size := ⟨_, rfl⟩
              rw [← y148] at A148 D148 st148
              refine own_Go.by st148 ?_
              have O149 := O0.ext E148
              have K149 := K0.ext E148
              have g150 : n0 ≤ ob148 := Nat.le_trans (own_old_le O0) (Nat.le_of_eq y148.symm)
              have z150 : h0.size ≤ ob148 := Nat.le_trans K0.1 (Nat.le_of_eq y148.symm)
              have F148_coder : Fld Z h148 ob148 "java/lang/String" "coder" "B" (Value.int (0 : Int32)) := D148 (Or.inr (hw _ (List.mem_of_getElem? (i := 31) rfl))) (ty := .byte) (by decide)
              have F148_value : Fld Z h148 ob148 "java/lang/String" "value" "[B" .null := D148 (Or.inr (hw _ (List.mem_of_getElem? (i := 33) rfl))) (ty := (.array .byte)) (by decide)
              refine own_Go.by (fun tq kq => XS.dup X148.here hx rfl (hb hby d1_147) rfl rfl kq) ?_
              refine own_Go.by (fun tq kq => XS.iconst X148.here hx rfl (hb hby d1_148) kq) ?_
              show own_Go _ _ _ _ (T148.setTop (mkF m 149 #[sR a1, sI nn] [(Value.int (5 : Int32)), (Value.ref ob148), (Value.ref ob148)]))
              obtain ⟨T151, h151, k151, X151, e151, E151, A151, Ea151, st151⟩ := newPE X148 hx hZ (hw _ (List.mem_of_getElem? (i := 0) rfl)) e148 (g := (mkF m 149 #[sR a1, sI nn] [(Value.int (5 : Int32)), (Value.ref ob148), (Value.ref ob148)])) rfl (hb hby d1_149) rfl (by decide : ¬ ((5 : Int32) < (0 : Int32))) (cap := 5) (by decide : (5 : Int32).toNatClampNeg ≤ 5) (by decide) (by decide) (by decide) (ad := "[C") rfl
              obtain ⟨ob151, y151⟩ : ∃ z, z = h148.size := ⟨_, rfl⟩
              rw [← y151] at A151 Ea151 st151
              refine own_Go.by st151 ?_
              have O152 := O149.ext E151
              have K152 := K149.ext E151
              have g153 : n0 ≤ ob151 := Nat.le_trans (own_old_le O149) (Nat.le_of_eq y151.symm)
              have z153 : h0.size ≤ ob151 := Nat.le_trans K149.1 (Nat.le_of_eq y151.symm)
              have V151 : Arv Z h151 ob151 k151 .char (5 : Int32) [(Value.int (0 : Int32)), (Value.int (0 : Int32)), (Value.int (0 : Int32)), (Value.int (0 : Int32)), (Value.int (0 : Int32))] (Value.int (0 : Int32)) := (Arv.new A151 (by decide : ¬ ((5 : Int32) < (0 : Int32)))).pad (pad_rep [] (Value.int (0 : Int32)) 5)
              refine own_Go.by (fun tq kq => XS.dup X151.here hx rfl (hb hby d1_151) rfl rfl kq) ?_
              refine own_Go.by (fun tq kq => XS.iconst X151.here hx rfl (hb hby d1_152) kq) ?_
              refine own_Go.by (fun tq kq => XS.aloadN X151.here hx rfl (hb hby d1_153) rfl rfl kq) ?_
              show own_Go _ _ _ _ (T151.setTop (mkF m 154 #[sR a1, sI nn] [(Value.ref a1), (Value.int (0 : Int32)), (Value.ref ob151), (Value.ref ob151), (Value.ref ob148), (Value.ref ob148)]))
              refine own_Go.by (fun tq kq => XS.iconst X151.here hx rfl (hb hby d1_154) kq) ?_
              show own_Go _ _ _ _ (T151.setTop (mkF m 155 #[sR a1, sI nn] [(Value.int (0 : Int32)), (Value.ref a1), (Value.int (0 : Int32)), (Value.ref ob151), (Value.ref ob151), (Value.ref ob148), (Value.ref ob148)]))
              have c154 := ((H0.ext E148).ext E151)
              obtain ⟨cl155, Ar155, q155, S155, M155, Hh155, G155⟩ := id c154
              refine own_Go.by (fun tq kq => X151.caload hx (j := (0 : Int32)) (v := (Value.int b0)) (by rw [e151]; exact Ar155.1) (State.isArrayOf_alike hZ.alike Ar155.2.1) Ar155.2.2 (inb_of S155 ⟨(by decide : ¬ ((0 : Int32) < (0 : Int32))), (by decide : (0 : Int32) < (7 : Int32))⟩) (Has.at Hh155 (inb_of S155 ⟨(by decide : ¬ ((0 : Int32) < (0 : Int32))), (by decide : (0 : Int32) < (7 : Int32))⟩) (rfl : _ = (Value.int b0))) (g := (mkF m 155 #[sR a1, sI nn] [(Value.int (0 : Int32)), (Value.ref a1), (Value.int (0 : Int32)), (Value.ref ob151), (Value.ref ob151), (Value.ref ob148), (Value.ref ob148)])) rfl rfl (hb hby d1_155) _ kq) ?_
              show own_Go _ _ _ _ (T151.setTop (mkF m 156 #[sR a1, sI nn] [(Value.int b0), (Value.int (0 : Int32)), (Value.ref ob151), (Value.ref ob151), (Value.ref ob148), (Value.ref ob148)]))
              obtain ⟨cl156, Ar156, q156, S156, M156, Hh156, G156⟩ := id V151
              obtain ⟨T157, h157, X157, e157, W157, st157⟩ := stC X151 hx hZ e151 Ar156 (j := (0 : Int32)) (inb_of S156 ⟨(by decide : ¬ ((0 : Int32) < (0 : Int32))), (by decide : (0 : Int32) < (5 : Int32))⟩) (g := (mkF m 156 #[sR a1, sI nn] [(Value.int b0), (Value.int (0 : Int32)), (Value.ref ob151), (Value.ref ob151), (Value.ref ob148), (Value.ref ob148)])) rfl rfl (hb hby d1_156)
              refine own_Go.by st157 ?_
              have N157 := Fr.snoc X157 N0 g153
              have O158 := O152.wr W157 g153
              have K158 := K152.wr W157 (Or.inr z153)
              rw [show nar .char b0 = b0 from own_narc (hbn _ (by simp))] at W157
              have V157 : Arv Z h157 ob151 k151 .char (5 : Int32) [(Value.int b0), (Value.int (0 : Int32)), (Value.int (0 : Int32)), (Value.int (0 : Int32)), (Value.int (0 : Int32))] (Value.int (0 : Int32)) := Arv.set Ar156 q156 S156 M156 Hh156 G156 (own_fitC (own_narc (hbn _ (by simp)))) W157 0 rfl (Nat.le_of_ble_eq_true rfl)
              refine own_Go.by (fun tq kq => XS.dup X157.here hx rfl (hb hby d1_157) rfl rfl kq) ?_
              refine own_Go.by (fun tq kq => XS.iconst X157.here hx rfl (hb hby d1_158) kq) ?_
              refine own_Go.by (fun tq kq => XS.aloadN X157.here hx rfl (hb hby d1_159) rfl rfl kq) ?_
              show own_Go _ _ _ _ (T157.setTop (mkF m 160 #[sR a1, sI nn] [(Value.ref a1), (Value.int (1 : Int32)), (Value.ref ob151), (Value.ref ob151), (Value.ref ob148), (Value.ref ob148)]))
              refine own_Go.by (fun tq kq => XS.iconst X157.here hx rfl (hb hby d1_160) kq) ?_
              show own_Go _ _ _ _ (T157.setTop (mkF m 161 #[sR a1, sI nn] [(Value.int (1 : Int32)), (Value.ref a1), (Value.int (1 : Int32)), (Value.ref ob151), (Value.ref ob151), (Value.ref ob148), (Value.ref ob148)]))
              have c159 := (c154.other W157 (Nat.ne_of_lt (Nat.lt_of_lt_of_le H0.lt (Nat.le_trans E148.1 (Nat.le_of_eq y151.symm)))))
              obtain ⟨cl160, Ar160, q160, S160, M160, Hh160, G160⟩ := id c159
              refine own_Go.by (fun tq kq => X157.caload hx (j := (1 : Int32)) (v := (Value.int b1)) (by rw [e157]; exact Ar160.1) (State.isArrayOf_alike hZ.alike Ar160.2.1) Ar160.2.2 (inb_of S160 ⟨(by decide : ¬ ((1 : Int32) < (0 : Int32))), (by decide : (1 : Int32) < (7 : Int32))⟩) (Has.at Hh160 (inb_of S160 ⟨(by decide : ¬ ((1 : Int32) < (0 : Int32))), (by decide : (1 : Int32) < (7 : Int32))⟩) (rfl : _ = (Value.int b1))) (g := (mkF m 161 #[sR a1, sI nn] [(Value.int (1 : Int32)), (Value.ref a1), (Value.int (1 : Int32)), (Value.ref ob151), (Value.ref ob151), (Value.ref ob148), (Value.ref ob148)])) rfl rfl (hb hby d1_161) _ kq) ?_
              show own_Go _ _ _ _ (T157.setTop (mkF m 162 #[sR a1, sI nn] [(Value.int b1), (Value.int (1 : Int32)), (Value.ref ob151), (Value.ref ob151), (Value.ref ob148), (Value.ref ob148)]))
              obtain ⟨cl161, Ar161, q161, S161, M161, Hh161, G161⟩ := id V157
              obtain ⟨T162, h162, X162, e162, W162, st162⟩ := stC X157 hx hZ e157 Ar161 (j := (1 : Int32)) (inb_of S161 ⟨(by decide : ¬ ((1 : Int32) < (0 : Int32))), (by decide : (1 : Int32) < (5 : Int32))⟩) (g := (mkF m 162 #[sR a1, sI nn] [(Value.int b1), (Value.int (1 : Int32)), (Value.ref ob151), (Value.ref ob151), (Value.ref ob148), (Value.ref ob148)])) rfl rfl (hb hby d1_162)
              refine own_Go.by st162 ?_
              have N162 := Fr.snoc X162 N157 g153
              have O163 := O158.wr W162 g153
              have K163 := K158.wr W162 (Or.inr z153)
              rw [show nar .char b1 = b1 from own_narc (hbn _ (by simp))] at W162
              have V162 : Arv Z h162 ob151 k151 .char (5 : Int32) [(Value.int b0), (Value.int b1), (Value.int (0 : Int32)), (Value.int (0 : Int32)), (Value.int (0 : Int32))] (Value.int (0 : Int32)) := Arv.set Ar161 q161 S161 M161 Hh161 G161 (own_fitC (own_narc (hbn _ (by simp)))) W162 1 rfl (Nat.le_of_ble_eq_true rfl)
              refine own_Go.by (fun tq kq => XS.dup X162.here hx rfl (hb hby d1_163) rfl rfl kq) ?_
              refine own_Go.by (fun tq kq => XS.iconst X162.here hx rfl (hb hby d1_164) kq) ?_
              refine own_Go.by (fun tq kq => XS.aloadN X162.here hx rfl (hb hby d1_165) rfl rfl kq) ?_
              show own_Go _ _ _ _ (T162.setTop (mkF m 166 #[sR a1, sI nn] [(Value.ref a1), (Value.int (2 : Int32)), (Value.ref ob151), (Value.ref ob151), (Value.ref ob148), (Value.ref ob148)]))
              refine own_Go.by (fun tq kq => XS.iconst X162.here hx rfl (hb hby d1_166) kq) ?_
              show own_Go _ _ _ _ (T162.setTop (mkF m 167 #[sR a1, sI nn] [(Value.int (2 : Int32)), (Value.ref a1), (Value.int (2 : Int32)), (Value.ref ob151), (Value.ref ob151), (Value.ref ob148), (Value.ref ob148)]))
              have c164 := (c159.other W162 (Nat.ne_of_lt (Nat.lt_of_lt_of_le H0.lt (Nat.le_trans E148.1 (Nat.le_of_eq y151.symm)))))
              obtain ⟨cl165, Ar165, q165, S165, M165, Hh165, G165⟩ := id c164
              refine own_Go.by (fun tq kq => X162.caload hx (j := (2 : Int32)) (v := (Value.int b2)) (by rw [e162]; exact Ar165.1) (State.isArrayOf_alike hZ.alike Ar165.2.1) Ar165.2.2 (inb_of S165 ⟨(by decide : ¬ ((2 : Int32) < (0 : Int32))), (by decide : (2 : Int32) < (7 : Int32))⟩) (Has.at Hh165 (inb_of S165 ⟨(by decide : ¬ ((2 : Int32) < (0 : Int32))), (by decide : (2 : Int32) < (7 : Int32))⟩) (rfl : _ = (Value.int b2))) (g := (mkF m 167 #[sR a1, sI nn] [(Value.int (2 : Int32)), (Value.ref a1), (Value.int (2 : Int32)), (Value.ref ob151), (Value.ref ob151), (Value.ref ob148), (Value.ref ob148)])) rfl rfl (hb hby d1_167) _ kq) ?_
              show own_Go _ _ _ _ (T162.setTop (mkF m 168 #[sR a1, sI nn] [(Value.int b2), (Value.int (2 : Int32)), (Value.ref ob151), (Value.ref ob151), (Value.ref ob148), (Value.ref ob148)]))
              obtain ⟨cl166, Ar166, q166, S166, M166, Hh166, G166⟩ := id V162
              obtain ⟨T167, h167, X167, e167, W167, st167⟩ := stC X162 hx hZ e162 Ar166 (j := (2 : Int32)) (inb_of S166 ⟨(by decide : ¬ ((2 : Int32) < (0 : Int32))), (by decide : (2 : Int32) < (5 : Int32))⟩) (g := (mkF m 168 #[sR a1, sI nn] [(Value.int b2), (Value.int (2 : Int32)), (Value.ref ob151), (Value.ref ob151), (Value.ref ob148), (Value.ref ob148)])) rfl rfl (hb hby d1_168)
              refine own_Go.by st167 ?_
              have N167 := Fr.snoc X167 N162 g153
              have O168 := O163.wr W167 g153
              have K168 := K163.wr W167 (Or.inr z153)
              rw [show nar .char b2 = b2 from own_narc (hbn _ (by simp))] at W167
              have V167 : Arv Z h167 ob151 k151 .char (5 : Int32) [(Value.int b0), (Value.int b1), (Value.int b2), (Value.int (0 : Int32)), (Value.int (0 : Int32))] (Value.int (0 : Int32)) := Arv.set Ar166 q166 S166 M166 Hh166 G166 (own_fitC (own_narc (hbn _ (by simp)))) W167 2 rfl (Nat.le_of_ble_eq_true rfl)
              refine own_Go.by (fun tq kq => XS.dup X167.here hx rfl (hb hby d1_169) rfl rfl kq) ?_
              refine own_Go.by (fun tq kq => XS.iconst X167.here hx rfl (hb hby d1_170) kq) ?_
              refine own_Go.by (fun tq kq => XS.aloadN X167.here hx rfl (hb hby d1_171) rfl rfl kq) ?_
              show own_Go _ _ _ _ (T167.setTop (mkF m 172 #[sR a1, sI nn] [(Value.ref a1), (Value.int (3 : Int32)), (Value.ref ob151), (Value.ref ob151), (Value.ref ob148), (Value.ref ob148)]))
              refine own_Go.by (fun tq kq => XS.iconst X167.here hx rfl (hb hby d1_172) kq) ?_
              show own_Go _ _ _ _ (T167.setTop (mkF m 173 #[sR a1, sI nn] [(Value.int (3 : Int32)), (Value.ref a1), (Value.int (3 : Int32)), (Value.ref ob151), (Value.ref ob151), (Value.ref ob148), (Value.ref ob148)]))
              have c169 := (c164.other W167 (Nat.ne_of_lt (Nat.lt_of_lt_of_le H0.lt (Nat.le_trans E148.1 (Nat.le_of_eq y151.symm)))))
              obtain ⟨cl170, Ar170, q170, S170, M170, Hh170, G170⟩ := id c169
              refine own_Go.by (fun tq kq => X167.caload hx (j := (3 : Int32)) (v := (Value.int b3)) (by rw [e167]; exact Ar170.1) (State.isArrayOf_alike hZ.alike Ar170.2.1) Ar170.2.2 (inb_of S170 ⟨(by decide : ¬ ((3 : Int32) < (0 : Int32))), (by decide : (3 : Int32) < (7 : Int32))⟩) (Has.at Hh170 (inb_of S170 ⟨(by decide : ¬ ((3 : Int32) < (0 : Int32))), (by decide : (3 : Int32) < (7 : Int32))⟩) (rfl : _ = (Value.int b3))) (g := (mkF m 173 #[sR a1, sI nn] [(Value.int (3 : Int32)), (Value.ref a1), (Value.int (3 : Int32)), (Value.ref ob151), (Value.ref ob151), (Value.ref ob148), (Value.ref ob148)])) rfl rfl (hb hby d1_173) _ kq) ?_
              show own_Go _ _ _ _ (T167.setTop (mkF m 174 #[sR a1, sI nn] [(Value.int b3), (Value.int (3 : Int32)), (Value.ref ob151), (Value.ref ob151), (Value.ref ob148), (Value.ref ob148)]))
              obtain ⟨cl171, Ar171, q171, S171, M171, Hh171, G171⟩ := id V167
              obtain ⟨T172, h172, X172, e172, W172, st172⟩ := stC X167 hx hZ e167 Ar171 (j := (3 : Int32)) (inb_of S171 ⟨(by decide : ¬ ((3 : Int32) < (0 : Int32))), (by decide : (3 : Int32) < (5 : Int32))⟩) (g := (mkF m 174 #[sR a1, sI nn] [(Value.int b3), (Value.int (3 : Int32)), (Value.ref ob151), (Value.ref ob151), (Value.ref ob148), (Value.ref ob148)])) rfl rfl (hb hby d1_174)
              refine own_Go.by st172 ?_
              have N172 := Fr.snoc X172 N167 g153
              have O173 := O168.wr W172 g153
              have K173 := K168.wr W172 (Or.inr z153)
              rw [show nar .char b3 = b3 from own_narc (hbn _ (by simp))] at W172
              have V172 : Arv Z h172 ob151 k151 .char (5 : Int32) [(Value.int b0), (Value.int b1), (Value.int b2), (Value.int b3), (Value.int (0 : Int32))] (Value.int (0 : Int32)) := Arv.set Ar171 q171 S171 M171 Hh171 G171 (own_fitC (own_narc (hbn _ (by simp)))) W172 3 rfl (Nat.le_of_ble_eq_true rfl)
              refine own_Go.by (fun tq kq => XS.dup X172.here hx rfl (hb hby d1_175) rfl rfl kq) ?_
              refine own_Go.by (fun tq kq => XS.iconst X172.here hx rfl (hb hby d1_176) kq) ?_
              refine own_Go.by (fun tq kq => XS.aloadN X172.here hx rfl (hb hby d1_177) rfl rfl kq) ?_
              show own_Go _ _ _ _ (T172.setTop (mkF m 178 #[sR a1, sI nn] [(Value.ref a1), (Value.int (4 : Int32)), (Value.ref ob151), (Value.ref ob151), (Value.ref ob148), (Value.ref ob148)]))
              refine own_Go.by (fun tq kq => XS.iconst X172.here hx rfl (hb hby d1_178) kq) ?_
              show own_Go _ _ _ _ (T172.setTop (mkF m 179 #[sR a1, sI nn] [(Value.int (4 : Int32)), (Value.ref a1), (Value.int (4 : Int32)), (Value.ref ob151), (Value.ref ob151), (Value.ref ob148), (Value.ref ob148)]))
              have c174 := (c169.other W172 (Nat.ne_of_lt (Nat.lt_of_lt_of_le H0.lt (Nat.le_trans E148.1 (Nat.le_of_eq y151.symm)))))
              obtain ⟨cl175, Ar175, q175, S175, M175, Hh175, G175⟩ := id c174
              refine own_Go.by (fun tq kq => X172.caload hx (j := (4 : Int32)) (v := (Value.int b4)) (by rw [e172]; exact Ar175.1) (State.isArrayOf_alike hZ.alike Ar175.2.1) Ar175.2.2 (inb_of S175 ⟨(by decide : ¬ ((4 : Int32) < (0 : Int32))), (by decide : (4 : Int32) < (7 : Int32))⟩) (Has.at Hh175 (inb_of S175 ⟨(by decide : ¬ ((4 : Int32) < (0 : Int32))), (by decide : (4 : Int32) < (7 : Int32))⟩) (rfl : _ = (Value.int b4))) (g := (mkF m 179 #[sR a1, sI nn] [(Value.int (4 : Int32)), (Value.ref a1), (Value.int (4 : Int32)), (Value.ref ob151), (Value.ref ob151), (Value.ref ob148), (Value.ref ob148)])) rfl rfl (hb hby d1_179) _ kq) ?_
              show own_Go _ _ _ _ (T172.setTop (mkF m 180 #[sR a1, sI nn] [(Value.int b4), (Value.int (4 : Int32)), (Value.ref ob151), (Value.ref ob151), (Value.ref ob148), (Value.ref ob148)]))
              obtain ⟨cl176, Ar176, q176, S176, M176, Hh176, G176⟩ := id V172
              obtain ⟨T177, h177, X177, e177, W177, st177⟩ := stC X172 hx hZ e172 Ar176 (j := (4 : Int32)) (inb_of S176 ⟨(by decide : ¬ ((4 : Int32) < (0 : Int32))), (by decide : (4 : Int32) < (5 : Int32))⟩) (g := (mkF m 180 #[sR a1, sI nn] [(Value.int b4), (Value.int (4 : Int32)), (Value.ref ob151), (Value.ref ob151), (Value.ref ob148), (Value.ref ob148)])) rfl rfl (hb hby d1_180)
              refine own_Go.by st177 ?_
              have N177 := Fr.snoc X177 N172 g153
              have O178 := O173.wr W177 g153
              have K178 := K173.wr W177 (Or.inr z153)
              rw [show nar .char b4 = b4 from own_narc (hbn _ (by simp))] at W177
              have V177 : Arv Z h177 ob151 k151 .char (5 : Int32) [(Value.int b0), (Value.int b1), (Value.int b2), (Value.int b3), (Value.int b4)] (Value.int (0 : Int32)) := Arv.set Ar176 q176 S176 M176 Hh176 G176 (own_fitC (own_narc (hbn _ (by simp)))) W177 4 rfl (Nat.le_of_ble_eq_true rfl)
              show own_Go _ _ _ _ (T177.setTop (mkF m 181 #[sR a1, sI nn] [(Value.ref ob151), (Value.ref ob148), (Value.ref ob148)]))
              have c180 := ((((((A148.ext E151).wr W157).wr W162).wr W167).wr W172).wr W177)
              have c181 := ((((((F148_value.ext E151).other W157 (Or.inl (Nat.ne_of_lt (Nat.lt_of_lt_of_le A148.lt (Nat.le_of_eq y151.symm))))).other W162 (Or.inl (Nat.ne_of_lt (Nat.lt_of_lt_of_le A148.lt (Nat.le_of_eq y151.symm))))).other W167 (Or.inl (Nat.ne_of_lt (Nat.lt_of_lt_of_le A148.lt (Nat.le_of_eq y151.symm))))).other W172 (Or.inl (Nat.ne_of_lt (Nat.lt_of_lt_of_le A148.lt (Nat.le_of_eq y151.symm))))).other W177 (Or.inl (Nat.ne_of_lt (Nat.lt_of_lt_of_le A148.lt (Nat.le_of_eq y151.symm)))))
              have c182 := ((((((F148_coder.ext E151).other W157 (Or.inl (Nat.ne_of_lt (Nat.lt_of_lt_of_le A148.lt (Nat.le_of_eq y151.symm))))).other W162 (Or.inl (Nat.ne_of_lt (Nat.lt_of_lt_of_le A148.lt (Nat.le_of_eq y151.symm))))).other W167 (Or.inl (Nat.ne_of_lt (Nat.lt_of_lt_of_le A148.lt (Nat.le_of_eq y151.symm))))).other W172 (Or.inl (Nat.ne_of_lt (Nat.lt_of_lt_of_le A148.lt (Nat.le_of_eq y151.symm))))).other W177 (Or.inl (Nat.ne_of_lt (Nat.lt_of_lt_of_le A148.lt (Nat.le_of_eq y151.symm)))))
              have hp179 : ∀ c ∈ ([b0, b1, b2, b3, b4] : List Int32), ¬ c < 0 ∧ ¬ (255 : Int32) < c := fun c hc => hbn c (by simp only [List.mem_cons, List.not_mem_nil, or_false] at hc ⊢; rcases hc with rfl | rfl | rfl | rfl | rfl <;> simp)
              obtain ⟨_, _, ⟨T179, L179, k179, n179⟩, -, X179, ⟨Lc179, hQ179, l179, y179, z179⟩, st179⟩ := X177.specialBack hx (y := (⟨"java/lang/String", "<init>", "([C)V"⟩ : MethodName)) rfl hown (mvT hZ (hw _ (List.mem_of_getElem? (i := 8) rfl))) (mvT hZ (hw _ (List.mem_of_getElem? (i := 9) rfl))) (mvT hZ (hw _ (List.mem_of_getElem? (i := 10) rfl))) (by decide) (StrChars.Road.backV (W := 1) hZ (fun d hd => hw d (own_hws d hd)) (kI := 4) (hw _ (List.mem_of_getElem? (i := 6) rfl)) (cs := ([b0, b1, b2, b3, b4] : List Int32)) (bs := (([b0, b1, b2, b3, b4] : List Int32).map (fun c => c.toInt8.toInt32))) (n := 5) g150 (own_old_le O178) c180 c181 c182 V177 (H2.ext O178.2) hzc rfl rfl (by decide) (by decide) hp179 rfl (by decide) (by decide)) (g := (mkF m 181 #[sR a1, sI nn] [(Value.ref ob151), (Value.ref ob148), (Value.ref ob148)])) rfl (by rw [hml]; rfl) (Steps.refl _) (a := ob148) (argsL := [(Value.ref ob151)]) (rest := [(Value.ref ob148)]) (lenOf own_pd1 rfl) rfl (by show 2 * 0 + _ ≤ _; exact Nat.le_of_eq rfl) (hb hby d1_181) (fun _ _ => ⟨rfl, e177, (by decide : 2 + 1 ≤ _), (by decide : 9 + 5 ≤ _)⟩)
              dsimp only [Pt.U, Pt.locs, Pt.cells, Pt.slots] at X179 l179 y179 z179 st179 hQ179
              subst l179 y179 z179
              refine own_Go.by (fun tq kq => st179.trans kq) ?_
              obtain ⟨rfl, N179q, K179q, E179q, C179q, t179, kb179, u179, v179, w179, V179q, A179q⟩ := hQ179
              have N179 := Fr.app N177 N179q
              have O183 := O178.keep K179q (allS g150 all0)
              have K183 := K178.trans K179q (allS (Or.inr z150) all0)
              have g184 : n0 ≤ t179 := Nat.le_trans (own_old_le O178) v179
              have z184 : h0.size ≤ t179 := Nat.le_trans K178.1 v179
              show own_Go _ _ _ _ (T179.setTop (mkF m 184 #[sR a1, sI nn] [(Value.ref ob148)]))
              obtain ⟨fs, hr, hrun, hended, hRE⟩ := Stand.leaveW (s := s) (vm₁ := s.vm) X179 hS0 (Nat.zero_le _) (v := some (Value.ref ob148)) (fun h => by rw [Bd.returns] at h; cases h)
              have R185 := CHr.ext E148 CH0
              have R186 := CHr.ext E151 R185.1
              have Sf187 := Safe.ext E151 R185.1 (Safe.new (Nat.le_of_eq y151.symm))
              have R188 := CHr.wr W157 Sf187 R186.1
              have R189 := CHr.wr W162 (R188.safe A151.lt Sf187) R188.1
              have R190 := CHr.wr W167 ((R188.trans R189).safe A151.lt Sf187) R189.1
              have R191 := CHr.wr W172 (((R188.trans R189).trans R190).safe A151.lt Sf187) R190.1
              have R192 := CHr.wr W177 ((((R188.trans R189).trans R190).trans R191).safe A151.lt Sf187) R191.1
              have Sf193 := Safe.ext E148 CH0 (Safe.new (Nat.le_of_eq y148.symm))
              have R194 := CHr.keep K179q (allS ((((((R186.trans R188).trans R189).trans R190).trans R191).trans R192).safe A148.lt Sf193) all0) R192.1
              have hCR := (((((((R185.trans R186).trans R188).trans R189).trans R190).trans R191).trans R192).trans R194)
              have hCZ : CHr Z consts_1 s.vm s.heap T179.vm T179.heap := by
                rw [hh]
                exact hCR.trans (CHv.at (s := s) (vm0 := s.vm) X179 hZ hEL hCR.1)
              refine own_Go.fin (retOut X179 hx Bd.returns rfl (Or.inr (Or.inr (Or.inr (Or.inr ⟨rfl, rfl, rfl⟩)))) (hb hby d1_184) hr) ⟨hrun, hended, _, _, rfl, ?_, hCZ, own_rew hRE (by decide) (by decide)⟩
              show Q1 Z a1 kB b0 b1 b2 b3 b4 b5 b6 nn zc h0 n0 _ T179.heap _
              exact ⟨ob148, t179, kb179, (5 : Int32), ((([b0, b1, b2, b3, b4] : List Int32).map (fun c => c.toInt8.toInt32)).map Value.int), ([b0, b1, b2, b3, b4] : List Int32), rfl, N179, K183, z150, E179q, C179q, V179q, A179q, ⟨StrChars.Road.codOf (n := 5) rfl (fun x hx => (hp179 x hx).2), hp179, Nat.le_of_ble_eq_true rfl⟩⟩
            ·
              refine own_Go.by (fun tq kq => XS.icmpYes X0.here hx rfl (pc0 := 141) (pc' := 185) rfl (hb hby d1_141) rfl (feq hc141_147).2 (by decide) (by decide) kq) ?_
              refine own_Go.by (fun tq kq => XS.iloadN X0.here hx rfl (hb hby d1_185) rfl kq) ?_
              refine own_Go.by (fun tq kq => XS.bipush X0.here hx rfl (hb hby d1_186) kq) ?_
              show own_Go _ _ _ _ (s₁.setTop (mkF m 188 #[sR a1, sI nn] [(Value.int (6 : Int32)), (Value.int nn)]))
              by_cases hc188_195 : nn = (6 : Int32)
              ·
                refine own_Go.by (fun tq kq => XS.icmpNo X0.here hx rfl (hb hby d1_188) rfl (teq hc188_195).2 kq) ?_
                show own_Go _ _ _ _ (s₁.setTop (mkF m 191 #[sR a1, sI nn] []))
                obtain ⟨T196, h196, X196, e196, E196, A196, D196, -, st196⟩ := newO X0 hx hZ hown (hw _ (List.mem_of_getElem? (i := 5) rfl)) (hw _ (List.mem_of_getElem? (i := 6) rfl)) (hw _ (List.mem_of_getElem? (i := 7) rfl)) e0 (g := (mkF m 191 #[sR a1, sI nn] [])) rfl (hb hby d1_191) (by decide) (by decide)
                obtain ⟨ob196, y196⟩ : ∃ z, z = h0.size := ⟨_, rfl⟩
                rw [← y196] at A196 D196 st196
                refine own_Go.by st196 ?_
                have O197 := O0.ext E196
                have K197 := K0.ext E196
                have g198 : n0 ≤ ob196 := Nat.le_trans (own_old_le O0) (Nat.le_of_eq y196.symm)
                have z198 : h0.size ≤ ob196 := Nat.le_trans K0.1 (Nat.le_of_eq y196.symm)
                have F196_coder : Fld Z h196 ob196 "java/lang/String" "coder" "B" (Value.int (0 : Int32)) := D196 (Or.inr (hw _ (List.mem_of_getElem? (i := 31) rfl))) (ty := .byte) (by decide)
                have F196_value : Fld Z h196 ob196 "java/lang/String" "value" "[B" .null := D196 (Or.inr (hw _ (List.mem_of_getElem? (i := 33) rfl))) (ty := (.array .byte)) (by decide)
                refine own_Go.by (fun tq kq => XS.dup X196.here hx rfl (hb hby d1_194) rfl rfl kq) ?_
                refine own_Go.by (fun tq kq => XS.bipush X196.here hx rfl (hb hby d1_195) kq) ?_
                show own_Go _ _ _ _ (T196.setTop (mkF m 197 #[sR a1, sI nn] [(Value.int (6 : Int32)), (Value.ref ob196), (Value.ref ob196)]))
                obtain ⟨T199, h199, k199, X199, e199, E199, A199, Ea199, st199⟩ := newPE X196 hx hZ (hw _ (List.mem_of_getElem? (i := 0) rfl)) e196 (g := (mkF m 197 #[sR a1, sI nn] [(Value.int (6 : Int32)), (Value.ref ob196), (Value.ref ob196)])) rfl (hb hby d1_197) rfl (by decide : ¬ ((6 : Int32) < (0 : Int32))) (cap := 6) (by decide : (6 : Int32).toNatClampNeg ≤ 6) (by decide) (by decide) (by decide) (ad := "[C") rfl
                obtain ⟨ob199, y199⟩ : ∃ z, z = h196.size := ⟨_, rfl⟩
                rw [← y199] at A199 Ea199 st199
                refine own_Go.by st199 ?_
                have O200 := O197.ext E199
                have K200 := K197.ext E199
                have g201 : n0 ≤ ob199 := Nat.le_trans (own_old_le O197) (Nat.le_of_eq y199.symm)
                have z201 : h0.size ≤ ob199 := Nat.le_trans K197.1 (Nat.le_of_eq y199.symm)
                have V199 : Arv Z h199 ob199 k199 .char (6 : Int32) [(Value.int (0 : Int32)), (Value.int (0 : Int32)), (Value.int (0 : Int32)), (Value.int (0 : Int32)), (Value.int (0 : Int32)), (Value.int (0 : Int32))] (Value.int (0 : Int32)) := (Arv.new A199 (by decide : ¬ ((6 : Int32) < (0 : Int32)))).pad (pad_rep [] (Value.int (0 : Int32)) 6)
                refine own_Go.by (fun tq kq => XS.dup X199.here hx rfl (hb hby d1_199) rfl rfl kq) ?_
                refine own_Go.by (fun tq kq => XS.iconst X199.here hx rfl (hb hby d1_200) kq) ?_
                refine own_Go.by (fun tq kq => XS.aloadN X199.here hx rfl (hb hby d1_201) rfl rfl kq) ?_
                show own_Go _ _ _ _ (T199.setTop (mkF m 202 #[sR a1, sI nn] [(Value.ref a1), (Value.int (0 : Int32)), (Value.ref ob199), (Value.ref ob199), (Value.ref ob196), (Value.ref ob196)]))
                refine own_Go.by (fun tq kq => XS.iconst X199.here hx rfl (hb hby d1_202) kq) ?_
                show own_Go _ _ _ _ (T199.setTop (mkF m 203 #[sR a1, sI nn] [(Value.int (0 : Int32)), (Value.ref a1), (Value.int (0 : Int32)), (Value.ref ob199), (Value.ref ob199), (Value.ref ob196), (Value.ref ob196)]))
                have c202 := ((H0.ext E196).ext E199)
                obtain ⟨cl203, Ar203, q203, S203, M203, Hh203, G203⟩ := id c202
                refine own_Go.by (fun tq kq => X199.caload hx (j := (0 : Int32)) (v := (Value.int b0)) (by rw [e199]; exact Ar203.1) (State.isArrayOf_alike hZ.alike Ar203.2.1) Ar203.2.2 (inb_of S203 ⟨(by decide : ¬ ((0 : Int32) < (0 : Int32))), (by decide : (0 : Int32) < (7 : Int32))⟩) (Has.at Hh203 (inb_of S203 ⟨(by decide : ¬ ((0 : Int32) < (0 : Int32))), (by decide : (0 : Int32) < (7 : Int32))⟩) (rfl : _ = (Value.int b0))) (g := (mkF m 203 #[sR a1, sI nn] [(Value.int (0 : Int32)), (Value.ref a1), (Value.int (0 : Int32)), (Value.ref ob199), (Value.ref ob199), (Value.ref ob196), (Value.ref ob196)])) rfl rfl (hb hby d1_203) _ kq) ?_
                show own_Go _ _ _ _ (T199.setTop (mkF m 204 #[sR a1, sI nn] [(Value.int b0), (Value.int (0 : Int32)), (Value.ref ob199), (Value.ref ob199), (Value.ref ob196), (Value.ref ob196)]))
                obtain ⟨cl204, Ar204, q204, S204, M204, Hh204, G204⟩ := id V199
                obtain ⟨T205, h205, X205, e205, W205, st205⟩ := stC X199 hx hZ e199 Ar204 (j := (0 : Int32)) (inb_of S204 ⟨(by decide : ¬ ((0 : Int32) < (0 : Int32))), (by decide : (0 : Int32) < (6 : Int32))⟩) (g := (mkF m 204 #[sR a1, sI nn] [(Value.int b0), (Value.int (0 : Int32)), (Value.ref ob199), (Value.ref ob199), (Value.ref ob196), (Value.ref ob196)])) rfl rfl (hb hby d1_204)
                refine own_Go.by st205 ?_
                have N205 := Fr.snoc X205 N0 g201
                have O206 := O200.wr W205 g201
                have K206 := K200.wr W205 (Or.inr z201)
                rw [show nar .char b0 = b0 from own_narc (hbn _ (by simp))] at W205
                have V205 : Arv Z h205 ob199 k199 .char (6 : Int32) [(Value.int b0), (Value.int (0 : Int32)), (Value.int (0 : Int32)), (Value.int (0 : Int32)), (Value.int (0 : Int32)), (Value.int (0 : Int32))] (Value.int (0 : Int32)) := Arv.set Ar204 q204 S204 M204 Hh204 G204 (own_fitC (own_narc (hbn _ (by simp)))) W205 0 rfl (Nat.le_of_ble_eq_true rfl)
                refine own_Go.by (fun tq kq => XS.dup X205.here hx rfl (hb hby d1_205) rfl rfl kq) ?_
                refine own_Go.by (fun tq kq => XS.iconst X205.here hx rfl (hb hby d1_206) kq) ?_
                refine own_Go.by (fun tq kq => XS.aloadN X205.here hx rfl (hb hby d1_207) rfl rfl kq) ?_
                show own_Go _ _ _ _ (T205.setTop (mkF m 208 #[sR a1, sI nn] [(Value.ref a1), (Value.int (1 : Int32)), (Value.ref ob199), (Value.ref ob199), (Value.ref ob196), (Value.ref ob196)]))
                refine own_Go.by (fun tq kq => XS.iconst X205.here hx rfl (hb hby d1_208) kq) ?_
                show own_Go _ _ _ _ (T205.setTop (mkF m 209 #[sR a1, sI nn] [(Value.int (1 : Int32)), (Value.ref a1), (Value.int (1 : Int32)), (Value.ref ob199), (Value.ref ob199), (Value.ref ob196), (Value.ref ob196)]))
                have c207 := (c202.other W205 (Nat.ne_of_lt (Nat.lt_of_lt_of_le H0.lt (Nat.le_trans E196.1 (Nat.le_of_eq y199.symm)))))
                obtain ⟨cl208, Ar208, q208, S208, M208, Hh208, G208⟩ := id c207
                refine own_Go.by (fun tq kq => X205.caload hx (j := (1 : Int32)) (v := (Value.int b1)) (by rw [e205]; exact Ar208.1) (State.isArrayOf_alike hZ.alike Ar208.2.1) Ar208.2.2 (inb_of S208 ⟨(by decide : ¬ ((1 : Int32) < (0 : Int32))), (by decide : (1 : Int32) < (7 : Int32))⟩) (Has.at Hh208 (inb_of S208 ⟨(by decide : ¬ ((1 : Int32) < (0 : Int32))), (by decide : (1 : Int32) < (7 : Int32))⟩) (rfl : _ = (Value.int b1))) (g := (mkF m 209 #[sR a1, sI nn] [(Value.int (1 : Int32)), (Value.ref a1), (Value.int (1 : Int32)), (Value.ref ob199), (Value.ref ob199), (Value.ref ob196), (Value.ref ob196)])) rfl rfl (hb hby d1_209) _ kq) ?_
                show own_Go _ _ _ _ (T205.setTop (mkF m 210 #[sR a1, sI nn] [(Value.int b1), (Value.int (1 : Int32)), (Value.ref ob199), (Value.ref ob199), (Value.ref ob196), (Value.ref ob196)]))
                obtain ⟨cl209, Ar209, q209, S209, M209, Hh209, G209⟩ := id V205
                obtain ⟨T210, h210, X210, e210, W210, st210⟩ := stC X205 hx hZ e205 Ar209 (j := (1 : Int32)) (inb_of S209 ⟨(by decide : ¬ ((1 : Int32) < (0 : Int32))), (by decide : (1 : Int32) < (6 : Int32))⟩) (g := (mkF m 210 #[sR a1, sI nn] [(Value.int b1), (Value.int (1 : Int32)), (Value.ref ob199), (Value.ref ob199), (Value.ref ob196), (Value.ref ob196)])) rfl rfl (hb hby d1_210)
                refine own_Go.by st210 ?_
                have N210 := Fr.snoc X210 N205 g201
                have O211 := O206.wr W210 g201
                have K211 := K206.wr W210 (Or.inr z201)
                rw [show nar .char b1 = b1 from own_narc (hbn _ (by simp))] at W210
                have V210 : Arv Z h210 ob199 k199 .char (6 : Int32) [(Value.int b0), (Value.int b1), (Value.int (0 : Int32)), (Value.int (0 : Int32)), (Value.int (0 : Int32)), (Value.int (0 : Int32))] (Value.int (0 : Int32)) := Arv.set Ar209 q209 S209 M209 Hh209 G209 (own_fitC (own_narc (hbn _ (by simp)))) W210 1 rfl (Nat.le_of_ble_eq_true rfl)
                refine own_Go.by (fun tq kq => XS.dup X210.here hx rfl (hb hby d1_211) rfl rfl kq) ?_
                refine own_Go.by (fun tq kq => XS.iconst X210.here hx rfl (hb hby d1_212) kq) ?_
                refine own_Go.by (fun tq kq => XS.aloadN X210.here hx rfl (hb hby d1_213) rfl rfl kq) ?_
                show own_Go _ _ _ _ (T210.setTop (mkF m 214 #[sR a1, sI nn] [(Value.ref a1), (Value.int (2 : Int32)), (Value.ref ob199), (Value.ref ob199), (Value.ref ob196), (Value.ref ob196)]))
                refine own_Go.by (fun tq kq => XS.iconst X210.here hx rfl (hb hby d1_214) kq) ?_
                show own_Go _ _ _ _ (T210.setTop (mkF m 215 #[sR a1, sI nn] [(Value.int (2 : Int32)), (Value.ref a1), (Value.int (2 : Int32)), (Value.ref ob199), (Value.ref ob199), (Value.ref ob196), (Value.ref ob196)]))
                have c212 := (c207.other W210 (Nat.ne_of_lt (Nat.lt_of_lt_of_le H0.lt (Nat.le_trans E196.1 (Nat.le_of_eq y199.symm)))))
                obtain ⟨cl213, Ar213, q213, S213, M213, Hh213, G213⟩ := id c212
                refine own_Go.by (fun tq kq => X210.caload hx (j := (2 : Int32)) (v := (Value.int b2)) (by rw [e210]; exact Ar213.1) (State.isArrayOf_alike hZ.alike Ar213.2.1) Ar213.2.2 (inb_of S213 ⟨(by decide : ¬ ((2 : Int32) < (0 : Int32))), (by decide : (2 : Int32) < (7 : Int32))⟩) (Has.at Hh213 (inb_of S213 ⟨(by decide : ¬ ((2 : Int32) < (0 : Int32))), (by decide : (2 : Int32) < (7 : Int32))⟩) (rfl : _ = (Value.int b2))) (g := (mkF m 215 #[sR a1, sI nn] [(Value.int (2 : Int32)), (Value.ref a1), (Value.int (2 : Int32)), (Value.ref ob199), (Value.ref ob199), (Value.ref ob196), (Value.ref ob196)])) rfl rfl (hb hby d1_215) _ kq) ?_
                show own_Go _ _ _ _ (T210.setTop (mkF m 216 #[sR a1, sI nn] [(Value.int b2), (Value.int (2 : Int32)), (Value.ref ob199), (Value.ref ob199), (Value.ref ob196), (Value.ref ob196)]))
                obtain ⟨cl214, Ar214, q214, S214, M214, Hh214, G214⟩ := id V210
                obtain ⟨T215, h215, X215, e215, W215, st215⟩ := stC X210 hx hZ e210 Ar214 (j := (2 : Int32)) (inb_of S214 ⟨(by decide : ¬ ((2 : Int32) < (0 : Int32))), (by decide : (2 : Int32) < (6 : Int32))⟩) (g := (mkF m 216 #[sR a1, sI nn] [(Value.int b2), (Value.int (2 : Int32)), (Value.ref ob199), (Value.ref ob199), (Value.ref ob196), (Value.ref ob196)])) rfl rfl (hb hby d1_216)
                refine own_Go.by st215 ?_
                have N215 := Fr.snoc X215 N210 g201
                have O216 := O211.wr W215 g201
                have K216 := K211.wr W215 (Or.inr z201)
                rw [show nar .char b2 = b2 from own_narc (hbn _ (by simp))] at W215
                have V215 : Arv Z h215 ob199 k199 .char (6 : Int32) [(Value.int b0), (Value.int b1), (Value.int b2), (Value.int (0 : Int32)), (Value.int (0 : Int32)), (Value.int (0 : Int32))] (Value.int (0 : Int32)) := Arv.set Ar214 q214 S214 M214 Hh214 G214 (own_fitC (own_narc (hbn _ (by simp)))) W215 2 rfl (Nat.le_of_ble_eq_true rfl)
                refine own_Go.by (fun tq kq => XS.dup X215.here hx rfl (hb hby d1_217) rfl rfl kq) ?_
                refine own_Go.by (fun tq kq => XS.iconst X215.here hx rfl (hb hby d1_218) kq) ?_
                refine own_Go.by (fun tq kq => XS.aloadN X215.here hx rfl (hb hby d1_219) rfl rfl kq) ?_
                show own_Go _ _ _ _ (T215.setTop (mkF m 220 #[sR a1, sI nn] [(Value.ref a1), (Value.int (3 : Int32)), (Value.ref ob199), (Value.ref ob199), (Value.ref ob196), (Value.ref ob196)]))
                refine own_Go.by (fun tq kq => XS.iconst X215.here hx rfl (hb hby d1_220) kq) ?_
                show own_Go _ _ _ _ (T215.setTop (mkF m 221 #[sR a1, sI nn] [(Value.int (3 : Int32)), (Value.ref a1), (Value.int (3 : Int32)), (Value.ref ob199), (Value.ref ob199), (Value.ref ob196), (Value.ref ob196)]))
                have c217 := (c212.other W215 (Nat.ne_of_lt (Nat.lt_of_lt_of_le H0.lt (Nat.le_trans E196.1 (Nat.le_of_eq y199.symm)))))
                obtain ⟨cl218, Ar218, q218, S218, M218, Hh218, G218⟩ := id c217
                refine own_Go.by (fun tq kq => X215.caload hx (j := (3 : Int32)) (v := (Value.int b3)) (by rw [e215]; exact Ar218.1) (State.isArrayOf_alike hZ.alike Ar218.2.1) Ar218.2.2 (inb_of S218 ⟨(by decide : ¬ ((3 : Int32) < (0 : Int32))), (by decide : (3 : Int32) < (7 : Int32))⟩) (Has.at Hh218 (inb_of S218 ⟨(by decide : ¬ ((3 : Int32) < (0 : Int32))), (by decide : (3 : Int32) < (7 : Int32))⟩) (rfl : _ = (Value.int b3))) (g := (mkF m 221 #[sR a1, sI nn] [(Value.int (3 : Int32)), (Value.ref a1), (Value.int (3 : Int32)), (Value.ref ob199), (Value.ref ob199), (Value.ref ob196), (Value.ref ob196)])) rfl rfl (hb hby d1_221) _ kq) ?_
                show own_Go _ _ _ _ (T215.setTop (mkF m 222 #[sR a1, sI nn] [(Value.int b3), (Value.int (3 : Int32)), (Value.ref ob199), (Value.ref ob199), (Value.ref ob196), (Value.ref ob196)]))
                obtain ⟨cl219, Ar219, q219, S219, M219, Hh219, G219⟩ := id V215
                obtain ⟨T220, h220, X220, e220, W220, st220⟩ := stC X215 hx hZ e215 Ar219 (j := (3 : Int32)) (inb_of S219 ⟨(by decide : ¬ ((3 : Int32) < (0 : Int32))), (by decide : (3 : Int32) < (6 : Int32))⟩) (g := (mkF m 222 #[sR a1, sI nn] [(Value.int b3), (Value.int (3 : Int32)), (Value.ref ob199), (Value.ref ob199), (Value.ref ob196), (Value.ref ob196)])) rfl rfl (hb hby d1_222)
                refine own_Go.by st220 ?_
                have N220 := Fr.snoc X220 N215 g201
                have O221 := O216.wr W220 g201
                have K221 := K216.wr W220 (Or.inr z201)
                rw [show nar .char b3 = b3 from own_narc (hbn _ (by simp))] at W220
                have V220 : Arv Z h220 ob199 k199 .char (6 : Int32) [(Value.int b0), (Value.int b1), (Value.int b2), (Value.int b3), (Value.int (0 : Int32)), (Value.int (0 : Int32))] (Value.int (0 : Int32)) := Arv.set Ar219 q219 S219 M219 Hh219 G219 (own_fitC (own_narc (hbn _ (by simp)))) W220 3 rfl (Nat.le_of_ble_eq_true rfl)
                refine own_Go.by (fun tq kq => XS.dup X220.here hx rfl (hb hby d1_223) rfl rfl kq) ?_
                refine own_Go.by (fun tq kq => XS.iconst X220.here hx rfl (hb hby d1_224) kq) ?_
                refine own_Go.by (fun tq kq => XS.aloadN X220.here hx rfl (hb hby d1_225) rfl rfl kq) ?_
                show own_Go _ _ _ _ (T220.setTop (mkF m 226 #[sR a1, sI nn] [(Value.ref a1), (Value.int (4 : Int32)), (Value.ref ob199), (Value.ref ob199), (Value.ref ob196), (Value.ref ob196)]))
                refine own_Go.by (fun tq kq => XS.iconst X220.here hx rfl (hb hby d1_226) kq) ?_
                show own_Go _ _ _ _ (T220.setTop (mkF m 227 #[sR a1, sI nn] [(Value.int (4 : Int32)), (Value.ref a1), (Value.int (4 : Int32)), (Value.ref ob199), (Value.ref ob199), (Value.ref ob196), (Value.ref ob196)]))
                have c222 := (c217.other W220 (Nat.ne_of_lt (Nat.lt_of_lt_of_le H0.lt (Nat.le_trans E196.1 (Nat.le_of_eq y199.symm)))))
                obtain ⟨cl223, Ar223, q223, S223, M223, Hh223, G223⟩ := id c222
                refine own_Go.by (fun tq kq => X220.caload hx (j := (4 : Int32)) (v := (Value.int b4)) (by rw [e220]; exact Ar223.1) (State.isArrayOf_alike hZ.alike Ar223.2.1) Ar223.2.2 (inb_of S223 ⟨(by decide : ¬ ((4 : Int32) < (0 : Int32))), (by decide : (4 : Int32) < (7 : Int32))⟩) (Has.at Hh223 (inb_of S223 ⟨(by decide : ¬ ((4 : Int32) < (0 : Int32))), (by decide : (4 : Int32) < (7 : Int32))⟩) (rfl : _ = (Value.int b4))) (g := (mkF m 227 #[sR a1, sI nn] [(Value.int (4 : Int32)), (Value.ref a1), (Value.int (4 : Int32)), (Value.ref ob199), (Value.ref ob199), (Value.ref ob196), (Value.ref ob196)])) rfl rfl (hb hby d1_227) _ kq) ?_
                show own_Go _ _ _ _ (T220.setTop (mkF m 228 #[sR a1, sI nn] [(Value.int b4), (Value.int (4 : Int32)), (Value.ref ob199), (Value.ref ob199), (Value.ref ob196), (Value.ref ob196)]))
                obtain ⟨cl224, Ar224, q224, S224, M224, Hh224, G224⟩ := id V220
                obtain ⟨T225, h225, X225, e225, W225, st225⟩ := stC X220 hx hZ e220 Ar224 (j := (4 : Int32)) (inb_of S224 ⟨(by decide : ¬ ((4 : Int32) < (0 : Int32))), (by decide : (4 : Int32) < (6 : Int32))⟩) (g := (mkF m 228 #[sR a1, sI nn] [(Value.int b4), (Value.int (4 : Int32)), (Value.ref ob199), (Value.ref ob199), (Value.ref ob196), (Value.ref ob196)])) rfl rfl (hb hby d1_228)
                refine own_Go.by st225 ?_
                have N225 := Fr.snoc X225 N220 g201
                have O226 := O221.wr W225 g201
                have K226 := K221.wr W225 (Or.inr z201)
                rw [show nar .char b4 = b4 from own_narc (hbn _ (by simp))] at W225
                have V225 : Arv Z h225 ob199 k199 .char (6 : Int32) [(Value.int b0), (Value.int b1), (Value.int b2), (Value.int b3), (Value.int b4), (Value.int (0 : Int32))] (Value.int (0 : Int32)) := Arv.set Ar224 q224 S224 M224 Hh224 G224 (own_fitC (own_narc (hbn _ (by simp)))) W225 4 rfl (Nat.le_of_ble_eq_true rfl)
                refine own_Go.by (fun tq kq => XS.dup X225.here hx rfl (hb hby d1_229) rfl rfl kq) ?_
                refine own_Go.by (fun tq kq => XS.iconst X225.here hx rfl (hb hby d1_230) kq) ?_
                refine own_Go.by (fun tq kq => XS.aloadN X225.here hx rfl (hb hby d1_231) rfl rfl kq) ?_
                show own_Go _ _ _ _ (T225.setTop (mkF m 232 #[sR a1, sI nn] [(Value.ref a1), (Value.int (5 : Int32)), (Value.ref ob199), (Value.ref ob199), (Value.ref ob196), (Value.ref ob196)]))
                refine own_Go.by (fun tq kq => XS.iconst X225.here hx rfl (hb hby d1_232) kq) ?_
                show own_Go _ _ _ _ (T225.setTop (mkF m 233 #[sR a1, sI nn] [(Value.int (5 : Int32)), (Value.ref a1), (Value.int (5 : Int32)), (Value.ref ob199), (Value.ref ob199), (Value.ref ob196), (Value.ref ob196)]))
                have c227 := (c222.other W225 (Nat.ne_of_lt (Nat.lt_of_lt_of_le H0.lt (Nat.le_trans E196.1 (Nat.le_of_eq y199.symm)))))
                obtain ⟨cl228, Ar228, q228, S228, M228, Hh228, G228⟩ := id c227
                refine own_Go.by (fun tq kq => X225.caload hx (j := (5 : Int32)) (v := (Value.int b5)) (by rw [e225]; exact Ar228.1) (State.isArrayOf_alike hZ.alike Ar228.2.1) Ar228.2.2 (inb_of S228 ⟨(by decide : ¬ ((5 : Int32) < (0 : Int32))), (by decide : (5 : Int32) < (7 : Int32))⟩) (Has.at Hh228 (inb_of S228 ⟨(by decide : ¬ ((5 : Int32) < (0 : Int32))), (by decide : (5 : Int32) < (7 : Int32))⟩) (rfl : _ = (Value.int b5))) (g := (mkF m 233 #[sR a1, sI nn] [(Value.int (5 : Int32)), (Value.ref a1), (Value.int (5 : Int32)), (Value.ref ob199), (Value.ref ob199), (Value.ref ob196), (Value.ref ob196)])) rfl rfl (hb hby d1_233) _ kq) ?_
                show own_Go _ _ _ _ (T225.setTop (mkF m 234 #[sR a1, sI nn] [(Value.int b5), (Value.int (5 : Int32)), (Value.ref ob199), (Value.ref ob199), (Value.ref ob196), (Value.ref ob196)]))
                obtain ⟨cl229, Ar229, q229, S229, M229, Hh229, G229⟩ := id V225
                obtain ⟨T230, h230, X230, e230, W230, st230⟩ := stC X225 hx hZ e225 Ar229 (j := (5 : Int32)) (inb_of S229 ⟨(by decide : ¬ ((5 : Int32) < (0 : Int32))), (by decide : (5 : Int32) < (6 : Int32))⟩) (g := (mkF m 234 #[sR a1, sI nn] [(Value.int b5), (Value.int (5 : Int32)), (Value.ref ob199), (Value.ref ob199), (Value.ref ob196), (Value.ref ob196)])) rfl rfl (hb hby d1_234)
                refine own_Go.by st230 ?_
                have N230 := Fr.snoc X230 N225 g201
                have O231 := O226.wr W230 g201
                have K231 := K226.wr W230 (Or.inr z201)
                rw [show nar .char b5 = b5 from own_narc (hbn _ (by simp))] at W230
                have V230 : Arv Z h230 ob199 k199 .char (6 : Int32) [(Value.int b0), (Value.int b1), (Value.int b2), (Value.int b3), (Value.int b4), (Value.int b5)] (Value.int (0 : Int32)) := Arv.set Ar229 q229 S229 M229 Hh229 G229 (own_fitC (own_narc (hbn _ (by simp)))) W230 5 rfl (Nat.le_of_ble_eq_true rfl)
                show own_Go _ _ _ _ (T230.setTop (mkF m 235 #[sR a1, sI nn] [(Value.ref ob199), (Value.ref ob196), (Value.ref ob196)]))
                have c233 := (((((((A196.ext E199).wr W205).wr W210).wr W215).wr W220).wr W225).wr W230)
                have c234 := (((((((F196_value.ext E199).other W205 (Or.inl (Nat.ne_of_lt (Nat.lt_of_lt_of_le A196.lt (Nat.le_of_eq y199.symm))))).other W210 (Or.inl (Nat.ne_of_lt (Nat.lt_of_lt_of_le A196.lt (Nat.le_of_eq y199.symm))))).other W215 (Or.inl (Nat.ne_of_lt (Nat.lt_of_lt_of_le A196.lt (Nat.le_of_eq y199.symm))))).other W220 (Or.inl (Nat.ne_of_lt (Nat.lt_of_lt_of_le A196.lt (Nat.le_of_eq y199.symm))))).other W225 (Or.inl (Nat.ne_of_lt (Nat.lt_of_lt_of_le A196.lt (Nat.le_of_eq y199.symm))))).other W230 (Or.inl (Nat.ne_of_lt (Nat.lt_of_lt_of_le A196.lt (Nat.le_of_eq y199.symm)))))
                have c235 := (((((((F196_coder.ext E199).other W205 (Or.inl (Nat.ne_of_lt (Nat.lt_of_lt_of_le A196.lt (Nat.le_of_eq y199.symm))))).other W210 (Or.inl (Nat.ne_of_lt (Nat.lt_of_lt_of_le A196.lt (Nat.le_of_eq y199.symm))))).other W215 (Or.inl (Nat.ne_of_lt (Nat.lt_of_lt_of_le A196.lt (Nat.le_of_eq y199.symm))))).other W220 (Or.inl (Nat.ne_of_lt (Nat.lt_of_lt_of_le A196.lt (Nat.le_of_eq y199.symm))))).other W225 (Or.inl (Nat.ne_of_lt (Nat.lt_of_lt_of_le A196.lt (Nat.le_of_eq y199.symm))))).other W230 (Or.inl (Nat.ne_of_lt (Nat.lt_of_lt_of_le A196.lt (Nat.le_of_eq y199.symm)))))
                have hp232 : ∀ c ∈ ([b0, b1, b2, b3, b4, b5] : List Int32), ¬ c < 0 ∧ ¬ (255 : Int32) < c := fun c hc => hbn c (by simp only [List.mem_cons, List.not_mem_nil, or_false] at hc ⊢; rcases hc with rfl | rfl | rfl | rfl | rfl | rfl <;> simp)
                obtain ⟨_, _, ⟨T232, L232, k232, n232⟩, -, X232, ⟨Lc232, hQ232, l232, y232, z232⟩, st232⟩ := X230.specialBack hx (y := (⟨"java/lang/String", "<init>", "([C)V"⟩ : MethodName)) rfl hown (mvT hZ (hw _ (List.mem_of_getElem? (i := 8) rfl))) (mvT hZ (hw _ (List.mem_of_getElem? (i := 9) rfl))) (mvT hZ (hw _ (List.mem_of_getElem? (i := 10) rfl))) (by decide) (StrChars.Road.backV (W := 1) hZ (fun d hd => hw d (own_hws d hd)) (kI := 4) (hw _ (List.mem_of_getElem? (i := 6) rfl)) (cs := ([b0, b1, b2, b3, b4, b5] : List Int32)) (bs := (([b0, b1, b2, b3, b4, b5] : List Int32).map (fun c => c.toInt8.toInt32))) (n := 6) g198 (own_old_le O231) c233 c234 c235 V230 (H2.ext O231.2) hzc rfl rfl (by decide) (by decide) hp232 rfl (by decide) (by decide)) (g := (mkF m 235 #[sR a1, sI nn] [(Value.ref ob199), (Value.ref ob196), (Value.ref ob196)])) rfl (by rw [hml]; rfl) (Steps.refl _) (a := ob196) (argsL := [(Value.ref ob199)]) (rest := [(Value.ref ob196)]) (lenOf own_pd1 rfl) rfl (by show 2 * 0 + _ ≤ _; exact Nat.le_of_eq rfl) (hb hby d1_235) (fun _ _ => ⟨rfl, e230, (by decide : 2 + 1 ≤ _), (by decide : 10 + 6 ≤ _)⟩)
                dsimp only [Pt.U, Pt.locs, Pt.cells, Pt.slots] at X232 l232 y232 z232 st232 hQ232
                subst l232 y232 z232
                refine own_Go.by (fun tq kq => st232.trans kq) ?_
                obtain ⟨rfl, N232q, K232q, E232q, C232q, t232, kb232, u232, v232, w232, V232q, A232q⟩ := hQ232
                have N232 := Fr.app N230 N232q
                have O236 := O231.keep K232q (allS g198 all0)
                have K236 := K231.trans K232q (allS (Or.inr z198) all0)
                have g237 : n0 ≤ t232 := Nat.le_trans (own_old_le O231) v232
                have z237 : h0.size ≤ t232 := Nat.le_trans K231.1 v232
                show own_Go _ _ _ _ (T232.setTop (mkF m 238 #[sR a1, sI nn] [(Value.ref ob196)]))
                obtain ⟨fs, hr, hrun, hended, hRE⟩ := Stand.leaveW (s := s) (vm₁ := s.vm) X232 hS0 (Nat.zero_le _) (v := some (Value.ref ob196)) (fun h => by rw [Bd.returns] at h; cases h)
                have R238 := CHr.ext E196 CH0
                have R239 := CHr.ext E199 R238.1
                have Sf240 := Safe.ext E199 R238.1 (Safe.new (Nat.le_of_eq y199.symm))
                have R241 := CHr.wr W205 Sf240 R239.1
                have R242 := CHr.wr W210 (R241.safe A199.lt Sf240) R241.1
                have R243 := CHr.wr W215 ((R241.trans R242).safe A199.lt Sf240) R242.1
                have R244 := CHr.wr W220 (((R241.trans R242).trans R243).safe A199.lt Sf240) R243.1
                have R245 := CHr.wr W225 ((((R241.trans R242).trans R243).trans R244).safe A199.lt Sf240) R244.1
                have R246 := CHr.wr W230 (((((R241.trans R242).trans R243).trans R244).trans R245).safe A199.lt Sf240) R245.1
                have Sf247 := Safe.ext E196 CH0 (Safe.new (Nat.le_of_eq y196.symm))
                have R248 := CHr.keep K232q (allS (((((((R239.trans R241).trans R242).trans R243).trans R244).trans R245).trans R246).safe A196.lt Sf247) all0) R246.1
                have hCR := ((((((((R238.trans R239).trans R241).trans R242).trans R243).trans R244).trans R245).trans R246).trans R248)
                have hCZ : CHr Z consts_1 s.vm s.heap T232.vm T232.heap := by
                  rw [hh]
                  exact hCR.trans (CHv.at (s := s) (vm0 := s.vm) X232 hZ hEL hCR.1)
                refine own_Go.fin (retOut X232 hx Bd.returns rfl (Or.inr (Or.inr (Or.inr (Or.inr ⟨rfl, rfl, rfl⟩)))) (hb hby d1_238) hr) ⟨hrun, hended, _, _, rfl, ?_, hCZ, own_rew hRE (by decide) (by decide)⟩
                show Q1 Z a1 kB b0 b1 b2 b3 b4 b5 b6 nn zc h0 n0 _ T232.heap _
                exact ⟨ob196, t232, kb232, (6 : Int32), ((([b0, b1, b2, b3, b4, b5] : List Int32).map (fun c => c.toInt8.toInt32)).map Value.int), ([b0, b1, b2, b3, b4, b5] : List Int32), rfl, N232, K236, z198, E232q, C232q, V232q, A232q, ⟨StrChars.Road.codOf (n := 6) rfl (fun x hx => (hp232 x hx).2), hp232, Nat.le_of_ble_eq_true rfl⟩⟩
              ·
                refine own_Go.by (fun tq kq => XS.icmpYes X0.here hx rfl (pc0 := 188) (pc' := 239) rfl (hb hby d1_188) rfl (feq hc188_195).2 (by decide) (by decide) kq) ?_
                show own_Go _ _ _ _ (s₁.setTop (mkF m 239 #[sR a1, sI nn] []))
                obtain ⟨T249, h249, X249, e249, E249, A249, D249, -, st249⟩ := newO X0 hx hZ hown (hw _ (List.mem_of_getElem? (i := 5) rfl)) (hw _ (List.mem_of_getElem? (i := 6) rfl)) (hw _ (List.mem_of_getElem? (i := 7) rfl)) e0 (g := (mkF m 239 #[sR a1, sI nn] [])) rfl (hb hby d1_239) (by decide) (by decide)
                obtain ⟨ob249, y249⟩ : ∃ z, z = h0.size := ⟨_, rfl⟩
                rw [← y249] at A249 D249 st249
                refine own_Go.by st249 ?_
                have O250 := O0.ext E249
                have K250 := K0.ext E249
                have g251 : n0 ≤ ob249 := Nat.le_trans (own_old_le O0) (Nat.le_of_eq y249.symm)
                have z251 : h0.size ≤ ob249 := Nat.le_trans K0.1 (Nat.le_of_eq y249.symm)
                have F249_coder : Fld Z h249 ob249 "java/lang/String" "coder" "B" (Value.int (0 : Int32)) := D249 (Or.inr (hw _ (List.mem_of_getElem? (i := 31) rfl))) (ty := .byte) (by decide)
                have F249_value : Fld Z h249 ob249 "java/lang/String" "value" "[B" .null := D249 (Or.inr (hw _ (List.mem_of_getElem? (i := 33) rfl))) (ty := (.array .byte)) (by decide)
                refine own_Go.by (fun tq kq => XS.dup X249.here hx rfl (hb hby d1_242) rfl rfl kq) ?_
                refine own_Go.by (fun tq kq => XS.bipush X249.here hx rfl (hb hby d1_243) kq) ?_
                show own_Go _ _ _ _ (T249.setTop (mkF m 245 #[sR a1, sI nn] [(Value.int (7 : Int32)), (Value.ref ob249), (Value.ref ob249)]))
                obtain ⟨T252, h252, k252, X252, e252, E252, A252, Ea252, st252⟩ := newPE X249 hx hZ (hw _ (List.mem_of_getElem? (i := 0) rfl)) e249 (g := (mkF m 245 #[sR a1, sI nn] [(Value.int (7 : Int32)), (Value.ref ob249), (Value.ref ob249)])) rfl (hb hby d1_245) rfl (by decide : ¬ ((7 : Int32) < (0 : Int32))) (cap := 7) (by decide : (7 : Int32).toNatClampNeg ≤ 7) (by decide) (by decide) (by decide) (ad := "[C") rfl
                obtain ⟨ob252, y252⟩ : ∃ z, z = h249.size := ⟨_, rfl⟩
                rw [← y252] at A252 Ea252 st252
                refine own_Go.by st252 ?_
                have O253 := O250.ext E252
                have K253 := K250.ext E252
                have g254 : n0 ≤ ob252 := Nat.le_trans (own_old_le O250) (Nat.le_of_eq y252.symm)
                have z254 : h0.size ≤ ob252 := Nat.le_trans K250.1 (Nat.le_of_eq y252.symm)
                have V252 : Arv Z h252 ob252 k252 .char (7 : Int32) [(Value.int (0 : Int32)), (Value.int (0 : Int32)), (Value.int (0 : Int32)), (Value.int (0 : Int32)), (Value.int (0 : Int32)), (Value.int (0 : Int32)), (Value.int (0 : Int32))] (Value.int (0 : Int32)) := (Arv.new A252 (by decide : ¬ ((7 : Int32) < (0 : Int32)))).pad (pad_rep [] (Value.int (0 : Int32)) 7)
                refine own_Go.by (fun tq kq => XS.dup X252.here hx rfl (hb hby d1_247) rfl rfl kq) ?_
                refine own_Go.by (fun tq kq => XS.iconst X252.here hx rfl (hb hby d1_248) kq) ?_
                refine own_Go.by (fun tq kq => XS.aloadN X252.here hx rfl (hb hby d1_249) rfl rfl kq) ?_
                show own_Go _ _ _ _ (T252.setTop (mkF m 250 #[sR a1, sI nn] [(Value.ref a1), (Value.int (0 : Int32)), (Value.ref ob252), (Value.ref ob252), (Value.ref ob249), (Value.ref ob249)]))
                refine own_Go.by (fun tq kq => XS.iconst X252.here hx rfl (hb hby d1_250) kq) ?_
                show own_Go _ _ _ _ (T252.setTop (mkF m 251 #[sR a1, sI nn] [(Value.int (0 : Int32)), (Value.ref a1), (Value.int (0 : Int32)), (Value.ref ob252), (Value.ref ob252), (Value.ref ob249), (Value.ref ob249)]))
                have c255 := ((H0.ext E249).ext E252)
                obtain ⟨cl256, Ar256, q256, S256, M256, Hh256, G256⟩ := id c255
                refine own_Go.by (fun tq kq => X252.caload hx (j := (0 : Int32)) (v := (Value.int b0)) (by rw [e252]; exact Ar256.1) (State.isArrayOf_alike hZ.alike Ar256.2.1) Ar256.2.2 (inb_of S256 ⟨(by decide : ¬ ((0 : Int32) < (0 : Int32))), (by decide : (0 : Int32) < (7 : Int32))⟩) (Has.at Hh256 (inb_of S256 ⟨(by decide : ¬ ((0 : Int32) < (0 : Int32))), (by decide : (0 : Int32) < (7 : Int32))⟩) (rfl : _ = (Value.int b0))) (g := (mkF m 251 #[sR a1, sI nn] [(Value.int (0 : Int32)), (Value.ref a1), (Value.int (0 : Int32)), (Value.ref ob252), (Value.ref ob252), (Value.ref ob249), (Value.ref ob249)])) rfl rfl (hb hby d1_251) _ kq) ?_
                show own_Go _ _ _ _ (T252.setTop (mkF m 252 #[sR a1, sI nn] [(Value.int b0), (Value.int (0 : Int32)), (Value.ref ob252), (Value.ref ob252), (Value.ref ob249), (Value.ref ob249)]))
                obtain ⟨cl257, Ar257, q257, S257, M257, Hh257, G257⟩ := id V252
                obtain ⟨T258, h258, X258, e258, W258, st258⟩ := stC X252 hx hZ e252 Ar257 (j := (0 : Int32)) (inb_of S257 ⟨(by decide : ¬ ((0 : Int32) < (0 : Int32))), (by decide : (0 : Int32) < (7 : Int32))⟩) (g := (mkF m 252 #[sR a1, sI nn] [(Value.int b0), (Value.int (0 : Int32)), (Value.ref ob252), (Value.ref ob252), (Value.ref ob249), (Value.ref ob249)])) rfl rfl (hb hby d1_252)
                refine own_Go.by st258 ?_
                have N258 := Fr.snoc X258 N0 g254
                have O259 := O253.wr W258 g254
                have K259 := K253.wr W258 (Or.inr z254)
                rw [show nar .char b0 = b0 from own_narc (hbn _ (by simp))] at W258
                have V258 : Arv Z h258 ob252 k252 .char (7 : Int32) [(Value.int b0), (Value.int (0 : Int32)), (Value.int (0 : Int32)), (Value.int (0 : Int32)), (Value.int (0 : Int32)), (Value.int (0 : Int32)), (Value.int (0 : Int32))] (Value.int (0 : Int32)) := Arv.set Ar257 q257 S257 M257 Hh257 G257 (own_fitC (own_narc (hbn _ (by simp)))) W258 0 rfl (Nat.le_of_ble_eq_true rfl)
                refine own_Go.by (fun tq kq => XS.dup X258.here hx rfl (hb hby d1_253) rfl rfl kq) ?_
                refine own_Go.by (fun tq kq => XS.iconst X258.here hx rfl (hb hby d1_254) kq) ?_
                refine own_Go.by (fun tq kq => XS.aloadN X258.here hx rfl (hb hby d1_255) rfl rfl kq) ?_
                show own_Go _ _ _ _ (T258.setTop (mkF m 256 #[sR a1, sI nn] [(Value.ref a1), (Value.int (1 : Int32)), (Value.ref ob252), (Value.ref ob252), (Value.ref ob249), (Value.ref ob249)]))
                refine own_Go.by (fun tq kq => XS.iconst X258.here hx rfl (hb hby d1_256) kq) ?_
                show own_Go _ _ _ _ (T258.setTop (mkF m 257 #[sR a1, sI nn] [(Value.int (1 : Int32)), (Value.ref a1), (Value.int (1 : Int32)), (Value.ref ob252), (Value.ref ob252), (Value.ref ob249), (Value.ref ob249)]))
                have c260 := (c255.other W258 (Nat.ne_of_lt (Nat.lt_of_lt_of_le H0.lt (Nat.le_trans E249.1 (Nat.le_of_eq y252.symm)))))
                obtain ⟨cl261, Ar261, q261, S261, M261, Hh261, G261⟩ := id c260
                refine own_Go.by (fun tq kq => X258.caload hx (j := (1 : Int32)) (v := (Value.int b1)) (by rw [e258]; exact Ar261.1) (State.isArrayOf_alike hZ.alike Ar261.2.1) Ar261.2.2 (inb_of S261 ⟨(by decide : ¬ ((1 : Int32) < (0 : Int32))), (by decide : (1 : Int32) < (7 : Int32))⟩) (Has.at Hh261 (inb_of S261 ⟨(by decide : ¬ ((1 : Int32) < (0 : Int32))), (by decide : (1 : Int32) < (7 : Int32))⟩) (rfl : _ = (Value.int b1))) (g := (mkF m 257 #[sR a1, sI nn] [(Value.int (1 : Int32)), (Value.ref a1), (Value.int (1 : Int32)), (Value.ref ob252), (Value.ref ob252), (Value.ref ob249), (Value.ref ob249)])) rfl rfl (hb hby d1_257) _ kq) ?_
                show own_Go _ _ _ _ (T258.setTop (mkF m 258 #[sR a1, sI nn] [(Value.int b1), (Value.int (1 : Int32)), (Value.ref ob252), (Value.ref ob252), (Value.ref ob249), (Value.ref ob249)]))
                obtain ⟨cl262, Ar262, q262, S262, M262, Hh262, G262⟩ := id V258
                obtain ⟨T263, h263, X263, e263, W263, st263⟩ := stC X258 hx hZ e258 Ar262 (j := (1 : Int32)) (inb_of S262 ⟨(by decide : ¬ ((1 : Int32) < (0 : Int32))), (by decide : (1 : Int32) < (7 : Int32))⟩) (g := (mkF m 258 #[sR a1, sI nn] [(Value.int b1), (Value.int (1 : Int32)), (Value.ref ob252), (Value.ref ob252), (Value.ref ob249), (Value.ref ob249)])) rfl rfl (hb hby d1_258)
                refine own_Go.by st263 ?_
                have N263 := Fr.snoc X263 N258 g254
                have O264 := O259.wr W263 g254
                have K264 := K259.wr W263 (Or.inr z254)
                rw [show nar .char b1 = b1 from own_narc (hbn _ (by simp))] at W263
                have V263 : Arv Z h263 ob252 k252 .char (7 : Int32) [(Value.int b0), (Value.int b1), (Value.int (0 : Int32)), (Value.int (0 : Int32)), (Value.int (0 : Int32)), (Value.int (0 : Int32)), (Value.int (0 : Int32))] (Value.int (0 : Int32)) := Arv.set Ar262 q262 S262 M262 Hh262 G262 (own_fitC (own_narc (hbn _ (by simp)))) W263 1 rfl (Nat.le_of_ble_eq_true rfl)
                refine own_Go.by (fun tq kq => XS.dup X263.here hx rfl (hb hby d1_259) rfl rfl kq) ?_
                refine own_Go.by (fun tq kq => XS.iconst X263.here hx rfl (hb hby d1_260) kq) ?_
                refine own_Go.by (fun tq kq => XS.aloadN X263.here hx rfl (hb hby d1_261) rfl rfl kq) ?_
                show own_Go _ _ _ _ (T263.setTop (mkF m 262 #[sR a1, sI nn] [(Value.ref a1), (Value.int (2 : Int32)), (Value.ref ob252), (Value.ref ob252), (Value.ref ob249), (Value.ref ob249)]))
                refine own_Go.by (fun tq kq => XS.iconst X263.here hx rfl (hb hby d1_262) kq) ?_
                show own_Go _ _ _ _ (T263.setTop (mkF m 263 #[sR a1, sI nn] [(Value.int (2 : Int32)), (Value.ref a1), (Value.int (2 : Int32)), (Value.ref ob252), (Value.ref ob252), (Value.ref ob249), (Value.ref ob249)]))
                have c265 := (c260.other W263 (Nat.ne_of_lt (Nat.lt_of_lt_of_le H0.lt (Nat.le_trans E249.1 (Nat.le_of_eq y252.symm)))))
                obtain ⟨cl266, Ar266, q266, S266, M266, Hh266, G266⟩ := id c265
                refine own_Go.by (fun tq kq => X263.caload hx (j := (2 : Int32)) (v := (Value.int b2)) (by rw [e263]; exact Ar266.1) (State.isArrayOf_alike hZ.alike Ar266.2.1) Ar266.2.2 (inb_of S266 ⟨(by decide : ¬ ((2 : Int32) < (0 : Int32))), (by decide : (2 : Int32) < (7 : Int32))⟩) (Has.at Hh266 (inb_of S266 ⟨(by decide : ¬ ((2 : Int32) < (0 : Int32))), (by decide : (2 : Int32) < (7 : Int32))⟩) (rfl : _ = (Value.int b2))) (g := (mkF m 263 #[sR a1, sI nn] [(Value.int (2 : Int32)), (Value.ref a1), (Value.int (2 : Int32)), (Value.ref ob252), (Value.ref ob252), (Value.ref ob249), (Value.ref ob249)])) rfl rfl (hb hby d1_263) _ kq) ?_
                show own_Go _ _ _ _ (T263.setTop (mkF m 264 #[sR a1, sI nn] [(Value.int b2), (Value.int (2 : Int32)), (Value.ref ob252), (Value.ref ob252), (Value.ref ob249), (Value.ref ob249)]))
                obtain ⟨cl267, Ar267, q267, S267, M267, Hh267, G267⟩ := id V263
                obtain ⟨T268, h268, X268, e268, W268, st268⟩ := stC X263 hx hZ e263 Ar267 (j := (2 : Int32)) (inb_of S267 ⟨(by decide : ¬ ((2 : Int32) < (0 : Int32))), (by decide : (2 : Int32) < (7 : Int32))⟩) (g := (mkF m 264 #[sR a1, sI nn] [(Value.int b2), (Value.int (2 : Int32)), (Value.ref ob252), (Value.ref ob252), (Value.ref ob249), (Value.ref ob249)])) rfl rfl (hb hby d1_264)
                refine own_Go.by st268 ?_
                have N268 := Fr.snoc X268 N263 g254
                have O269 := O264.wr W268 g254
                have K269 := K264.wr W268 (Or.inr z254)
                rw [show nar .char b2 = b2 from own_narc (hbn _ (by simp))] at W268
                have V268 : Arv Z h268 ob252 k252 .char (7 : Int32) [(Value.int b0), (Value.int b1), (Value.int b2), (Value.int (0 : Int32)), (Value.int (0 : Int32)), (Value.int (0 : Int32)), (Value.int (0 : Int32))] (Value.int (0 : Int32)) := Arv.set Ar267 q267 S267 M267 Hh267 G267 (own_fitC (own_narc (hbn _ (by simp)))) W268 2 rfl (Nat.le_of_ble_eq_true rfl)
                refine own_Go.by (fun tq kq => XS.dup X268.here hx rfl (hb hby d1_265) rfl rfl kq) ?_
                refine own_Go.by (fun tq kq => XS.iconst X268.here hx rfl (hb hby d1_266) kq) ?_
                refine own_Go.by (fun tq kq => XS.aloadN X268.here hx rfl (hb hby d1_267) rfl rfl kq) ?_
                show own_Go _ _ _ _ (T268.setTop (mkF m 268 #[sR a1, sI nn] [(Value.ref a1), (Value.int (3 : Int32)), (Value.ref ob252), (Value.ref ob252), (Value.ref ob249), (Value.ref ob249)]))
                refine own_Go.by (fun tq kq => XS.iconst X268.here hx rfl (hb hby d1_268) kq) ?_
                show own_Go _ _ _ _ (T268.setTop (mkF m 269 #[sR a1, sI nn] [(Value.int (3 : Int32)), (Value.ref a1), (Value.int (3 : Int32)), (Value.ref ob252), (Value.ref ob252), (Value.ref ob249), (Value.ref ob249)]))
                have c270 := (c265.other W268 (Nat.ne_of_lt (Nat.lt_of_lt_of_le H0.lt (Nat.le_trans E249.1 (Nat.le_of_eq y252.symm)))))
                obtain ⟨cl271, Ar271, q271, S271, M271, Hh271, G271⟩ := id c270
                refine own_Go.by (fun tq kq => X268.caload hx (j := (3 : Int32)) (v := (Value.int b3)) (by rw [e268]; exact Ar271.1) (State.isArrayOf_alike hZ.alike Ar271.2.1) Ar271.2.2 (inb_of S271 ⟨(by decide : ¬ ((3 : Int32) < (0 : Int32))), (by decide : (3 : Int32) < (7 : Int32))⟩) (Has.at Hh271 (inb_of S271 ⟨(by decide : ¬ ((3 : Int32) < (0 : Int32))), (by decide : (3 : Int32) < (7 : Int32))⟩) (rfl : _ = (Value.int b3))) (g := (mkF m 269 #[sR a1, sI nn] [(Value.int (3 : Int32)), (Value.ref a1), (Value.int (3 : Int32)), (Value.ref ob252), (Value.ref ob252), (Value.ref ob249), (Value.ref ob249)])) rfl rfl (hb hby d1_269) _ kq) ?_
                show own_Go _ _ _ _ (T268.setTop (mkF m 270 #[sR a1, sI nn] [(Value.int b3), (Value.int (3 : Int32)), (Value.ref ob252), (Value.ref ob252), (Value.ref ob249), (Value.ref ob249)]))
                obtain ⟨cl272, Ar272, q272, S272, M272, Hh272, G272⟩ := id V268
                obtain ⟨T273, h273, X273, e273, W273, st273⟩ := stC X268 hx hZ e268 Ar272 (j := (3 : Int32)) (inb_of S272 ⟨(by decide : ¬ ((3 : Int32) < (0 : Int32))), (by decide : (3 : Int32) < (7 : Int32))⟩) (g := (mkF m 270 #[sR a1, sI nn] [(Value.int b3), (Value.int (3 : Int32)), (Value.ref ob252), (Value.ref ob252), (Value.ref ob249), (Value.ref ob249)])) rfl rfl (hb hby d1_270)
                refine own_Go.by st273 ?_
                have N273 := Fr.snoc X273 N268 g254
                have O274 := O269.wr W273 g254
                have K274 := K269.wr W273 (Or.inr z254)
                rw [show nar .char b3 = b3 from own_narc (hbn _ (by simp))] at W273
                have V273 : Arv Z h273 ob252 k252 .char (7 : Int32) [(Value.int b0), (Value.int b1), (Value.int b2), (Value.int b3), (Value.int (0 : Int32)), (Value.int (0 : Int32)), (Value.int (0 : Int32))] (Value.int (0 : Int32)) := Arv.set Ar272 q272 S272 M272 Hh272 G272 (own_fitC (own_narc (hbn _ (by simp)))) W273 3 rfl (Nat.le_of_ble_eq_true rfl)
                refine own_Go.by (fun tq kq => XS.dup X273.here hx rfl (hb hby d1_271) rfl rfl kq) ?_
                refine own_Go.by (fun tq kq => XS.iconst X273.here hx rfl (hb hby d1_272) kq) ?_
                refine own_Go.by (fun tq kq => XS.aloadN X273.here hx rfl (hb hby d1_273) rfl rfl kq) ?_
                show own_Go _ _ _ _ (T273.setTop (mkF m 274 #[sR a1, sI nn] [(Value.ref a1), (Value.int (4 : Int32)), (Value.ref ob252), (Value.ref ob252), (Value.ref ob249), (Value.ref ob249)]))
                refine own_Go.by (fun tq kq => XS.iconst X273.here hx rfl (hb hby d1_274) kq) ?_
                show own_Go _ _ _ _ (T273.setTop (mkF m 275 #[sR a1, sI nn] [(Value.int (4 : Int32)), (Value.ref a1), (Value.int (4 : Int32)), (Value.ref ob252), (Value.ref ob252), (Value.ref ob249), (Value.ref ob249)]))
                have c275 := (c270.other W273 (Nat.ne_of_lt (Nat.lt_of_lt_of_le H0.lt (Nat.le_trans E249.1 (Nat.le_of_eq y252.symm)))))
                obtain ⟨cl276, Ar276, q276, S276, M276, Hh276, G276⟩ := id c275
                refine own_Go.by (fun tq kq => X273.caload hx (j := (4 : Int32)) (v := (Value.int b4)) (by rw [e273]; exact Ar276.1) (State.isArrayOf_alike hZ.alike Ar276.2.1) Ar276.2.2 (inb_of S276 ⟨(by decide : ¬ ((4 : Int32) < (0 : Int32))), (by decide : (4 : Int32) < (7 : Int32))⟩) (Has.at Hh276 (inb_of S276 ⟨(by decide : ¬ ((4 : Int32) < (0 : Int32))), (by decide : (4 : Int32) < (7 : Int32))⟩) (rfl : _ = (Value.int b4))) (g := (mkF m 275 #[sR a1, sI nn] [(Value.int (4 : Int32)), (Value.ref a1), (Value.int (4 : Int32)), (Value.ref ob252), (Value.ref ob252), (Value.ref ob249), (Value.ref ob249)])) rfl rfl (hb hby d1_275) _ kq) ?_
                show own_Go _ _ _ _ (T273.setTop (mkF m 276 #[sR a1, sI nn] [(Value.int b4), (Value.int (4 : Int32)), (Value.ref ob252), (Value.ref ob252), (Value.ref ob249), (Value.ref ob249)]))
                obtain ⟨cl277, Ar277, q277, S277, M277, Hh277, G277⟩ := id V273
                obtain ⟨T278, h278, X278, e278, W278, st278⟩ := stC X273 hx hZ e273 Ar277 (j := (4 : Int32)) (inb_of S277 ⟨(by decide : ¬ ((4 : Int32) < (0 : Int32))), (by decide : (4 : Int32) < (7 : Int32))⟩) (g := (mkF m 276 #[sR a1, sI nn] [(Value.int b4), (Value.int (4 : Int32)), (Value.ref ob252), (Value.ref ob252), (Value.ref ob249), (Value.ref ob249)])) rfl rfl (hb hby d1_276)
                refine own_Go.by st278 ?_
                have N278 := Fr.snoc X278 N273 g254
                have O279 := O274.wr W278 g254
                have K279 := K274.wr W278 (Or.inr z254)
                rw [show nar .char b4 = b4 from own_narc (hbn _ (by simp))] at W278
                have V278 : Arv Z h278 ob252 k252 .char (7 : Int32) [(Value.int b0), (Value.int b1), (Value.int b2), (Value.int b3), (Value.int b4), (Value.int (0 : Int32)), (Value.int (0 : Int32))] (Value.int (0 : Int32)) := Arv.set Ar277 q277 S277 M277 Hh277 G277 (own_fitC (own_narc (hbn _ (by simp)))) W278 4 rfl (Nat.le_of_ble_eq_true rfl)
                refine own_Go.by (fun tq kq => XS.dup X278.here hx rfl (hb hby d1_277) rfl rfl kq) ?_
                refine own_Go.by (fun tq kq => XS.iconst X278.here hx rfl (hb hby d1_278) kq) ?_
                refine own_Go.by (fun tq kq => XS.aloadN X278.here hx rfl (hb hby d1_279) rfl rfl kq) ?_
                show own_Go _ _ _ _ (T278.setTop (mkF m 280 #[sR a1, sI nn] [(Value.ref a1), (Value.int (5 : Int32)), (Value.ref ob252), (Value.ref ob252), (Value.ref ob249), (Value.ref ob249)]))
                refine own_Go.by (fun tq kq => XS.iconst X278.here hx rfl (hb hby d1_280) kq) ?_
                show own_Go _ _ _ _ (T278.setTop (mkF m 281 #[sR a1, sI nn] [(Value.int (5 : Int32)), (Value.ref a1), (Value.int (5 : Int32)), (Value.ref ob252), (Value.ref ob252), (Value.ref ob249), (Value.ref ob249)]))
                have c280 := (c275.other W278 (Nat.ne_of_lt (Nat.lt_of_lt_of_le H0.lt (Nat.le_trans E249.1 (Nat.le_of_eq y252.symm)))))
                obtain ⟨cl281, Ar281, q281, S281, M281, Hh281, G281⟩ := id c280
                refine own_Go.by (fun tq kq => X278.caload hx (j := (5 : Int32)) (v := (Value.int b5)) (by rw [e278]; exact Ar281.1) (State.isArrayOf_alike hZ.alike Ar281.2.1) Ar281.2.2 (inb_of S281 ⟨(by decide : ¬ ((5 : Int32) < (0 : Int32))), (by decide : (5 : Int32) < (7 : Int32))⟩) (Has.at Hh281 (inb_of S281 ⟨(by decide : ¬ ((5 : Int32) < (0 : Int32))), (by decide : (5 : Int32) < (7 : Int32))⟩) (rfl : _ = (Value.int b5))) (g := (mkF m 281 #[sR a1, sI nn] [(Value.int (5 : Int32)), (Value.ref a1), (Value.int (5 : Int32)), (Value.ref ob252), (Value.ref ob252), (Value.ref ob249), (Value.ref ob249)])) rfl rfl (hb hby d1_281) _ kq) ?_
                show own_Go _ _ _ _ (T278.setTop (mkF m 282 #[sR a1, sI nn] [(Value.int b5), (Value.int (5 : Int32)), (Value.ref ob252), (Value.ref ob252), (Value.ref ob249), (Value.ref ob249)]))
                obtain ⟨cl282, Ar282, q282, S282, M282, Hh282, G282⟩ := id V278
                obtain ⟨T283, h283, X283, e283, W283, st283⟩ := stC X278 hx hZ e278 Ar282 (j := (5 : Int32)) (inb_of S282 ⟨(by decide : ¬ ((5 : Int32) < (0 : Int32))), (by decide : (5 : Int32) < (7 : Int32))⟩) (g := (mkF m 282 #[sR a1, sI nn] [(Value.int b5), (Value.int (5 : Int32)), (Value.ref ob252), (Value.ref ob252), (Value.ref ob249), (Value.ref ob249)])) rfl rfl (hb hby d1_282)
                refine own_Go.by st283 ?_
                have N283 := Fr.snoc X283 N278 g254
                have O284 := O279.wr W283 g254
                have K284 := K279.wr W283 (Or.inr z254)
                rw [show nar .char b5 = b5 from own_narc (hbn _ (by simp))] at W283
                have V283 : Arv Z h283 ob252 k252 .char (7 : Int32) [(Value.int b0), (Value.int b1), (Value.int b2), (Value.int b3), (Value.int b4), (Value.int b5), (Value.int (0 : Int32))] (Value.int (0 : Int32)) := Arv.set Ar282 q282 S282 M282 Hh282 G282 (own_fitC (own_narc (hbn _ (by simp)))) W283 5 rfl (Nat.le_of_ble_eq_true rfl)
                refine own_Go.by (fun tq kq => XS.dup X283.here hx rfl (hb hby d1_283) rfl rfl kq) ?_
                refine own_Go.by (fun tq kq => XS.bipush X283.here hx rfl (hb hby d1_284) kq) ?_
                refine own_Go.by (fun tq kq => XS.aloadN X283.here hx rfl (hb hby d1_286) rfl rfl kq) ?_
                show own_Go _ _ _ _ (T283.setTop (mkF m 287 #[sR a1, sI nn] [(Value.ref a1), (Value.int (6 : Int32)), (Value.ref ob252), (Value.ref ob252), (Value.ref ob249), (Value.ref ob249)]))
                refine own_Go.by (fun tq kq => XS.bipush X283.here hx rfl (hb hby d1_287) kq) ?_
                show own_Go _ _ _ _ (T283.setTop (mkF m 289 #[sR a1, sI nn] [(Value.int (6 : Int32)), (Value.ref a1), (Value.int (6 : Int32)), (Value.ref ob252), (Value.ref ob252), (Value.ref ob249), (Value.ref ob249)]))
                have c285 := (c280.other W283 (Nat.ne_of_lt (Nat.lt_of_lt_of_le H0.lt (Nat.le_trans E249.1 (Nat.le_of_eq y252.symm)))))
                obtain ⟨cl286, Ar286, q286, S286, M286, Hh286, G286⟩ := id c285
                refine own_Go.by (fun tq kq => X283.caload hx (j := (6 : Int32)) (v := (Value.int b6)) (by rw [e283]; exact Ar286.1) (State.isArrayOf_alike hZ.alike Ar286.2.1) Ar286.2.2 (inb_of S286 ⟨(by decide : ¬ ((6 : Int32) < (0 : Int32))), (by decide : (6 : Int32) < (7 : Int32))⟩) (Has.at Hh286 (inb_of S286 ⟨(by decide : ¬ ((6 : Int32) < (0 : Int32))), (by decide : (6 : Int32) < (7 : Int32))⟩) (rfl : _ = (Value.int b6))) (g := (mkF m 289 #[sR a1, sI nn] [(Value.int (6 : Int32)), (Value.ref a1), (Value.int (6 : Int32)), (Value.ref ob252), (Value.ref ob252), (Value.ref ob249), (Value.ref ob249)])) rfl rfl (hb hby d1_289) _ kq) ?_
                show own_Go _ _ _ _ (T283.setTop (mkF m 290 #[sR a1, sI nn] [(Value.int b6), (Value.int (6 : Int32)), (Value.ref ob252), (Value.ref ob252), (Value.ref ob249), (Value.ref ob249)]))
                obtain ⟨cl287, Ar287, q287, S287, M287, Hh287, G287⟩ := id V283
                obtain ⟨T288, h288, X288, e288, W288, st288⟩ := stC X283 hx hZ e283 Ar287 (j := (6 : Int32)) (inb_of S287 ⟨(by decide : ¬ ((6 : Int32) < (0 : Int32))), (by decide : (6 : Int32) < (7 : Int32))⟩) (g := (mkF m 290 #[sR a1, sI nn] [(Value.int b6), (Value.int (6 : Int32)), (Value.ref ob252), (Value.ref ob252), (Value.ref ob249), (Value.ref ob249)])) rfl rfl (hb hby d1_290)
                refine own_Go.by st288 ?_
                have N288 := Fr.snoc X288 N283 g254
                have O289 := O284.wr W288 g254
                have K289 := K284.wr W288 (Or.inr z254)
                rw [show nar .char b6 = b6 from own_narc (hbn _ (by simp))] at W288
                have V288 : Arv Z h288 ob252 k252 .char (7 : Int32) [(Value.int b0), (Value.int b1), (Value.int b2), (Value.int b3), (Value.int b4), (Value.int b5), (Value.int b6)] (Value.int (0 : Int32)) := Arv.set Ar287 q287 S287 M287 Hh287 G287 (own_fitC (own_narc (hbn _ (by simp)))) W288 6 rfl (Nat.le_of_ble_eq_true rfl)
                show own_Go _ _ _ _ (T288.setTop (mkF m 291 #[sR a1, sI nn] [(Value.ref ob252), (Value.ref ob249), (Value.ref ob249)]))
                have c291 := ((((((((A249.ext E252).wr W258).wr W263).wr W268).wr W273).wr W278).wr W283).wr W288)
                have c292 := ((((((((F249_value.ext E252).other W258 (Or.inl (Nat.ne_of_lt (Nat.lt_of_lt_of_le A249.lt (Nat.le_of_eq y252.symm))))).other W263 (Or.inl (Nat.ne_of_lt (Nat.lt_of_lt_of_le A249.lt (Nat.le_of_eq y252.symm))))).other W268 (Or.inl (Nat.ne_of_lt (Nat.lt_of_lt_of_le A249.lt (Nat.le_of_eq y252.symm))))).other W273 (Or.inl (Nat.ne_of_lt (Nat.lt_of_lt_of_le A249.lt (Nat.le_of_eq y252.symm))))).other W278 (Or.inl (Nat.ne_of_lt (Nat.lt_of_lt_of_le A249.lt (Nat.le_of_eq y252.symm))))).other W283 (Or.inl (Nat.ne_of_lt (Nat.lt_of_lt_of_le A249.lt (Nat.le_of_eq y252.symm))))).other W288 (Or.inl (Nat.ne_of_lt (Nat.lt_of_lt_of_le A249.lt (Nat.le_of_eq y252.symm)))))
                have c293 := ((((((((F249_coder.ext E252).other W258 (Or.inl (Nat.ne_of_lt (Nat.lt_of_lt_of_le A249.lt (Nat.le_of_eq y252.symm))))).other W263 (Or.inl (Nat.ne_of_lt (Nat.lt_of_lt_of_le A249.lt (Nat.le_of_eq y252.symm))))).other W268 (Or.inl (Nat.ne_of_lt (Nat.lt_of_lt_of_le A249.lt (Nat.le_of_eq y252.symm))))).other W273 (Or.inl (Nat.ne_of_lt (Nat.lt_of_lt_of_le A249.lt (Nat.le_of_eq y252.symm))))).other W278 (Or.inl (Nat.ne_of_lt (Nat.lt_of_lt_of_le A249.lt (Nat.le_of_eq y252.symm))))).other W283 (Or.inl (Nat.ne_of_lt (Nat.lt_of_lt_of_le A249.lt (Nat.le_of_eq y252.symm))))).other W288 (Or.inl (Nat.ne_of_lt (Nat.lt_of_lt_of_le A249.lt (Nat.le_of_eq y252.symm)))))
                have hp290 : ∀ c ∈ ([b0, b1, b2, b3, b4, b5, b6] : List Int32), ¬ c < 0 ∧ ¬ (255 : Int32) < c := fun c hc => hbn c (by simp only [List.mem_cons, List.not_mem_nil, or_false] at hc ⊢; rcases hc with rfl | rfl | rfl | rfl | rfl | rfl | rfl <;> simp)
                obtain ⟨_, _, ⟨T290, L290, k290, n290⟩, -, X290, ⟨Lc290, hQ290, l290, y290, z290⟩, st290⟩ := X288.specialBack hx (y := (⟨"java/lang/String", "<init>", "([C)V"⟩ : MethodName)) rfl hown (mvT hZ (hw _ (List.mem_of_getElem? (i := 8) rfl))) (mvT hZ (hw _ (List.mem_of_getElem? (i := 9) rfl))) (mvT hZ (hw _ (List.mem_of_getElem? (i := 10) rfl))) (by decide) (StrChars.Road.backV (W := 1) hZ (fun d hd => hw d (own_hws d hd)) (kI := 4) (hw _ (List.mem_of_getElem? (i := 6) rfl)) (cs := ([b0, b1, b2, b3, b4, b5, b6] : List Int32)) (bs := (([b0, b1, b2, b3, b4, b5, b6] : List Int32).map (fun c => c.toInt8.toInt32))) (n := 7) g251 (own_old_le O289) c291 c292 c293 V288 (H2.ext O289.2) hzc rfl rfl (by decide) (by decide) hp290 rfl (by decide) (by decide)) (g := (mkF m 291 #[sR a1, sI nn] [(Value.ref ob252), (Value.ref ob249), (Value.ref ob249)])) rfl (by rw [hml]; rfl) (Steps.refl _) (a := ob249) (argsL := [(Value.ref ob252)]) (rest := [(Value.ref ob249)]) (lenOf own_pd1 rfl) rfl (by show 2 * 0 + _ ≤ _; exact Nat.le_of_eq rfl) (hb hby d1_291) (fun _ _ => ⟨rfl, e288, (by decide : 2 + 1 ≤ _), (by decide : 11 + 7 ≤ _)⟩)
                dsimp only [Pt.U, Pt.locs, Pt.cells, Pt.slots] at X290 l290 y290 z290 st290 hQ290
                subst l290 y290 z290
                refine own_Go.by (fun tq kq => st290.trans kq) ?_
                obtain ⟨rfl, N290q, K290q, E290q, C290q, t290, kb290, u290, v290, w290, V290q, A290q⟩ := hQ290
                have N290 := Fr.app N288 N290q
                have O294 := O289.keep K290q (allS g251 all0)
                have K294 := K289.trans K290q (allS (Or.inr z251) all0)
                have g295 : n0 ≤ t290 := Nat.le_trans (own_old_le O289) v290
                have z295 : h0.size ≤ t290 := Nat.le_trans K289.1 v290
                show own_Go _ _ _ _ (T290.setTop (mkF m 294 #[sR a1, sI nn] [(Value.ref ob249)]))
                obtain ⟨fs, hr, hrun, hended, hRE⟩ := Stand.leaveW (s := s) (vm₁ := s.vm) X290 hS0 (Nat.zero_le _) (v := some (Value.ref ob249)) (fun h => by rw [Bd.returns] at h; cases h)
                have R296 := CHr.ext E249 CH0
                have R297 := CHr.ext E252 R296.1
                have Sf298 := Safe.ext E252 R296.1 (Safe.new (Nat.le_of_eq y252.symm))
                have R299 := CHr.wr W258 Sf298 R297.1
                have R300 := CHr.wr W263 (R299.safe A252.lt Sf298) R299.1
                have R301 := CHr.wr W268 ((R299.trans R300).safe A252.lt Sf298) R300.1
                have R302 := CHr.wr W273 (((R299.trans R300).trans R301).safe A252.lt Sf298) R301.1
                have R303 := CHr.wr W278 ((((R299.trans R300).trans R301).trans R302).safe A252.lt Sf298) R302.1
                have R304 := CHr.wr W283 (((((R299.trans R300).trans R301).trans R302).trans R303).safe A252.lt Sf298) R303.1
                have R305 := CHr.wr W288 ((((((R299.trans R300).trans R301).trans R302).trans R303).trans R304).safe A252.lt Sf298) R304.1
                have Sf306 := Safe.ext E249 CH0 (Safe.new (Nat.le_of_eq y249.symm))
                have R307 := CHr.keep K290q (allS ((((((((R297.trans R299).trans R300).trans R301).trans R302).trans R303).trans R304).trans R305).safe A249.lt Sf306) all0) R305.1
                have hCR := (((((((((R296.trans R297).trans R299).trans R300).trans R301).trans R302).trans R303).trans R304).trans R305).trans R307)
                have hCZ : CHr Z consts_1 s.vm s.heap T290.vm T290.heap := by
                  rw [hh]
                  exact hCR.trans (CHv.at (s := s) (vm0 := s.vm) X290 hZ hEL hCR.1)
                refine own_Go.fin (retOut X290 hx Bd.returns rfl (Or.inr (Or.inr (Or.inr (Or.inr ⟨rfl, rfl, rfl⟩)))) (hb hby d1_294) hr) ⟨hrun, hended, _, _, rfl, ?_, hCZ, own_rew hRE (by decide) (by decide)⟩
                show Q1 Z a1 kB b0 b1 b2 b3 b4 b5 b6 nn zc h0 n0 _ T290.heap _
                exact ⟨ob249, t290, kb290, (7 : Int32), ((([b0, b1, b2, b3, b4, b5, b6] : List Int32).map (fun c => c.toInt8.toInt32)).map Value.int), ([b0, b1, b2, b3, b4, b5, b6] : List Int32), rfl, N290, K294, z251, E290q, C290q, V290q, A290q, ⟨StrChars.Road.codOf (n := 7) rfl (fun x hx => (hp290 x hx).2), hp290, Nat.le_of_ble_eq_true rfl⟩⟩

theorem d11_0 : decode prog_48_method_1_code 0 = .ok (.getstatic 13, 3) := by decide +kernel
theorem d11_3 : decode prog_48_method_1_code 3 = .ok (.invokevirtual 17, 3) := by decide +kernel
theorem d11_6 : decode prog_48_method_1_code 6 = .ok (.checkcast 18, 3) := by decide +kernel
theorem d11_9 : decode prog_48_method_1_code 9 = .ok (.areturn, 1) := by decide +kernel
theorem own_pn_com_example_concordat_concordat_server_Operation_Kind : plainName "com/example/concordat/concordat/server/Operation$Kind" = true := by first | (simp [plainName, overriddenIn]; done) | decide +kernel
theorem own_ef_11 (m : MethodId)  : entryFrame m #[] 0 = mkF m 0 #[] [] := by first | (simp [entryFrame, mkF, argsToLocals, Value.category]; done) | rfl
def Q11 (Z : State) (aV : Addr) (aP : Addr) (aI : Addr) (aG : Addr) (kV : ClassId) (h0 : Heap) (n0 : Nat) (v : Option Value) (h : Heap) (L : List Loc) : Prop := ∃ (b : Addr), v = some (Value.ref b) ∧ Fr n0 L ∧ Keep h0 h [] ∧ (h0.size ≤ b) ∧ (Exa Z h b "[Lcom/example/concordat/concordat/server/Operation$Kind;") ∧ (Arv Z h b kV (.object "com/example/concordat/concordat/server/Operation$Kind") (3 : Int32) [(Value.ref aP), (Value.ref aI), (Value.ref aG)] .null)
set_option maxRecDepth 65536 in
set_option maxHeartbeats 40000000 in
theorem rm11 (l : Launch) (Z : State) (a0 : Array Value) (hw : ∀ d ∈ tables_1, d.before a0 Z = true) (ws : List Jvm.Cond) (aV : Addr) (aP : Addr) (aI : Addr) (aG : Addr) (kV : ClassId) (h0 : Heap) (n0 : Nat) (O0 : Old Z n0 h0) (H0 : Sta Z Z.heap "com/example/concordat/concordat/server/Operation$Kind" "$VALUES" "[Lcom/example/concordat/concordat/server/Operation$Kind;" (Value.ref aV)) (H1 : Arv Z Z.heap aV kV (.object "com/example/concordat/concordat/server/Operation$Kind") (3 : Int32) [(Value.ref aP), (Value.ref aI), (Value.ref aG)] .null) (H2 : Exa Z Z.heap aV "[Lcom/example/concordat/concordat/server/Operation$Kind;") :
    MetFree l (⟨"com/example/concordat/concordat/server/Operation$Kind", "values", "()[Lcom/example/concordat/concordat/server/Operation$Kind;"⟩ : MethodName) (head1 (Jvm.Cond.code (⟨"com/example/concordat/concordat/server/Operation$Kind", "values", "()[Lcom/example/concordat/concordat/server/Operation$Kind;"⟩ : MethodName) prog_48_method_1_code 0 (some (.array (.object "com/example/concordat/concordat/server/Operation$Kind"))) :: ws) ({ frames := 1, cells := 1, slots := 3, locals := 14 } : Room)) (fun a U => a = #[] ∧ Z.Warmed39 U.vm ∧ U.heap = h0) (fun _ _ _ _ _ => True) (fun _ U o U' => ∃ v L, o = .returned v ∧ Q11 Z aV aP aI aG kV h0 n0 v U'.heap L ∧ FrameEnd U o U' L ({ frames := 1, cells := 1, slots := 3, locals := 14 } : Room).cells ({ frames := 1, cells := 1, slots := 3, locals := 14 } : Room).slots) := by
  refine MetFree.of_bodySF (plainFor_of_name own_pn_com_example_concordat_concordat_server_Operation_Kind) hisR ?_
  intro p e s m args below meth c s₁ Bd hml0 hP hK
  obtain ⟨rfl, hZ, hh⟩ := hP
  have hx := Bd.exec
  have hby := Bd.bytes
  have hml : c.maxLocals = 0 := hml0
  have hown : s.vm.findClass "com/example/concordat/concordat/server/Operation$Kind" = some m.cls := findClass_of_methodNamed Bd.named
  have hnm := (name_of_methodNamed Bd.named Bd.method).1
  have X0 : Stand p l e ({ frames := 1, cells := 1, slots := 3, locals := 14 } : Room) s m #[] below meth c s₁ [] 0 0 := Stand.of_body Bd
  have e0 : s₁.heap = h0 := by rw [← hh, Bd.state]; rfl
  have N0 := Fr.nil n0
  have K0 : Keep h0 h0 [] := Keep.refl h0 []
  show own_Go _ _ _ _ (s₁.setTop (entryFrame m #[] 0))
  refine own_Go.by (fun tq kq => castTop (own_ef_11 m ) kq) ?_
  show own_Go _ _ _ _ (s₁.setTop (mkF m 0 #[] []))
  obtain ⟨T1, X1, e1, st1⟩ := getS2 X0 hx hZ hown (host := "") (Or.inl (hw _ (List.mem_of_getElem? (i := 56) rfl))) Via.refl e0 (H0.ext O0.2) (g := (mkF m 0 #[] [])) rfl (hb hby d11_0)
  refine own_Go.by st1 ?_
  show own_Go _ _ _ _ (T1.setTop (mkF m 3 #[] [(Value.ref aV)]))
  obtain ⟨T2, h2, X2, e2, E2, A2, Ea2, st2⟩ := cloneH X1 hx hZ hown (hw _ (List.mem_of_getElem? (i := 58) rfl)) (hw _ (List.mem_of_getElem? (i := 59) rfl)) (hw _ (List.mem_of_getElem? (i := 63) rfl)) (hw _ (List.mem_of_getElem? (i := 61) rfl)) (hw _ (List.mem_of_getElem? (i := 62) rfl)) (hw _ (List.mem_of_getElem? (i := 64) rfl)) e1 (Arv.arh (H1.ext O0.2)) (H2.ext O0.2) (g := (mkF m 3 #[] [(Value.ref aV)])) rfl (by rw [hml]; rfl) rfl (hb hby d11_3) (by decide) (W := 0) (cap := 3) (by show 2 * 0 + _ ≤ _; exact Nat.le_of_eq rfl) (by decide) (by decide) (by decide) (by decide)
  obtain ⟨ob2, y2⟩ : ∃ z, z = h0.size := ⟨_, rfl⟩
  rw [← y2] at A2 Ea2 st2
  refine own_Go.by st2 ?_
  have O3 := O0.ext E2
  have K3 := K0.ext E2
  have g4 : n0 ≤ ob2 := Nat.le_trans (own_old_le O0) (Nat.le_of_eq y2.symm)
  have z4 : h0.size ≤ ob2 := Nat.le_trans K0.1 (Nat.le_of_eq y2.symm)
  have V2 : Arv Z h2 ob2 kV (.object "com/example/concordat/concordat/server/Operation$Kind") (3 : Int32) [(Value.ref aP), (Value.ref aI), (Value.ref aG)] .null := A2
  show own_Go _ _ _ _ (T2.setTop (mkF m 6 #[] [(Value.ref ob2)]))
  obtain ⟨T5, X5, e5, st5⟩ := castY X2 hx hZ hown (hw _ (List.mem_of_getElem? (i := 68) rfl)) e2 (Ins.self Ea2) (g := (mkF m 6 #[] [(Value.ref ob2)])) rfl rfl (hb hby d11_6)
  refine own_Go.by st5 ?_
  show own_Go _ _ _ _ (T5.setTop (mkF m 9 #[] [(Value.ref ob2)]))
  obtain ⟨fs, hr, hrun, hended, hW, hsame⟩ := X5.leave (v := some (Value.ref ob2)) (fun h => by rw [Bd.returns] at h; cases h)
  refine own_Go.fin (retOut X5 hx Bd.returns rfl (Or.inr (Or.inr (Or.inr (Or.inr ⟨rfl, rfl, rfl⟩)))) (hb hby d11_9) hr) ⟨hrun, hended, _, _, rfl, ?_, ⟨_, rfl⟩, hW, hsame.mono (by decide) (by decide)⟩
  show Q11 Z aV aP aI aG kV h0 n0 _ T5.heap _
  rw [e5]
  exact ⟨ob2, rfl, N0, K3, z4, Ea2, V2⟩

theorem d8_0 : decode jdk_42_method_66_code 0 = .ok (.aload_n 0, 1) := by decide +kernel
theorem d8_1 : decode jdk_42_method_66_code 1 = .ok (.aload_n 1, 1) := by decide +kernel
theorem d8_2 : decode jdk_42_method_66_code 2 = .ok (.if_acmp .ne 5, 3) := by decide +kernel
theorem d8_7 : decode jdk_42_method_66_code 7 = .ok (.aload_n 1, 1) := by decide +kernel
theorem d8_8 : decode jdk_42_method_66_code 8 = .ok (.instanceof 10, 3) := by decide +kernel
theorem d8_11 : decode jdk_42_method_66_code 11 = .ok (.ifCond .eq 43, 3) := by decide +kernel
theorem d8_54 : decode jdk_42_method_66_code 54 = .ok (.iconst 0, 1) := by decide +kernel
theorem d8_55 : decode jdk_42_method_66_code 55 = .ok (.ireturn, 1) := by decide +kernel
theorem own_ef_8_n (m : MethodId) (a1 : Addr) : entryFrame m #[(Value.ref a1), .null] 3 = mkF m 0 #[sR a1, .val .null, .unset] [] := by first | (simp [entryFrame, mkF, argsToLocals, Value.category]; done) | rfl
def Q8_n (Z : State) (a1 : Addr) (h0 : Heap) (n0 : Nat) (v : Option Value) (h : Heap) (L : List Loc) : Prop := v = some (Value.int (0 : Int32)) ∧ Fr n0 L ∧ h = h0
set_option maxRecDepth 65536 in
set_option maxHeartbeats 40000000 in
theorem rm8_n (l : Launch) (Z : State) (a0 : Array Value) (hw : ∀ d ∈ tables_1, d.before a0 Z = true) (ws : List Jvm.Cond) (a1 : Addr) (h0 : Heap) (n0 : Nat) (O0 : Old Z n0 h0) :
    MetFree l (⟨"java/lang/String", "equals", "(Ljava/lang/Object;)Z"⟩ : MethodName) (head1 (Jvm.Cond.code (⟨"java/lang/String", "equals", "(Ljava/lang/Object;)Z"⟩ : MethodName) jdk_42_method_66_code 3 (some .boolean) :: ws) ({ frames := 0, cells := 0, slots := 0, locals := 0 } : Room)) (fun a U => a = #[(Value.ref a1), .null] ∧ Z.Warmed39 U.vm ∧ U.heap = h0) (fun _ _ _ _ _ => True) (fun _ U o U' => ∃ v L, o = .returned v ∧ Q8_n Z a1 h0 n0 v U'.heap L ∧ FrameEnd U o U' L ({ frames := 0, cells := 0, slots := 0, locals := 0 } : Room).cells ({ frames := 0, cells := 0, slots := 0, locals := 0 } : Room).slots) := by
  refine MetFree.of_bodySF (plainFor_of_name own_pn_java_lang_String) hisR ?_
  intro p e s m args below meth c s₁ Bd hml0 hP hK
  obtain ⟨rfl, hZ, hh⟩ := hP
  have hx := Bd.exec
  have hby := Bd.bytes
  have hml : c.maxLocals = 3 := hml0
  have hown : s.vm.findClass "java/lang/String" = some m.cls := findClass_of_methodNamed Bd.named
  have hnm := (name_of_methodNamed Bd.named Bd.method).1
  have X0 : Stand p l e ({ frames := 0, cells := 0, slots := 0, locals := 0 } : Room) s m #[(Value.ref a1), .null] below meth c s₁ [] 0 0 := Stand.of_body Bd
  have e0 : s₁.heap = h0 := by rw [← hh, Bd.state]; rfl
  have N0 := Fr.nil n0
  have K0 : Keep h0 h0 [] := Keep.refl h0 []
  show own_Go _ _ _ _ (s₁.setTop (entryFrame m #[(Value.ref a1), .null] 3))
  refine own_Go.by (fun tq kq => castTop (own_ef_8_n m a1) kq) ?_
  show own_Go _ _ _ _ (s₁.setTop (mkF m 0 #[sR a1, .val .null, .unset] []))
  refine own_Go.by (fun tq kq => XS.aloadN X0.here hx rfl (hb hby d8_0) rfl rfl kq) ?_
  refine own_Go.by (fun tq kq => XS.aloadN X0.here hx rfl (hb hby d8_1) rfl rfl kq) ?_
  show own_Go _ _ _ _ (s₁.setTop (mkF m 2 #[sR a1, .val .null, .unset] [.null, (Value.ref a1)]))
  refine own_Go.by (fun tq kq => Jvm.RoadKit.acmp (g := (mkF m 2 #[sR a1, .val .null, .unset] [.null, (Value.ref a1)])) X0 hx rfl rfl rfl (pc0 := 2) (pc' := 7) (same := false) rfl (hb hby d8_2) rfl (decide_eq_false nofun) (by decide) (by decide) kq) ?_
  refine own_Go.by (fun tq kq => XS.aloadN X0.here hx rfl (hb hby d8_7) rfl rfl kq) ?_
  show own_Go _ _ _ _ (s₁.setTop (mkF m 8 #[sR a1, .val .null, .unset] [.null]))
  refine own_Go.by (fun tq kq => X0.instanceofNull hx (g := (mkF m 8 #[sR a1, .val .null, .unset] [.null])) rfl rfl (hb hby d8_8) _ kq) ?_
  show own_Go _ _ _ _ (s₁.setTop (mkF m 11 #[sR a1, .val .null, .unset] [(Value.int (0 : Int32))]))
  refine own_Go.by (fun tq kq => XS.ifYes X0.here hx rfl (pc0 := 11) (pc' := 54) rfl (hb hby d8_11) rfl ((if0 _ _).trans (teq (by decide : (0 : Int32) = (0 : Int32))).1) (by decide) (by decide) kq) ?_
  refine own_Go.by (fun tq kq => XS.iconst X0.here hx rfl (hb hby d8_54) kq) ?_
  show own_Go _ _ _ _ (s₁.setTop (mkF m 55 #[sR a1, .val .null, .unset] [(Value.int (0 : Int32))]))
  obtain ⟨fs, hr, hrun, hended, hW, hsame⟩ := X0.leave (v := some (Value.int (nar .boolean (0 : Int32)))) (fun h => by rw [Bd.returns] at h; cases h)
  refine own_Go.fin (retN X0 hx (t := .boolean) Bd.returns (by simp) (hb hby d8_55) hr) ⟨hrun, hended, _, _, rfl, ?_, ⟨_, rfl⟩, hW, hsame.mono (by decide) (by decide)⟩
  show Q8_n Z a1 h0 n0 _ s₁.heap _
  rw [e0]
  exact ⟨rfl, N0, rfl⟩

theorem own_pd2 : parseMethodDescriptor "()[Lcom/example/concordat/concordat/server/Operation$Kind;" = some ⟨[], some (.array (.object "com/example/concordat/concordat/server/Operation$Kind"))⟩ := by decide +kernel
theorem own_pd3 : parseMethodDescriptor "(Ljava/lang/Object;)Z" = some ⟨[(.object "java/lang/Object")], some .boolean⟩ := by decide +kernel
theorem d10_0 : decode prog_48_method_4_code 0 = .ok (.invokestatic 36, 3) := by decide +kernel
theorem d10_3 : decode prog_48_method_4_code 3 = .ok (.astore_n 1, 1) := by decide +kernel
theorem d10_4 : decode prog_48_method_4_code 4 = .ok (.aload_n 1, 1) := by decide +kernel
theorem d10_5 : decode prog_48_method_4_code 5 = .ok (.arraylength, 1) := by decide +kernel
theorem d10_6 : decode prog_48_method_4_code 6 = .ok (.istore_n 2, 1) := by decide +kernel
theorem d10_7 : decode prog_48_method_4_code 7 = .ok (.iconst 0, 1) := by decide +kernel
theorem d10_8 : decode prog_48_method_4_code 8 = .ok (.istore_n 3, 1) := by decide +kernel
theorem d10_9 : decode prog_48_method_4_code 9 = .ok (.iload_n 3, 1) := by decide +kernel
theorem d10_10 : decode prog_48_method_4_code 10 = .ok (.iload_n 2, 1) := by decide +kernel
theorem d10_11 : decode prog_48_method_4_code 11 = .ok (.if_icmp .ge 29, 3) := by decide +kernel
theorem d10_14 : decode prog_48_method_4_code 14 = .ok (.aload_n 1, 1) := by decide +kernel
theorem d10_15 : decode prog_48_method_4_code 15 = .ok (.iload_n 3, 1) := by decide +kernel
theorem d10_16 : decode prog_48_method_4_code 16 = .ok (.aaload, 1) := by decide +kernel
theorem d10_17 : decode prog_48_method_4_code 17 = .ok (.astore 4, 2) := by decide +kernel
theorem d10_19 : decode prog_48_method_4_code 19 = .ok (.aload 4, 2) := by decide +kernel
theorem d10_21 : decode prog_48_method_4_code 21 = .ok (.getfield 32, 3) := by decide +kernel
theorem d10_24 : decode prog_48_method_4_code 24 = .ok (.aload_n 0, 1) := by decide +kernel
theorem d10_25 : decode prog_48_method_4_code 25 = .ok (.invokevirtual 40, 3) := by decide +kernel
theorem d10_28 : decode prog_48_method_4_code 28 = .ok (.ifCond .eq 6, 3) := by decide +kernel
theorem d10_31 : decode prog_48_method_4_code 31 = .ok (.aload 4, 2) := by decide +kernel
theorem d10_33 : decode prog_48_method_4_code 33 = .ok (.areturn, 1) := by decide +kernel
theorem d10_34 : decode prog_48_method_4_code 34 = .ok (.iinc 3 1, 3) := by decide +kernel
theorem d10_37 : decode prog_48_method_4_code 37 = .ok (.goto (-28), 3) := by decide +kernel
theorem d10_40 : decode prog_48_method_4_code 40 = .ok (.aconst_null, 1) := by decide +kernel
theorem d10_41 : decode prog_48_method_4_code 41 = .ok (.areturn, 1) := by decide +kernel
theorem own_ef_10_s (m : MethodId) (a1 : Addr) : entryFrame m #[(Value.ref a1)] 5 = mkF m 0 #[sR a1, .unset, .unset, .unset, .unset] [] := by first | (simp [entryFrame, mkF, argsToLocals, Value.category]; done) | rfl
def Q10_s (Z : State) (a1 : Addr) (t : Addr) (kb : ClassId) (N2 : Int32) (vs2 : List Value) (cs : List Int32) (zc : Int32) (aV : Addr) (aP : Addr) (aI : Addr) (aG : Addr) (kV : ClassId) (uP : Addr) (tP : Addr) (kP : ClassId) (uI : Addr) (tI : Addr) (kI : ClassId) (uG : Addr) (tG : Addr) (kG : ClassId) (h0 : Heap) (n0 : Nat) (v : Option Value) (h : Heap) (L : List Loc) : Prop := v = some (own_pick cs aP aI aG) ∧ Fr n0 L ∧ Keep h0 h []
set_option maxRecDepth 65536 in
set_option maxHeartbeats 40000000 in
theorem rm10_s (l : Launch) (Z : State) (a0 : Array Value) (hw : ∀ d ∈ tables_1, d.before a0 Z = true) (ws : List Jvm.Cond) (a1 : Addr) (t : Addr) (kb : ClassId) (N2 : Int32) (vs2 : List Value) (cs : List Int32) (zc : Int32) (aV : Addr) (aP : Addr) (aI : Addr) (aG : Addr) (kV : ClassId) (uP : Addr) (tP : Addr) (kP : ClassId) (uI : Addr) (tI : Addr) (kI : ClassId) (uG : Addr) (tG : Addr) (kG : ClassId) (h0 : Heap) (n0 : Nat) (O0 : Old Z n0 h0) (H0 : Exa Z h0 a1 "java/lang/String") (H1 : Fld Z h0 a1 "java/lang/String" "coder" "B" (Value.int (0 : Int32))) (H2 : Fld Z h0 a1 "java/lang/String" "value" "[B" (Value.ref t)) (H3 : Arv Z h0 t kb .byte N2 vs2 (Value.int (0 : Int32))) (hcod : StrChars.Road.CodA cs (0 : Int32) N2 vs2 ∧ (∀ c ∈ cs, ¬ c < 0 ∧ ¬ (255 : Int32) < c) ∧ cs.length ≤ 4000) (H5 : Sta Z Z.heap "java/lang/String" "COMPACT_STRINGS" "Z" (Value.int zc)) (hzc : ¬ (zc = (0 : Int32))) (H7 : Sta Z Z.heap "com/example/concordat/concordat/server/Operation$Kind" "$VALUES" "[Lcom/example/concordat/concordat/server/Operation$Kind;" (Value.ref aV)) (H8 : Arv Z Z.heap aV kV (.object "com/example/concordat/concordat/server/Operation$Kind") (3 : Int32) [(Value.ref aP), (Value.ref aI), (Value.ref aG)] .null) (H9 : Exa Z Z.heap aV "[Lcom/example/concordat/concordat/server/Operation$Kind;") (H10 : Exa Z Z.heap aP "com/example/concordat/concordat/server/Operation$Kind") (H11 : Fld Z Z.heap aP "com/example/concordat/concordat/server/Operation$Kind" "kindName" "Ljava/lang/String;" (Value.ref uP)) (H12 : Exa Z Z.heap uP "java/lang/String") (H13 : Fld Z Z.heap uP "java/lang/String" "coder" "B" (Value.int (0 : Int32))) (H14 : Fld Z Z.heap uP "java/lang/String" "value" "[B" (Value.ref tP)) (H15 : Arv Z Z.heap tP kP .byte (3 : Int32) [(Value.int (112 : Int32)), (Value.int (117 : Int32)), (Value.int (116 : Int32))] (Value.int (0 : Int32))) (H16 : Exa Z Z.heap aI "com/example/concordat/concordat/server/Operation$Kind") (H17 : Fld Z Z.heap aI "com/example/concordat/concordat/server/Operation$Kind" "kindName" "Ljava/lang/String;" (Value.ref uI)) (H18 : Exa Z Z.heap uI "java/lang/String") (H19 : Fld Z Z.heap uI "java/lang/String" "coder" "B" (Value.int (0 : Int32))) (H20 : Fld Z Z.heap uI "java/lang/String" "value" "[B" (Value.ref tI)) (H21 : Arv Z Z.heap tI kI .byte (6 : Int32) [(Value.int (105 : Int32)), (Value.int (110 : Int32)), (Value.int (115 : Int32)), (Value.int (101 : Int32)), (Value.int (114 : Int32)), (Value.int (116 : Int32))] (Value.int (0 : Int32))) (H22 : Exa Z Z.heap aG "com/example/concordat/concordat/server/Operation$Kind") (H23 : Fld Z Z.heap aG "com/example/concordat/concordat/server/Operation$Kind" "kindName" "Ljava/lang/String;" (Value.ref uG)) (H24 : Exa Z Z.heap uG "java/lang/String") (H25 : Fld Z Z.heap uG "java/lang/String" "coder" "B" (Value.int (0 : Int32))) (H26 : Fld Z Z.heap uG "java/lang/String" "value" "[B" (Value.ref tG)) (H27 : Arv Z Z.heap tG kG .byte (3 : Int32) [(Value.int (103 : Int32)), (Value.int (101 : Int32)), (Value.int (116 : Int32))] (Value.int (0 : Int32))) :
    MetFree l (⟨"com/example/concordat/concordat/server/Operation$Kind", "byName", "(Ljava/lang/String;)Lcom/example/concordat/concordat/server/Operation$Kind;"⟩ : MethodName) (head1 (Jvm.Cond.code (⟨"com/example/concordat/concordat/server/Operation$Kind", "byName", "(Ljava/lang/String;)Lcom/example/concordat/concordat/server/Operation$Kind;"⟩ : MethodName) prog_48_method_4_code 5 (some (.object "com/example/concordat/concordat/server/Operation$Kind")) :: ws) ({ frames := 2, cells := 1, slots := 3, locals := 28 } : Room)) (fun a U => a = #[(Value.ref a1)] ∧ Z.Warmed39 U.vm ∧ U.heap = h0) (fun _ _ _ _ _ => True) (fun _ U o U' => ∃ v L, o = .returned v ∧ Q10_s Z a1 t kb N2 vs2 cs zc aV aP aI aG kV uP tP kP uI tI kI uG tG kG h0 n0 v U'.heap L ∧ FrameEnd U o U' L ({ frames := 2, cells := 1, slots := 3, locals := 28 } : Room).cells ({ frames := 2, cells := 1, slots := 3, locals := 28 } : Room).slots) := by
  refine MetFree.of_bodySF (plainFor_of_name own_pn_com_example_concordat_concordat_server_Operation_Kind) hisR ?_
  intro p e s m args below meth c s₁ Bd hml0 hP hK
  obtain ⟨rfl, hZ, hh⟩ := hP
  have hx := Bd.exec
  have hby := Bd.bytes
  have hml : c.maxLocals = 5 := hml0
  have hown : s.vm.findClass "com/example/concordat/concordat/server/Operation$Kind" = some m.cls := findClass_of_methodNamed Bd.named
  have hnm := (name_of_methodNamed Bd.named Bd.method).1
  have X0 : Stand p l e ({ frames := 2, cells := 1, slots := 3, locals := 28 } : Room) s m #[(Value.ref a1)] below meth c s₁ [] 0 0 := Stand.of_body Bd
  have e0 : s₁.heap = h0 := by rw [← hh, Bd.state]; rfl
  have N0 := Fr.nil n0
  have K0 : Keep h0 h0 [] := Keep.refl h0 []
  show own_Go _ _ _ _ (s₁.setTop (entryFrame m #[(Value.ref a1)] 5))
  refine own_Go.by (fun tq kq => castTop (own_ef_10_s m a1) kq) ?_
  show own_Go _ _ _ _ (s₁.setTop (mkF m 0 #[sR a1, .unset, .unset, .unset, .unset] []))
  obtain ⟨_, _, ⟨T1, L1, k1, n1⟩, -, X1, ⟨Lc1, hQ1, l1, y1, z1⟩, st1⟩ := Jvm.LawKit.callS X0 hx (y := (⟨"com/example/concordat/concordat/server/Operation$Kind", "values", "()[Lcom/example/concordat/concordat/server/Operation$Kind;"⟩ : MethodName)) hown (mvT hZ (hw _ (List.mem_of_getElem? (i := 53) rfl))) (mvT hZ (hw _ (List.mem_of_getElem? (i := 54) rfl))) (mvT hZ (hw _ (List.mem_of_getElem? (i := 48) rfl))) (mvT hZ (hw _ (List.mem_of_getElem? (i := 55) rfl))) (by decide) (backOf (W := 0) (rm11 l Z a0 hw [] aV aP aI aG kV h0 n0 O0 H7 H8 H9) hZ (hw _ (List.mem_of_getElem? (i := 55) rfl)) (hw _ (List.mem_of_getElem? (i := 48) rfl)) (by decide) (by decide)) (g := (mkF m 0 #[sR a1, .unset, .unset, .unset, .unset] [])) rfl (by rw [hml]; rfl) (argsL := []) (rest := []) (lenOf own_pd2 rfl) rfl (by show 2 * 0 + _ ≤ _; exact Nat.le_of_eq rfl) (hb hby d10_0) (fun _ _ => ⟨rfl, e0, (by decide : 0 + 1 ≤ _), (by decide : 0 + 3 ≤ _)⟩)
  dsimp only [Pt.U, Pt.locs, Pt.cells, Pt.slots] at X1 l1 y1 z1 st1 hQ1
  subst l1 y1 z1
  refine own_Go.by st1 ?_
  obtain ⟨b_1, rfl, N1q, K1q, p1_0, p1_1, p1_2⟩ := hQ1
  have N1 := Fr.app N0 N1q
  have O2 := O0.keep K1q all0
  have K2 := K0.trans K1q all0
  have g3 : n0 ≤ b_1 := Nat.le_trans (own_old_le O0) p1_0
  have z3 : h0.size ≤ b_1 := Nat.le_trans K0.1 p1_0
  refine own_Go.by (fun tq kq => XS.astoreN X1.here hx rfl (hb hby d10_3) rfl rfl (l' := #[sR a1, sR b_1, .unset, .unset, .unset]) rfl kq) ?_
  refine own_Go.by (fun tq kq => XS.aloadN X1.here hx rfl (hb hby d10_4) rfl rfl kq) ?_
  show own_Go _ _ _ _ (T1.setTop (mkF m 5 #[sR a1, sR b_1, .unset, .unset, .unset] [(Value.ref b_1)]))
  obtain ⟨cl4, Ar4, q4, S4, M4, Hh4, G4⟩ := id p1_2
  refine own_Go.by (fun tq kq => X1.arraylength hx Ar4.1 (State.isArrayOf_alike hZ.alike Ar4.2.1) (g := (mkF m 5 #[sR a1, sR b_1, .unset, .unset, .unset] [(Value.ref b_1)])) rfl rfl (hb hby d10_5) _ kq) ?_
  rw [len_of S4 M4]
  refine own_Go.by (fun tq kq => XS.istoreN X1.here hx rfl (hb hby d10_6) rfl (l' := #[sR a1, sR b_1, sI (3 : Int32), .unset, .unset]) rfl kq) ?_
  refine own_Go.by (fun tq kq => XS.iconst X1.here hx rfl (hb hby d10_7) kq) ?_
  refine own_Go.by (fun tq kq => XS.istoreN X1.here hx rfl (hb hby d10_8) rfl (l' := #[sR a1, sR b_1, sI (3 : Int32), sI (0 : Int32), .unset]) rfl kq) ?_
  show own_Go _ _ _ _ (T1.setTop (mkF m 9 #[sR a1, sR b_1, sI (3 : Int32), sI (0 : Int32), .unset] []))
  refine own_Go.by (fun tq kq => XS.iloadN X1.here hx rfl (hb hby d10_9) rfl kq) ?_
  refine own_Go.by (fun tq kq => XS.iloadN X1.here hx rfl (hb hby d10_10) rfl kq) ?_
  show own_Go _ _ _ _ (T1.setTop (mkF m 11 #[sR a1, sR b_1, sI (3 : Int32), sI (0 : Int32), .unset] [(Value.int (3 : Int32)), (Value.int (0 : Int32))]))
  refine own_Go.by (fun tq kq => XS.icmpNo X1.here hx rfl (hb hby d10_11) rfl (tlt (by decide : (0 : Int32) < (3 : Int32))).2.1 kq) ?_
  refine own_Go.by (fun tq kq => XS.aloadN X1.here hx rfl (hb hby d10_14) rfl rfl kq) ?_
  refine own_Go.by (fun tq kq => XS.iloadN X1.here hx rfl (hb hby d10_15) rfl kq) ?_
  show own_Go _ _ _ _ (T1.setTop (mkF m 16 #[sR a1, sR b_1, sI (3 : Int32), sI (0 : Int32), .unset] [(Value.int (0 : Int32)), (Value.ref b_1)]))
  obtain ⟨cl5, Ar5, q5, S5, M5, Hh5, G5⟩ := id p1_2
  refine own_Go.by (fun tq kq => X1.aaload hx (j := (0 : Int32)) (v := (Value.ref aP)) Ar5.1 (State.isArrayOf_alike hZ.alike Ar5.2.1) rfl Ar5.2.2 (inb_of S5 ⟨(by decide : ¬ ((0 : Int32) < (0 : Int32))), (by decide : (0 : Int32) < (3 : Int32))⟩) (Has.at Hh5 (inb_of S5 ⟨(by decide : ¬ ((0 : Int32) < (0 : Int32))), (by decide : (0 : Int32) < (3 : Int32))⟩) (rfl : _ = (Value.ref aP))) (g := (mkF m 16 #[sR a1, sR b_1, sI (3 : Int32), sI (0 : Int32), .unset] [(Value.int (0 : Int32)), (Value.ref b_1)])) rfl rfl (hb hby d10_16) _ kq) ?_
  refine own_Go.by (fun tq kq => XS.astore X1.here hx rfl (hb hby d10_17) rfl rfl (l' := #[sR a1, sR b_1, sI (3 : Int32), sI (0 : Int32), sR aP]) rfl kq) ?_
  refine own_Go.by (fun tq kq => XS.aload X1.here hx rfl (hb hby d10_19) rfl rfl kq) ?_
  show own_Go _ _ _ _ (T1.setTop (mkF m 21 #[sR a1, sR b_1, sI (3 : Int32), sI (0 : Int32), sR aP] [(Value.ref aP)]))
  obtain ⟨T6, X6, e6, st6⟩ := getF X1 hx hZ hown (host := "") (Or.inl (hw _ (List.mem_of_getElem? (i := 70) rfl))) Via.refl rfl (H11.ext O2.2) (g := (mkF m 21 #[sR a1, sR b_1, sI (3 : Int32), sI (0 : Int32), sR aP] [(Value.ref aP)])) rfl rfl (hb hby d10_21)
  refine own_Go.by st6 ?_
  refine own_Go.by (fun tq kq => XS.aloadN X6.here hx rfl (hb hby d10_24) rfl rfl kq) ?_
  show own_Go _ _ _ _ (T6.setTop (mkF m 25 #[sR a1, sR b_1, sI (3 : Int32), sI (0 : Int32), sR aP] [(Value.ref a1), (Value.ref uP)]))
  have c8 := (H0.keep K1q)
  have c9 := (H2.keep K1q nin0)
  have c10 := (H1.keep K1q nin0)
  have c11 := (H3.keep K1q nin0)
  obtain ⟨cq7, kq7, q7a, q7b, q7c⟩ := isOf hZ e6 (H12.ext O2.2)
  obtain ⟨_, _, ⟨T7, L7, k7, n7⟩, -, X7, ⟨Lc7, hQ7, l7, y7, z7⟩, st7⟩ := X6.virtualBack hx (y := (⟨"java/lang/String", "equals", "(Ljava/lang/Object;)Z"⟩ : MethodName)) (z := (⟨"java/lang/String", "equals", "(Ljava/lang/Object;)Z"⟩ : MethodName)) hown (mvT hZ (hw _ (List.mem_of_getElem? (i := 72) rfl))) (mvT hZ (hw _ (List.mem_of_getElem? (i := 38) rfl))) (notFace_of_selects (args := #[]) (mvT hZ (hw _ (List.mem_of_getElem? (i := 40) rfl)))) (mvT hZ (hw _ (List.mem_of_getElem? (i := 40) rfl))) (mvT hZ (hw _ (List.mem_of_getElem? (i := 39) rfl))) (by decide) (StrChars.Road.eqW (W := 0) hZ (fun d hd => hw d (own_heq d hd)) (kI := 4) (hw _ (List.mem_of_getElem? (i := 6) rfl)) (H12.ext O2.2) (H14.ext O2.2) (H13.ext O2.2) (H15.ext O2.2) own_cod_put.1 (own_up _ own_cod_put.2.1) own_cod_put.2.2 c8 c9 c10 c11 hcod.1 (own_up _ hcod.2.1) hcod.2.2 (H5.ext O2.2) hzc (by decide) (by decide)) q7a q7c (g := (mkF m 25 #[sR a1, sR b_1, sI (3 : Int32), sI (0 : Int32), sR aP] [(Value.ref a1), (Value.ref uP)])) rfl (by rw [hml]; rfl) (Steps.refl _) (argsL := [(Value.ref a1)]) (rest := []) (lenOf own_pd3 rfl) rfl (by show 2 * 0 + _ ≤ _; exact Nat.le_of_eq rfl) (hb hby d10_25) (fun _ _ => ⟨rfl, e6, (by decide : 1 + 0 ≤ _), (by decide : 3 + 0 ≤ _)⟩)
  dsimp only [Pt.U, Pt.locs, Pt.cells, Pt.slots] at X7 l7 y7 z7 st7 hQ7
  subst l7 y7 z7
  refine own_Go.by (fun tq kq => st7.trans kq) ?_
  obtain ⟨hv7, rfl, e7⟩ := hQ7
  obtain ⟨q7, rfl, heq7⟩ := own_eqv hv7
  have N7 := Fr.app N1 (Fr.nil n0)
  show own_Go _ _ _ _ (T7.setTop (mkF m 28 #[sR a1, sR b_1, sI (3 : Int32), sI (0 : Int32), sR aP] [(Value.int q7)]))
  by_cases hc28_12 : q7 = (0 : Int32)
  ·
    refine own_Go.by (fun tq kq => XS.ifYes X7.here hx rfl (pc0 := 28) (pc' := 34) rfl (hb hby d10_28) rfl ((if0 _ _).trans (teq hc28_12).1) (by decide) (by decide) kq) ?_
    show own_Go _ _ _ _ (T7.setTop (mkF m 34 #[sR a1, sR b_1, sI (3 : Int32), sI (0 : Int32), sR aP] []))
    refine own_Go.by (fun tq kq => XS.iinc X7.here hx rfl (hb hby d10_34) rfl (l' := #[sR a1, sR b_1, sI (3 : Int32), sI (1 : Int32), sR aP]) rfl kq) ?_
    refine own_Go.by (fun tq kq => XS.goto X7.here hx rfl (pc0 := 37) (pc' := 9) rfl (hb hby d10_37) (by decide) (by decide) kq) ?_
    refine own_Go.by (fun tq kq => XS.iloadN X7.here hx rfl (hb hby d10_9) rfl kq) ?_
    refine own_Go.by (fun tq kq => XS.iloadN X7.here hx rfl (hb hby d10_10) rfl kq) ?_
    show own_Go _ _ _ _ (T7.setTop (mkF m 11 #[sR a1, sR b_1, sI (3 : Int32), sI (1 : Int32), sR aP] [(Value.int (3 : Int32)), (Value.int (1 : Int32))]))
    refine own_Go.by (fun tq kq => XS.icmpNo X7.here hx rfl (hb hby d10_11) rfl (tlt (by decide : (1 : Int32) < (3 : Int32))).2.1 kq) ?_
    refine own_Go.by (fun tq kq => XS.aloadN X7.here hx rfl (hb hby d10_14) rfl rfl kq) ?_
    refine own_Go.by (fun tq kq => XS.iloadN X7.here hx rfl (hb hby d10_15) rfl kq) ?_
    show own_Go _ _ _ _ (T7.setTop (mkF m 16 #[sR a1, sR b_1, sI (3 : Int32), sI (1 : Int32), sR aP] [(Value.int (1 : Int32)), (Value.ref b_1)]))
    obtain ⟨cl13, Ar13, q13, S13, M13, Hh13, G13⟩ := id p1_2
    refine own_Go.by (fun tq kq => X7.aaload hx (j := (1 : Int32)) (v := (Value.ref aI)) (by rw [e7]; exact Ar13.1) (State.isArrayOf_alike hZ.alike Ar13.2.1) rfl Ar13.2.2 (inb_of S13 ⟨(by decide : ¬ ((1 : Int32) < (0 : Int32))), (by decide : (1 : Int32) < (3 : Int32))⟩) (Has.at Hh13 (inb_of S13 ⟨(by decide : ¬ ((1 : Int32) < (0 : Int32))), (by decide : (1 : Int32) < (3 : Int32))⟩) (rfl : _ = (Value.ref aI))) (g := (mkF m 16 #[sR a1, sR b_1, sI (3 : Int32), sI (1 : Int32), sR aP] [(Value.int (1 : Int32)), (Value.ref b_1)])) rfl rfl (hb hby d10_16) _ kq) ?_
    refine own_Go.by (fun tq kq => XS.astore X7.here hx rfl (hb hby d10_17) rfl rfl (l' := #[sR a1, sR b_1, sI (3 : Int32), sI (1 : Int32), sR aI]) rfl kq) ?_
    refine own_Go.by (fun tq kq => XS.aload X7.here hx rfl (hb hby d10_19) rfl rfl kq) ?_
    show own_Go _ _ _ _ (T7.setTop (mkF m 21 #[sR a1, sR b_1, sI (3 : Int32), sI (1 : Int32), sR aI] [(Value.ref aI)]))
    obtain ⟨T14, X14, e14, st14⟩ := getF X7 hx hZ hown (host := "") (Or.inl (hw _ (List.mem_of_getElem? (i := 70) rfl))) Via.refl e7 (H17.ext O2.2) (g := (mkF m 21 #[sR a1, sR b_1, sI (3 : Int32), sI (1 : Int32), sR aI] [(Value.ref aI)])) rfl rfl (hb hby d10_21)
    refine own_Go.by st14 ?_
    refine own_Go.by (fun tq kq => XS.aloadN X14.here hx rfl (hb hby d10_24) rfl rfl kq) ?_
    show own_Go _ _ _ _ (T14.setTop (mkF m 25 #[sR a1, sR b_1, sI (3 : Int32), sI (1 : Int32), sR aI] [(Value.ref a1), (Value.ref uI)]))
    obtain ⟨cq15, kq15, q15a, q15b, q15c⟩ := isOf hZ e14 (H18.ext O2.2)
    obtain ⟨_, _, ⟨T15, L15, k15, n15⟩, -, X15, ⟨Lc15, hQ15, l15, y15, z15⟩, st15⟩ := X14.virtualBack hx (y := (⟨"java/lang/String", "equals", "(Ljava/lang/Object;)Z"⟩ : MethodName)) (z := (⟨"java/lang/String", "equals", "(Ljava/lang/Object;)Z"⟩ : MethodName)) hown (mvT hZ (hw _ (List.mem_of_getElem? (i := 72) rfl))) (mvT hZ (hw _ (List.mem_of_getElem? (i := 38) rfl))) (notFace_of_selects (args := #[]) (mvT hZ (hw _ (List.mem_of_getElem? (i := 40) rfl)))) (mvT hZ (hw _ (List.mem_of_getElem? (i := 40) rfl))) (mvT hZ (hw _ (List.mem_of_getElem? (i := 39) rfl))) (by decide) (StrChars.Road.eqW (W := 0) hZ (fun d hd => hw d (own_heq d hd)) (kI := 4) (hw _ (List.mem_of_getElem? (i := 6) rfl)) (H18.ext O2.2) (H20.ext O2.2) (H19.ext O2.2) (H21.ext O2.2) own_cod_insert.1 (own_up _ own_cod_insert.2.1) own_cod_insert.2.2 c8 c9 c10 c11 hcod.1 (own_up _ hcod.2.1) hcod.2.2 (H5.ext O2.2) hzc (by decide) (by decide)) q15a q15c (g := (mkF m 25 #[sR a1, sR b_1, sI (3 : Int32), sI (1 : Int32), sR aI] [(Value.ref a1), (Value.ref uI)])) rfl (by rw [hml]; rfl) (Steps.refl _) (argsL := [(Value.ref a1)]) (rest := []) (lenOf own_pd3 rfl) rfl (by show 2 * 0 + _ ≤ _; exact Nat.le_of_eq rfl) (hb hby d10_25) (fun _ _ => ⟨rfl, e14, (by decide : 1 + 0 ≤ _), (by decide : 3 + 0 ≤ _)⟩)
    dsimp only [Pt.U, Pt.locs, Pt.cells, Pt.slots] at X15 l15 y15 z15 st15 hQ15
    subst l15 y15 z15
    refine own_Go.by (fun tq kq => st15.trans kq) ?_
    obtain ⟨hv15, rfl, e15⟩ := hQ15
    obtain ⟨q15, rfl, heq15⟩ := own_eqv hv15
    have N15 := Fr.app N7 (Fr.nil n0)
    show own_Go _ _ _ _ (T15.setTop (mkF m 28 #[sR a1, sR b_1, sI (3 : Int32), sI (1 : Int32), sR aI] [(Value.int q15)]))
    by_cases hc28_16 : q15 = (0 : Int32)
    ·
      refine own_Go.by (fun tq kq => XS.ifYes X15.here hx rfl (pc0 := 28) (pc' := 34) rfl (hb hby d10_28) rfl ((if0 _ _).trans (teq hc28_16).1) (by decide) (by decide) kq) ?_
      show own_Go _ _ _ _ (T15.setTop (mkF m 34 #[sR a1, sR b_1, sI (3 : Int32), sI (1 : Int32), sR aI] []))
      refine own_Go.by (fun tq kq => XS.iinc X15.here hx rfl (hb hby d10_34) rfl (l' := #[sR a1, sR b_1, sI (3 : Int32), sI (2 : Int32), sR aI]) rfl kq) ?_
      refine own_Go.by (fun tq kq => XS.goto X15.here hx rfl (pc0 := 37) (pc' := 9) rfl (hb hby d10_37) (by decide) (by decide) kq) ?_
      refine own_Go.by (fun tq kq => XS.iloadN X15.here hx rfl (hb hby d10_9) rfl kq) ?_
      refine own_Go.by (fun tq kq => XS.iloadN X15.here hx rfl (hb hby d10_10) rfl kq) ?_
      show own_Go _ _ _ _ (T15.setTop (mkF m 11 #[sR a1, sR b_1, sI (3 : Int32), sI (2 : Int32), sR aI] [(Value.int (3 : Int32)), (Value.int (2 : Int32))]))
      refine own_Go.by (fun tq kq => XS.icmpNo X15.here hx rfl (hb hby d10_11) rfl (tlt (by decide : (2 : Int32) < (3 : Int32))).2.1 kq) ?_
      refine own_Go.by (fun tq kq => XS.aloadN X15.here hx rfl (hb hby d10_14) rfl rfl kq) ?_
      refine own_Go.by (fun tq kq => XS.iloadN X15.here hx rfl (hb hby d10_15) rfl kq) ?_
      show own_Go _ _ _ _ (T15.setTop (mkF m 16 #[sR a1, sR b_1, sI (3 : Int32), sI (2 : Int32), sR aI] [(Value.int (2 : Int32)), (Value.ref b_1)]))
      obtain ⟨cl17, Ar17, q17, S17, M17, Hh17, G17⟩ := id p1_2
      refine own_Go.by (fun tq kq => X15.aaload hx (j := (2 : Int32)) (v := (Value.ref aG)) (by rw [e15]; exact Ar17.1) (State.isArrayOf_alike hZ.alike Ar17.2.1) rfl Ar17.2.2 (inb_of S17 ⟨(by decide : ¬ ((2 : Int32) < (0 : Int32))), (by decide : (2 : Int32) < (3 : Int32))⟩) (Has.at Hh17 (inb_of S17 ⟨(by decide : ¬ ((2 : Int32) < (0 : Int32))), (by decide : (2 : Int32) < (3 : Int32))⟩) (rfl : _ = (Value.ref aG))) (g := (mkF m 16 #[sR a1, sR b_1, sI (3 : Int32), sI (2 : Int32), sR aI] [(Value.int (2 : Int32)), (Value.ref b_1)])) rfl rfl (hb hby d10_16) _ kq) ?_
      refine own_Go.by (fun tq kq => XS.astore X15.here hx rfl (hb hby d10_17) rfl rfl (l' := #[sR a1, sR b_1, sI (3 : Int32), sI (2 : Int32), sR aG]) rfl kq) ?_
      refine own_Go.by (fun tq kq => XS.aload X15.here hx rfl (hb hby d10_19) rfl rfl kq) ?_
      show own_Go _ _ _ _ (T15.setTop (mkF m 21 #[sR a1, sR b_1, sI (3 : Int32), sI (2 : Int32), sR aG] [(Value.ref aG)]))
      obtain ⟨T18, X18, e18, st18⟩ := getF X15 hx hZ hown (host := "") (Or.inl (hw _ (List.mem_of_getElem? (i := 70) rfl))) Via.refl e15 (H23.ext O2.2) (g := (mkF m 21 #[sR a1, sR b_1, sI (3 : Int32), sI (2 : Int32), sR aG] [(Value.ref aG)])) rfl rfl (hb hby d10_21)
      refine own_Go.by st18 ?_
      refine own_Go.by (fun tq kq => XS.aloadN X18.here hx rfl (hb hby d10_24) rfl rfl kq) ?_
      show own_Go _ _ _ _ (T18.setTop (mkF m 25 #[sR a1, sR b_1, sI (3 : Int32), sI (2 : Int32), sR aG] [(Value.ref a1), (Value.ref uG)]))
      obtain ⟨cq19, kq19, q19a, q19b, q19c⟩ := isOf hZ e18 (H24.ext O2.2)
      obtain ⟨_, _, ⟨T19, L19, k19, n19⟩, -, X19, ⟨Lc19, hQ19, l19, y19, z19⟩, st19⟩ := X18.virtualBack hx (y := (⟨"java/lang/String", "equals", "(Ljava/lang/Object;)Z"⟩ : MethodName)) (z := (⟨"java/lang/String", "equals", "(Ljava/lang/Object;)Z"⟩ : MethodName)) hown (mvT hZ (hw _ (List.mem_of_getElem? (i := 72) rfl))) (mvT hZ (hw _ (List.mem_of_getElem? (i := 38) rfl))) (notFace_of_selects (args := #[]) (mvT hZ (hw _ (List.mem_of_getElem? (i := 40) rfl)))) (mvT hZ (hw _ (List.mem_of_getElem? (i := 40) rfl))) (mvT hZ (hw _ (List.mem_of_getElem? (i := 39) rfl))) (by decide) (StrChars.Road.eqW (W := 0) hZ (fun d hd => hw d (own_heq d hd)) (kI := 4) (hw _ (List.mem_of_getElem? (i := 6) rfl)) (H24.ext O2.2) (H26.ext O2.2) (H25.ext O2.2) (H27.ext O2.2) own_cod_get.1 (own_up _ own_cod_get.2.1) own_cod_get.2.2 c8 c9 c10 c11 hcod.1 (own_up _ hcod.2.1) hcod.2.2 (H5.ext O2.2) hzc (by decide) (by decide)) q19a q19c (g := (mkF m 25 #[sR a1, sR b_1, sI (3 : Int32), sI (2 : Int32), sR aG] [(Value.ref a1), (Value.ref uG)])) rfl (by rw [hml]; rfl) (Steps.refl _) (argsL := [(Value.ref a1)]) (rest := []) (lenOf own_pd3 rfl) rfl (by show 2 * 0 + _ ≤ _; exact Nat.le_of_eq rfl) (hb hby d10_25) (fun _ _ => ⟨rfl, e18, (by decide : 1 + 0 ≤ _), (by decide : 3 + 0 ≤ _)⟩)
      dsimp only [Pt.U, Pt.locs, Pt.cells, Pt.slots] at X19 l19 y19 z19 st19 hQ19
      subst l19 y19 z19
      refine own_Go.by (fun tq kq => st19.trans kq) ?_
      obtain ⟨hv19, rfl, e19⟩ := hQ19
      obtain ⟨q19, rfl, heq19⟩ := own_eqv hv19
      have N19 := Fr.app N15 (Fr.nil n0)
      show own_Go _ _ _ _ (T19.setTop (mkF m 28 #[sR a1, sR b_1, sI (3 : Int32), sI (2 : Int32), sR aG] [(Value.int q19)]))
      by_cases hc28_20 : q19 = (0 : Int32)
      ·
        refine own_Go.by (fun tq kq => XS.ifYes X19.here hx rfl (pc0 := 28) (pc' := 34) rfl (hb hby d10_28) rfl ((if0 _ _).trans (teq hc28_20).1) (by decide) (by decide) kq) ?_
        show own_Go _ _ _ _ (T19.setTop (mkF m 34 #[sR a1, sR b_1, sI (3 : Int32), sI (2 : Int32), sR aG] []))
        refine own_Go.by (fun tq kq => XS.iinc X19.here hx rfl (hb hby d10_34) rfl (l' := #[sR a1, sR b_1, sI (3 : Int32), sI (3 : Int32), sR aG]) rfl kq) ?_
        refine own_Go.by (fun tq kq => XS.goto X19.here hx rfl (pc0 := 37) (pc' := 9) rfl (hb hby d10_37) (by decide) (by decide) kq) ?_
        refine own_Go.by (fun tq kq => XS.iloadN X19.here hx rfl (hb hby d10_9) rfl kq) ?_
        refine own_Go.by (fun tq kq => XS.iloadN X19.here hx rfl (hb hby d10_10) rfl kq) ?_
        show own_Go _ _ _ _ (T19.setTop (mkF m 11 #[sR a1, sR b_1, sI (3 : Int32), sI (3 : Int32), sR aG] [(Value.int (3 : Int32)), (Value.int (3 : Int32))]))
        refine own_Go.by (fun tq kq => XS.icmpYes X19.here hx rfl (pc0 := 11) (pc' := 40) rfl (hb hby d10_11) rfl (flt (by decide : ¬ ((3 : Int32) < (3 : Int32)))).2.1 (by decide) (by decide) kq) ?_
        refine own_Go.by (fun tq kq => XS.aconstNull X19.here hx rfl (hb hby d10_40) kq) ?_
        show own_Go _ _ _ _ (T19.setTop (mkF m 41 #[sR a1, sR b_1, sI (3 : Int32), sI (3 : Int32), sR aG] [.null]))
        obtain ⟨fs, hr, hrun, hended, hW, hsame⟩ := X19.leave (v := some .null) (fun h => by rw [Bd.returns] at h; cases h)
        refine own_Go.fin (retOut X19 hx Bd.returns rfl (Or.inr (Or.inr (Or.inr (Or.inr ⟨rfl, rfl, rfl⟩)))) (hb hby d10_41) hr) ⟨hrun, hended, _, _, rfl, ?_, ⟨_, rfl⟩, hW, hsame.mono (by decide) (by decide)⟩
        show Q10_s Z a1 t kb N2 vs2 cs zc aV aP aI aG kV uP tP kP uI tI kI uG tG kG h0 n0 _ T19.heap _
        rw [e19]
        exact ⟨(congrArg some (own_pick4 (fun z => own_eqF heq7 hc28_12 z.symm) (fun z => own_eqF heq15 hc28_16 z.symm) (fun z => own_eqF heq19 hc28_20 z.symm)).symm), N19, K2⟩
      ·
        refine own_Go.by (fun tq kq => XS.ifNo X19.here hx rfl (hb hby d10_28) rfl ((if0 _ _).trans (feq hc28_20).1) kq) ?_
        refine own_Go.by (fun tq kq => XS.aload X19.here hx rfl (hb hby d10_31) rfl rfl kq) ?_
        show own_Go _ _ _ _ (T19.setTop (mkF m 33 #[sR a1, sR b_1, sI (3 : Int32), sI (2 : Int32), sR aG] [(Value.ref aG)]))
        obtain ⟨fs, hr, hrun, hended, hW, hsame⟩ := X19.leave (v := some (Value.ref aG)) (fun h => by rw [Bd.returns] at h; cases h)
        refine own_Go.fin (retOut X19 hx Bd.returns rfl (Or.inr (Or.inr (Or.inr (Or.inr ⟨rfl, rfl, rfl⟩)))) (hb hby d10_33) hr) ⟨hrun, hended, _, _, rfl, ?_, ⟨_, rfl⟩, hW, hsame.mono (by decide) (by decide)⟩
        show Q10_s Z a1 t kb N2 vs2 cs zc aV aP aI aG kV uP tP kP uI tI kI uG tG kG h0 n0 _ T19.heap _
        rw [e19]
        exact ⟨(congrArg some (own_pick3 (fun z => own_eqF heq7 hc28_12 z.symm) (fun z => own_eqF heq15 hc28_16 z.symm) ((own_eqT heq19 hc28_20).symm)).symm), N19, K2⟩
    ·
      refine own_Go.by (fun tq kq => XS.ifNo X15.here hx rfl (hb hby d10_28) rfl ((if0 _ _).trans (feq hc28_16).1) kq) ?_
      refine own_Go.by (fun tq kq => XS.aload X15.here hx rfl (hb hby d10_31) rfl rfl kq) ?_
      show own_Go _ _ _ _ (T15.setTop (mkF m 33 #[sR a1, sR b_1, sI (3 : Int32), sI (1 : Int32), sR aI] [(Value.ref aI)]))
      obtain ⟨fs, hr, hrun, hended, hW, hsame⟩ := X15.leave (v := some (Value.ref aI)) (fun h => by rw [Bd.returns] at h; cases h)
      refine own_Go.fin (retOut X15 hx Bd.returns rfl (Or.inr (Or.inr (Or.inr (Or.inr ⟨rfl, rfl, rfl⟩)))) (hb hby d10_33) hr) ⟨hrun, hended, _, _, rfl, ?_, ⟨_, rfl⟩, hW, hsame.mono (by decide) (by decide)⟩
      show Q10_s Z a1 t kb N2 vs2 cs zc aV aP aI aG kV uP tP kP uI tI kI uG tG kG h0 n0 _ T15.heap _
      rw [e15]
      exact ⟨(congrArg some (own_pick2 (fun z => own_eqF heq7 hc28_12 z.symm) ((own_eqT heq15 hc28_16).symm)).symm), N15, K2⟩
  ·
    refine own_Go.by (fun tq kq => XS.ifNo X7.here hx rfl (hb hby d10_28) rfl ((if0 _ _).trans (feq hc28_12).1) kq) ?_
    refine own_Go.by (fun tq kq => XS.aload X7.here hx rfl (hb hby d10_31) rfl rfl kq) ?_
    show own_Go _ _ _ _ (T7.setTop (mkF m 33 #[sR a1, sR b_1, sI (3 : Int32), sI (0 : Int32), sR aP] [(Value.ref aP)]))
    obtain ⟨fs, hr, hrun, hended, hW, hsame⟩ := X7.leave (v := some (Value.ref aP)) (fun h => by rw [Bd.returns] at h; cases h)
    refine own_Go.fin (retOut X7 hx Bd.returns rfl (Or.inr (Or.inr (Or.inr (Or.inr ⟨rfl, rfl, rfl⟩)))) (hb hby d10_33) hr) ⟨hrun, hended, _, _, rfl, ?_, ⟨_, rfl⟩, hW, hsame.mono (by decide) (by decide)⟩
    show Q10_s Z a1 t kb N2 vs2 cs zc aV aP aI aG kV uP tP kP uI tI kI uG tG kG h0 n0 _ T7.heap _
    rw [e7]
    exact ⟨(congrArg some (own_pick1 ((own_eqT heq7 hc28_12).symm)).symm), N7, K2⟩

theorem own_ef_10_n (m : MethodId)  : entryFrame m #[.null] 5 = mkF m 0 #[.val .null, .unset, .unset, .unset, .unset] [] := by first | (simp [entryFrame, mkF, argsToLocals, Value.category]; done) | rfl
def Q10_n (Z : State) (zc : Int32) (aV : Addr) (aP : Addr) (aI : Addr) (aG : Addr) (kV : ClassId) (uP : Addr) (tP : Addr) (kP : ClassId) (uI : Addr) (tI : Addr) (kI : ClassId) (uG : Addr) (tG : Addr) (kG : ClassId) (h0 : Heap) (n0 : Nat) (v : Option Value) (h : Heap) (L : List Loc) : Prop := v = some .null ∧ Fr n0 L ∧ Keep h0 h []
set_option maxRecDepth 65536 in
set_option maxHeartbeats 40000000 in
theorem rm10_n (l : Launch) (Z : State) (a0 : Array Value) (hw : ∀ d ∈ tables_1, d.before a0 Z = true) (ws : List Jvm.Cond) (zc : Int32) (aV : Addr) (aP : Addr) (aI : Addr) (aG : Addr) (kV : ClassId) (uP : Addr) (tP : Addr) (kP : ClassId) (uI : Addr) (tI : Addr) (kI : ClassId) (uG : Addr) (tG : Addr) (kG : ClassId) (h0 : Heap) (n0 : Nat) (O0 : Old Z n0 h0) (H0 : Sta Z Z.heap "com/example/concordat/concordat/server/Operation$Kind" "$VALUES" "[Lcom/example/concordat/concordat/server/Operation$Kind;" (Value.ref aV)) (H1 : Arv Z Z.heap aV kV (.object "com/example/concordat/concordat/server/Operation$Kind") (3 : Int32) [(Value.ref aP), (Value.ref aI), (Value.ref aG)] .null) (H2 : Exa Z Z.heap aV "[Lcom/example/concordat/concordat/server/Operation$Kind;") (H3 : Exa Z Z.heap aP "com/example/concordat/concordat/server/Operation$Kind") (H4 : Fld Z Z.heap aP "com/example/concordat/concordat/server/Operation$Kind" "kindName" "Ljava/lang/String;" (Value.ref uP)) (H5 : Exa Z Z.heap uP "java/lang/String") (H6 : Fld Z Z.heap uP "java/lang/String" "coder" "B" (Value.int (0 : Int32))) (H7 : Fld Z Z.heap uP "java/lang/String" "value" "[B" (Value.ref tP)) (H8 : Arv Z Z.heap tP kP .byte (3 : Int32) [(Value.int (112 : Int32)), (Value.int (117 : Int32)), (Value.int (116 : Int32))] (Value.int (0 : Int32))) (H9 : Exa Z Z.heap aI "com/example/concordat/concordat/server/Operation$Kind") (H10 : Fld Z Z.heap aI "com/example/concordat/concordat/server/Operation$Kind" "kindName" "Ljava/lang/String;" (Value.ref uI)) (H11 : Exa Z Z.heap uI "java/lang/String") (H12 : Fld Z Z.heap uI "java/lang/String" "coder" "B" (Value.int (0 : Int32))) (H13 : Fld Z Z.heap uI "java/lang/String" "value" "[B" (Value.ref tI)) (H14 : Arv Z Z.heap tI kI .byte (6 : Int32) [(Value.int (105 : Int32)), (Value.int (110 : Int32)), (Value.int (115 : Int32)), (Value.int (101 : Int32)), (Value.int (114 : Int32)), (Value.int (116 : Int32))] (Value.int (0 : Int32))) (H15 : Exa Z Z.heap aG "com/example/concordat/concordat/server/Operation$Kind") (H16 : Fld Z Z.heap aG "com/example/concordat/concordat/server/Operation$Kind" "kindName" "Ljava/lang/String;" (Value.ref uG)) (H17 : Exa Z Z.heap uG "java/lang/String") (H18 : Fld Z Z.heap uG "java/lang/String" "coder" "B" (Value.int (0 : Int32))) (H19 : Fld Z Z.heap uG "java/lang/String" "value" "[B" (Value.ref tG)) (H20 : Arv Z Z.heap tG kG .byte (3 : Int32) [(Value.int (103 : Int32)), (Value.int (101 : Int32)), (Value.int (116 : Int32))] (Value.int (0 : Int32))) :
    MetFree l (⟨"com/example/concordat/concordat/server/Operation$Kind", "byName", "(Ljava/lang/String;)Lcom/example/concordat/concordat/server/Operation$Kind;"⟩ : MethodName) (head1 (Jvm.Cond.code (⟨"com/example/concordat/concordat/server/Operation$Kind", "byName", "(Ljava/lang/String;)Lcom/example/concordat/concordat/server/Operation$Kind;"⟩ : MethodName) prog_48_method_4_code 5 (some (.object "com/example/concordat/concordat/server/Operation$Kind")) :: ws) ({ frames := 2, cells := 1, slots := 3, locals := 25 } : Room)) (fun a U => a = #[.null] ∧ Z.Warmed39 U.vm ∧ U.heap = h0) (fun _ _ _ _ _ => True) (fun _ U o U' => ∃ v L, o = .returned v ∧ Q10_n Z zc aV aP aI aG kV uP tP kP uI tI kI uG tG kG h0 n0 v U'.heap L ∧ FrameEnd U o U' L ({ frames := 2, cells := 1, slots := 3, locals := 25 } : Room).cells ({ frames := 2, cells := 1, slots := 3, locals := 25 } : Room).slots) := by
  refine MetFree.of_bodySF (plainFor_of_name own_pn_com_example_concordat_concordat_server_Operation_Kind) hisR ?_
  intro p e s m args below meth c s₁ Bd hml0 hP hK
  obtain ⟨rfl, hZ, hh⟩ := hP
  have hx := Bd.exec
  have hby := Bd.bytes
  have hml : c.maxLocals = 5 := hml0
  have hown : s.vm.findClass "com/example/concordat/concordat/server/Operation$Kind" = some m.cls := findClass_of_methodNamed Bd.named
  have hnm := (name_of_methodNamed Bd.named Bd.method).1
  have X0 : Stand p l e ({ frames := 2, cells := 1, slots := 3, locals := 25 } : Room) s m #[.null] below meth c s₁ [] 0 0 := Stand.of_body Bd
  have e0 : s₁.heap = h0 := by rw [← hh, Bd.state]; rfl
  have N0 := Fr.nil n0
  have K0 : Keep h0 h0 [] := Keep.refl h0 []
  show own_Go _ _ _ _ (s₁.setTop (entryFrame m #[.null] 5))
  refine own_Go.by (fun tq kq => castTop (own_ef_10_n m ) kq) ?_
  show own_Go _ _ _ _ (s₁.setTop (mkF m 0 #[.val .null, .unset, .unset, .unset, .unset] []))
  obtain ⟨_, _, ⟨T1, L1, k1, n1⟩, -, X1, ⟨Lc1, hQ1, l1, y1, z1⟩, st1⟩ := Jvm.LawKit.callS X0 hx (y := (⟨"com/example/concordat/concordat/server/Operation$Kind", "values", "()[Lcom/example/concordat/concordat/server/Operation$Kind;"⟩ : MethodName)) hown (mvT hZ (hw _ (List.mem_of_getElem? (i := 53) rfl))) (mvT hZ (hw _ (List.mem_of_getElem? (i := 54) rfl))) (mvT hZ (hw _ (List.mem_of_getElem? (i := 48) rfl))) (mvT hZ (hw _ (List.mem_of_getElem? (i := 55) rfl))) (by decide) (backOf (W := 0) (rm11 l Z a0 hw [] aV aP aI aG kV h0 n0 O0 H0 H1 H2) hZ (hw _ (List.mem_of_getElem? (i := 55) rfl)) (hw _ (List.mem_of_getElem? (i := 48) rfl)) (by decide) (by decide)) (g := (mkF m 0 #[.val .null, .unset, .unset, .unset, .unset] [])) rfl (by rw [hml]; rfl) (argsL := []) (rest := []) (lenOf own_pd2 rfl) rfl (by show 2 * 0 + _ ≤ _; exact Nat.le_of_eq rfl) (hb hby d10_0) (fun _ _ => ⟨rfl, e0, (by decide : 0 + 1 ≤ _), (by decide : 0 + 3 ≤ _)⟩)
  dsimp only [Pt.U, Pt.locs, Pt.cells, Pt.slots] at X1 l1 y1 z1 st1 hQ1
  subst l1 y1 z1
  refine own_Go.by st1 ?_
  obtain ⟨b_1, rfl, N1q, K1q, p1_0, p1_1, p1_2⟩ := hQ1
  have N1 := Fr.app N0 N1q
  have O2 := O0.keep K1q all0
  have K2 := K0.trans K1q all0
  have g3 : n0 ≤ b_1 := Nat.le_trans (own_old_le O0) p1_0
  have z3 : h0.size ≤ b_1 := Nat.le_trans K0.1 p1_0
  refine own_Go.by (fun tq kq => XS.astoreN X1.here hx rfl (hb hby d10_3) rfl rfl (l' := #[.val .null, sR b_1, .unset, .unset, .unset]) rfl kq) ?_
  refine own_Go.by (fun tq kq => XS.aloadN X1.here hx rfl (hb hby d10_4) rfl rfl kq) ?_
  show own_Go _ _ _ _ (T1.setTop (mkF m 5 #[.val .null, sR b_1, .unset, .unset, .unset] [(Value.ref b_1)]))
  obtain ⟨cl4, Ar4, q4, S4, M4, Hh4, G4⟩ := id p1_2
  refine own_Go.by (fun tq kq => X1.arraylength hx Ar4.1 (State.isArrayOf_alike hZ.alike Ar4.2.1) (g := (mkF m 5 #[.val .null, sR b_1, .unset, .unset, .unset] [(Value.ref b_1)])) rfl rfl (hb hby d10_5) _ kq) ?_
  rw [len_of S4 M4]
  refine own_Go.by (fun tq kq => XS.istoreN X1.here hx rfl (hb hby d10_6) rfl (l' := #[.val .null, sR b_1, sI (3 : Int32), .unset, .unset]) rfl kq) ?_
  refine own_Go.by (fun tq kq => XS.iconst X1.here hx rfl (hb hby d10_7) kq) ?_
  refine own_Go.by (fun tq kq => XS.istoreN X1.here hx rfl (hb hby d10_8) rfl (l' := #[.val .null, sR b_1, sI (3 : Int32), sI (0 : Int32), .unset]) rfl kq) ?_
  show own_Go _ _ _ _ (T1.setTop (mkF m 9 #[.val .null, sR b_1, sI (3 : Int32), sI (0 : Int32), .unset] []))
  refine own_Go.by (fun tq kq => XS.iloadN X1.here hx rfl (hb hby d10_9) rfl kq) ?_
  refine own_Go.by (fun tq kq => XS.iloadN X1.here hx rfl (hb hby d10_10) rfl kq) ?_
  show own_Go _ _ _ _ (T1.setTop (mkF m 11 #[.val .null, sR b_1, sI (3 : Int32), sI (0 : Int32), .unset] [(Value.int (3 : Int32)), (Value.int (0 : Int32))]))
  refine own_Go.by (fun tq kq => XS.icmpNo X1.here hx rfl (hb hby d10_11) rfl (tlt (by decide : (0 : Int32) < (3 : Int32))).2.1 kq) ?_
  refine own_Go.by (fun tq kq => XS.aloadN X1.here hx rfl (hb hby d10_14) rfl rfl kq) ?_
  refine own_Go.by (fun tq kq => XS.iloadN X1.here hx rfl (hb hby d10_15) rfl kq) ?_
  show own_Go _ _ _ _ (T1.setTop (mkF m 16 #[.val .null, sR b_1, sI (3 : Int32), sI (0 : Int32), .unset] [(Value.int (0 : Int32)), (Value.ref b_1)]))
  obtain ⟨cl5, Ar5, q5, S5, M5, Hh5, G5⟩ := id p1_2
  refine own_Go.by (fun tq kq => X1.aaload hx (j := (0 : Int32)) (v := (Value.ref aP)) Ar5.1 (State.isArrayOf_alike hZ.alike Ar5.2.1) rfl Ar5.2.2 (inb_of S5 ⟨(by decide : ¬ ((0 : Int32) < (0 : Int32))), (by decide : (0 : Int32) < (3 : Int32))⟩) (Has.at Hh5 (inb_of S5 ⟨(by decide : ¬ ((0 : Int32) < (0 : Int32))), (by decide : (0 : Int32) < (3 : Int32))⟩) (rfl : _ = (Value.ref aP))) (g := (mkF m 16 #[.val .null, sR b_1, sI (3 : Int32), sI (0 : Int32), .unset] [(Value.int (0 : Int32)), (Value.ref b_1)])) rfl rfl (hb hby d10_16) _ kq) ?_
  refine own_Go.by (fun tq kq => XS.astore X1.here hx rfl (hb hby d10_17) rfl rfl (l' := #[.val .null, sR b_1, sI (3 : Int32), sI (0 : Int32), sR aP]) rfl kq) ?_
  refine own_Go.by (fun tq kq => XS.aload X1.here hx rfl (hb hby d10_19) rfl rfl kq) ?_
  show own_Go _ _ _ _ (T1.setTop (mkF m 21 #[.val .null, sR b_1, sI (3 : Int32), sI (0 : Int32), sR aP] [(Value.ref aP)]))
  obtain ⟨T6, X6, e6, st6⟩ := getF X1 hx hZ hown (host := "") (Or.inl (hw _ (List.mem_of_getElem? (i := 70) rfl))) Via.refl rfl (H4.ext O2.2) (g := (mkF m 21 #[.val .null, sR b_1, sI (3 : Int32), sI (0 : Int32), sR aP] [(Value.ref aP)])) rfl rfl (hb hby d10_21)
  refine own_Go.by st6 ?_
  refine own_Go.by (fun tq kq => XS.aloadN X6.here hx rfl (hb hby d10_24) rfl rfl kq) ?_
  show own_Go _ _ _ _ (T6.setTop (mkF m 25 #[.val .null, sR b_1, sI (3 : Int32), sI (0 : Int32), sR aP] [.null, (Value.ref uP)]))
  obtain ⟨cq7, kq7, q7a, q7b, q7c⟩ := isOf hZ e6 (H5.ext O2.2)
  obtain ⟨_, _, ⟨T7, L7, k7, n7⟩, -, X7, ⟨Lc7, hQ7, l7, y7, z7⟩, st7⟩ := X6.virtualBack hx (y := (⟨"java/lang/String", "equals", "(Ljava/lang/Object;)Z"⟩ : MethodName)) (z := (⟨"java/lang/String", "equals", "(Ljava/lang/Object;)Z"⟩ : MethodName)) hown (mvT hZ (hw _ (List.mem_of_getElem? (i := 72) rfl))) (mvT hZ (hw _ (List.mem_of_getElem? (i := 38) rfl))) (notFace_of_selects (args := #[]) (mvT hZ (hw _ (List.mem_of_getElem? (i := 40) rfl)))) (mvT hZ (hw _ (List.mem_of_getElem? (i := 40) rfl))) (mvT hZ (hw _ (List.mem_of_getElem? (i := 39) rfl))) (by decide) (backOf (W := 0) (rm8_n l Z a0 hw [] uP T1.heap n0 O2 ) hZ (hw _ (List.mem_of_getElem? (i := 41) rfl)) (hw _ (List.mem_of_getElem? (i := 7) rfl)) (by decide) (by decide)) q7a q7c (g := (mkF m 25 #[.val .null, sR b_1, sI (3 : Int32), sI (0 : Int32), sR aP] [.null, (Value.ref uP)])) rfl (by rw [hml]; rfl) (Steps.refl _) (argsL := [.null]) (rest := []) (lenOf own_pd3 rfl) rfl (by show 2 * 0 + _ ≤ _; exact Nat.le_of_eq rfl) (hb hby d10_25) (fun _ _ => ⟨rfl, e6, (by decide : 1 + 0 ≤ _), (by decide : 3 + 0 ≤ _)⟩)
  dsimp only [Pt.U, Pt.locs, Pt.cells, Pt.slots] at X7 l7 y7 z7 st7 hQ7
  subst l7 y7 z7
  refine own_Go.by (fun tq kq => st7.trans kq) ?_
  obtain ⟨rfl, N7q, e7⟩ := hQ7
  have N7 := Fr.app N1 N7q
  show own_Go _ _ _ _ (T7.setTop (mkF m 28 #[.val .null, sR b_1, sI (3 : Int32), sI (0 : Int32), sR aP] [(Value.int (0 : Int32))]))
  refine own_Go.by (fun tq kq => XS.ifYes X7.here hx rfl (pc0 := 28) (pc' := 34) rfl (hb hby d10_28) rfl ((if0 _ _).trans (teq (by decide : (0 : Int32) = (0 : Int32))).1) (by decide) (by decide) kq) ?_
  show own_Go _ _ _ _ (T7.setTop (mkF m 34 #[.val .null, sR b_1, sI (3 : Int32), sI (0 : Int32), sR aP] []))
  refine own_Go.by (fun tq kq => XS.iinc X7.here hx rfl (hb hby d10_34) rfl (l' := #[.val .null, sR b_1, sI (3 : Int32), sI (1 : Int32), sR aP]) rfl kq) ?_
  refine own_Go.by (fun tq kq => XS.goto X7.here hx rfl (pc0 := 37) (pc' := 9) rfl (hb hby d10_37) (by decide) (by decide) kq) ?_
  refine own_Go.by (fun tq kq => XS.iloadN X7.here hx rfl (hb hby d10_9) rfl kq) ?_
  refine own_Go.by (fun tq kq => XS.iloadN X7.here hx rfl (hb hby d10_10) rfl kq) ?_
  show own_Go _ _ _ _ (T7.setTop (mkF m 11 #[.val .null, sR b_1, sI (3 : Int32), sI (1 : Int32), sR aP] [(Value.int (3 : Int32)), (Value.int (1 : Int32))]))
  refine own_Go.by (fun tq kq => XS.icmpNo X7.here hx rfl (hb hby d10_11) rfl (tlt (by decide : (1 : Int32) < (3 : Int32))).2.1 kq) ?_
  refine own_Go.by (fun tq kq => XS.aloadN X7.here hx rfl (hb hby d10_14) rfl rfl kq) ?_
  refine own_Go.by (fun tq kq => XS.iloadN X7.here hx rfl (hb hby d10_15) rfl kq) ?_
  show own_Go _ _ _ _ (T7.setTop (mkF m 16 #[.val .null, sR b_1, sI (3 : Int32), sI (1 : Int32), sR aP] [(Value.int (1 : Int32)), (Value.ref b_1)]))
  obtain ⟨cl8, Ar8, q8, S8, M8, Hh8, G8⟩ := id p1_2
  refine own_Go.by (fun tq kq => X7.aaload hx (j := (1 : Int32)) (v := (Value.ref aI)) (by rw [e7]; exact Ar8.1) (State.isArrayOf_alike hZ.alike Ar8.2.1) rfl Ar8.2.2 (inb_of S8 ⟨(by decide : ¬ ((1 : Int32) < (0 : Int32))), (by decide : (1 : Int32) < (3 : Int32))⟩) (Has.at Hh8 (inb_of S8 ⟨(by decide : ¬ ((1 : Int32) < (0 : Int32))), (by decide : (1 : Int32) < (3 : Int32))⟩) (rfl : _ = (Value.ref aI))) (g := (mkF m 16 #[.val .null, sR b_1, sI (3 : Int32), sI (1 : Int32), sR aP] [(Value.int (1 : Int32)), (Value.ref b_1)])) rfl rfl (hb hby d10_16) _ kq) ?_
  refine own_Go.by (fun tq kq => XS.astore X7.here hx rfl (hb hby d10_17) rfl rfl (l' := #[.val .null, sR b_1, sI (3 : Int32), sI (1 : Int32), sR aI]) rfl kq) ?_
  refine own_Go.by (fun tq kq => XS.aload X7.here hx rfl (hb hby d10_19) rfl rfl kq) ?_
  show own_Go _ _ _ _ (T7.setTop (mkF m 21 #[.val .null, sR b_1, sI (3 : Int32), sI (1 : Int32), sR aI] [(Value.ref aI)]))
  obtain ⟨T9, X9, e9, st9⟩ := getF X7 hx hZ hown (host := "") (Or.inl (hw _ (List.mem_of_getElem? (i := 70) rfl))) Via.refl e7 (H10.ext O2.2) (g := (mkF m 21 #[.val .null, sR b_1, sI (3 : Int32), sI (1 : Int32), sR aI] [(Value.ref aI)])) rfl rfl (hb hby d10_21)
  refine own_Go.by st9 ?_
  refine own_Go.by (fun tq kq => XS.aloadN X9.here hx rfl (hb hby d10_24) rfl rfl kq) ?_
  show own_Go _ _ _ _ (T9.setTop (mkF m 25 #[.val .null, sR b_1, sI (3 : Int32), sI (1 : Int32), sR aI] [.null, (Value.ref uI)]))
  obtain ⟨cq10, kq10, q10a, q10b, q10c⟩ := isOf hZ e9 (H11.ext O2.2)
  obtain ⟨_, _, ⟨T10, L10, k10, n10⟩, -, X10, ⟨Lc10, hQ10, l10, y10, z10⟩, st10⟩ := X9.virtualBack hx (y := (⟨"java/lang/String", "equals", "(Ljava/lang/Object;)Z"⟩ : MethodName)) (z := (⟨"java/lang/String", "equals", "(Ljava/lang/Object;)Z"⟩ : MethodName)) hown (mvT hZ (hw _ (List.mem_of_getElem? (i := 72) rfl))) (mvT hZ (hw _ (List.mem_of_getElem? (i := 38) rfl))) (notFace_of_selects (args := #[]) (mvT hZ (hw _ (List.mem_of_getElem? (i := 40) rfl)))) (mvT hZ (hw _ (List.mem_of_getElem? (i := 40) rfl))) (mvT hZ (hw _ (List.mem_of_getElem? (i := 39) rfl))) (by decide) (backOf (W := 0) (rm8_n l Z a0 hw [] uI T1.heap n0 O2 ) hZ (hw _ (List.mem_of_getElem? (i := 41) rfl)) (hw _ (List.mem_of_getElem? (i := 7) rfl)) (by decide) (by decide)) q10a q10c (g := (mkF m 25 #[.val .null, sR b_1, sI (3 : Int32), sI (1 : Int32), sR aI] [.null, (Value.ref uI)])) rfl (by rw [hml]; rfl) (Steps.refl _) (argsL := [.null]) (rest := []) (lenOf own_pd3 rfl) rfl (by show 2 * 0 + _ ≤ _; exact Nat.le_of_eq rfl) (hb hby d10_25) (fun _ _ => ⟨rfl, e9, (by decide : 1 + 0 ≤ _), (by decide : 3 + 0 ≤ _)⟩)
  dsimp only [Pt.U, Pt.locs, Pt.cells, Pt.slots] at X10 l10 y10 z10 st10 hQ10
  subst l10 y10 z10
  refine own_Go.by (fun tq kq => st10.trans kq) ?_
  obtain ⟨rfl, N10q, e10⟩ := hQ10
  have N10 := Fr.app N7 N10q
  show own_Go _ _ _ _ (T10.setTop (mkF m 28 #[.val .null, sR b_1, sI (3 : Int32), sI (1 : Int32), sR aI] [(Value.int (0 : Int32))]))
  refine own_Go.by (fun tq kq => XS.ifYes X10.here hx rfl (pc0 := 28) (pc' := 34) rfl (hb hby d10_28) rfl ((if0 _ _).trans (teq (by decide : (0 : Int32) = (0 : Int32))).1) (by decide) (by decide) kq) ?_
  show own_Go _ _ _ _ (T10.setTop (mkF m 34 #[.val .null, sR b_1, sI (3 : Int32), sI (1 : Int32), sR aI] []))
  refine own_Go.by (fun tq kq => XS.iinc X10.here hx rfl (hb hby d10_34) rfl (l' := #[.val .null, sR b_1, sI (3 : Int32), sI (2 : Int32), sR aI]) rfl kq) ?_
  refine own_Go.by (fun tq kq => XS.goto X10.here hx rfl (pc0 := 37) (pc' := 9) rfl (hb hby d10_37) (by decide) (by decide) kq) ?_
  refine own_Go.by (fun tq kq => XS.iloadN X10.here hx rfl (hb hby d10_9) rfl kq) ?_
  refine own_Go.by (fun tq kq => XS.iloadN X10.here hx rfl (hb hby d10_10) rfl kq) ?_
  show own_Go _ _ _ _ (T10.setTop (mkF m 11 #[.val .null, sR b_1, sI (3 : Int32), sI (2 : Int32), sR aI] [(Value.int (3 : Int32)), (Value.int (2 : Int32))]))
  refine own_Go.by (fun tq kq => XS.icmpNo X10.here hx rfl (hb hby d10_11) rfl (tlt (by decide : (2 : Int32) < (3 : Int32))).2.1 kq) ?_
  refine own_Go.by (fun tq kq => XS.aloadN X10.here hx rfl (hb hby d10_14) rfl rfl kq) ?_
  refine own_Go.by (fun tq kq => XS.iloadN X10.here hx rfl (hb hby d10_15) rfl kq) ?_
  show own_Go _ _ _ _ (T10.setTop (mkF m 16 #[.val .null, sR b_1, sI (3 : Int32), sI (2 : Int32), sR aI] [(Value.int (2 : Int32)), (Value.ref b_1)]))
  obtain ⟨cl11, Ar11, q11, S11, M11, Hh11, G11⟩ := id p1_2
  refine own_Go.by (fun tq kq => X10.aaload hx (j := (2 : Int32)) (v := (Value.ref aG)) (by rw [e10]; exact Ar11.1) (State.isArrayOf_alike hZ.alike Ar11.2.1) rfl Ar11.2.2 (inb_of S11 ⟨(by decide : ¬ ((2 : Int32) < (0 : Int32))), (by decide : (2 : Int32) < (3 : Int32))⟩) (Has.at Hh11 (inb_of S11 ⟨(by decide : ¬ ((2 : Int32) < (0 : Int32))), (by decide : (2 : Int32) < (3 : Int32))⟩) (rfl : _ = (Value.ref aG))) (g := (mkF m 16 #[.val .null, sR b_1, sI (3 : Int32), sI (2 : Int32), sR aI] [(Value.int (2 : Int32)), (Value.ref b_1)])) rfl rfl (hb hby d10_16) _ kq) ?_
  refine own_Go.by (fun tq kq => XS.astore X10.here hx rfl (hb hby d10_17) rfl rfl (l' := #[.val .null, sR b_1, sI (3 : Int32), sI (2 : Int32), sR aG]) rfl kq) ?_
  refine own_Go.by (fun tq kq => XS.aload X10.here hx rfl (hb hby d10_19) rfl rfl kq) ?_
  show own_Go _ _ _ _ (T10.setTop (mkF m 21 #[.val .null, sR b_1, sI (3 : Int32), sI (2 : Int32), sR aG] [(Value.ref aG)]))
  obtain ⟨T12, X12, e12, st12⟩ := getF X10 hx hZ hown (host := "") (Or.inl (hw _ (List.mem_of_getElem? (i := 70) rfl))) Via.refl e10 (H16.ext O2.2) (g := (mkF m 21 #[.val .null, sR b_1, sI (3 : Int32), sI (2 : Int32), sR aG] [(Value.ref aG)])) rfl rfl (hb hby d10_21)
  refine own_Go.by st12 ?_
  refine own_Go.by (fun tq kq => XS.aloadN X12.here hx rfl (hb hby d10_24) rfl rfl kq) ?_
  show own_Go _ _ _ _ (T12.setTop (mkF m 25 #[.val .null, sR b_1, sI (3 : Int32), sI (2 : Int32), sR aG] [.null, (Value.ref uG)]))
  obtain ⟨cq13, kq13, q13a, q13b, q13c⟩ := isOf hZ e12 (H17.ext O2.2)
  obtain ⟨_, _, ⟨T13, L13, k13, n13⟩, -, X13, ⟨Lc13, hQ13, l13, y13, z13⟩, st13⟩ := X12.virtualBack hx (y := (⟨"java/lang/String", "equals", "(Ljava/lang/Object;)Z"⟩ : MethodName)) (z := (⟨"java/lang/String", "equals", "(Ljava/lang/Object;)Z"⟩ : MethodName)) hown (mvT hZ (hw _ (List.mem_of_getElem? (i := 72) rfl))) (mvT hZ (hw _ (List.mem_of_getElem? (i := 38) rfl))) (notFace_of_selects (args := #[]) (mvT hZ (hw _ (List.mem_of_getElem? (i := 40) rfl)))) (mvT hZ (hw _ (List.mem_of_getElem? (i := 40) rfl))) (mvT hZ (hw _ (List.mem_of_getElem? (i := 39) rfl))) (by decide) (backOf (W := 0) (rm8_n l Z a0 hw [] uG T1.heap n0 O2 ) hZ (hw _ (List.mem_of_getElem? (i := 41) rfl)) (hw _ (List.mem_of_getElem? (i := 7) rfl)) (by decide) (by decide)) q13a q13c (g := (mkF m 25 #[.val .null, sR b_1, sI (3 : Int32), sI (2 : Int32), sR aG] [.null, (Value.ref uG)])) rfl (by rw [hml]; rfl) (Steps.refl _) (argsL := [.null]) (rest := []) (lenOf own_pd3 rfl) rfl (by show 2 * 0 + _ ≤ _; exact Nat.le_of_eq rfl) (hb hby d10_25) (fun _ _ => ⟨rfl, e12, (by decide : 1 + 0 ≤ _), (by decide : 3 + 0 ≤ _)⟩)
  dsimp only [Pt.U, Pt.locs, Pt.cells, Pt.slots] at X13 l13 y13 z13 st13 hQ13
  subst l13 y13 z13
  refine own_Go.by (fun tq kq => st13.trans kq) ?_
  obtain ⟨rfl, N13q, e13⟩ := hQ13
  have N13 := Fr.app N10 N13q
  show own_Go _ _ _ _ (T13.setTop (mkF m 28 #[.val .null, sR b_1, sI (3 : Int32), sI (2 : Int32), sR aG] [(Value.int (0 : Int32))]))
  refine own_Go.by (fun tq kq => XS.ifYes X13.here hx rfl (pc0 := 28) (pc' := 34) rfl (hb hby d10_28) rfl ((if0 _ _).trans (teq (by decide : (0 : Int32) = (0 : Int32))).1) (by decide) (by decide) kq) ?_
  show own_Go _ _ _ _ (T13.setTop (mkF m 34 #[.val .null, sR b_1, sI (3 : Int32), sI (2 : Int32), sR aG] []))
  refine own_Go.by (fun tq kq => XS.iinc X13.here hx rfl (hb hby d10_34) rfl (l' := #[.val .null, sR b_1, sI (3 : Int32), sI (3 : Int32), sR aG]) rfl kq) ?_
  refine own_Go.by (fun tq kq => XS.goto X13.here hx rfl (pc0 := 37) (pc' := 9) rfl (hb hby d10_37) (by decide) (by decide) kq) ?_
  refine own_Go.by (fun tq kq => XS.iloadN X13.here hx rfl (hb hby d10_9) rfl kq) ?_
  refine own_Go.by (fun tq kq => XS.iloadN X13.here hx rfl (hb hby d10_10) rfl kq) ?_
  show own_Go _ _ _ _ (T13.setTop (mkF m 11 #[.val .null, sR b_1, sI (3 : Int32), sI (3 : Int32), sR aG] [(Value.int (3 : Int32)), (Value.int (3 : Int32))]))
  refine own_Go.by (fun tq kq => XS.icmpYes X13.here hx rfl (pc0 := 11) (pc' := 40) rfl (hb hby d10_11) rfl (flt (by decide : ¬ ((3 : Int32) < (3 : Int32)))).2.1 (by decide) (by decide) kq) ?_
  refine own_Go.by (fun tq kq => XS.aconstNull X13.here hx rfl (hb hby d10_40) kq) ?_
  show own_Go _ _ _ _ (T13.setTop (mkF m 41 #[.val .null, sR b_1, sI (3 : Int32), sI (3 : Int32), sR aG] [.null]))
  obtain ⟨fs, hr, hrun, hended, hW, hsame⟩ := X13.leave (v := some .null) (fun h => by rw [Bd.returns] at h; cases h)
  refine own_Go.fin (retOut X13 hx Bd.returns rfl (Or.inr (Or.inr (Or.inr (Or.inr ⟨rfl, rfl, rfl⟩)))) (hb hby d10_41) hr) ⟨hrun, hended, _, _, rfl, ?_, ⟨_, rfl⟩, hW, hsame.mono (by decide) (by decide)⟩
  show Q10_n Z zc aV aP aI aG kV uP tP kP uI tI kI uG tG kG h0 n0 _ T13.heap _
  rw [e13]
  exact ⟨rfl, N13, K2⟩

theorem own_pd4 : parseMethodDescriptor "([CI)Ljava/lang/String;" = some ⟨[(.array .char), .int], some (.object "java/lang/String")⟩ := by decide +kernel
theorem own_pd5 : parseMethodDescriptor "(Ljava/lang/String;)Lcom/example/concordat/concordat/server/Operation$Kind;" = some ⟨[(.object "java/lang/String")], some (.object "com/example/concordat/concordat/server/Operation$Kind")⟩ := by decide +kernel
theorem own_ef_0 (m : MethodId) (p1 : Int32) (p2 : Int32) (p3 : Int32) (p4 : Int32) (p5 : Int32) : entryFrame m #[(Value.int p1), (Value.int p2), (Value.int p3), (Value.int p4), (Value.int p5)] maxLocals = mkF m 0 #[sI p1, sI p2, sI p3, sI p4, sI p5, .unset, .unset, .unset, .unset, .unset, .unset] [] := by first | (simp [entryFrame, mkF, argsToLocals, Value.category, maxLocals]; done) | rfl
def Q0 (Z : State) (p1 : Int32) (p2 : Int32) (p3 : Int32) (p4 : Int32) (p5 : Int32) (zc : Int32) (aV : Addr) (aP : Addr) (aI : Addr) (aG : Addr) (kV : ClassId) (uP : Addr) (tP : Addr) (kP : ClassId) (uI : Addr) (tI : Addr) (kI : ClassId) (uG : Addr) (tG : Addr) (kG : ClassId) (h0 : Heap) (n0 : Nat) (v : Option Value) (h : Heap) (L : List Loc) : Prop := v = some (Value.int (1 : Int32)) ∧ Fr n0 L ∧ Keep h0 h []
set_option maxRecDepth 65536 in
set_option maxHeartbeats 40000000 in
theorem rm0 (l : Launch) (Z : State) (a0 : Array Value) (hw : ∀ d ∈ tables_1, d.before a0 Z = true) (ws : List Jvm.Cond) (p1 : Int32) (p2 : Int32) (p3 : Int32) (p4 : Int32) (p5 : Int32) (zc : Int32) (aV : Addr) (aP : Addr) (aI : Addr) (aG : Addr) (kV : ClassId) (uP : Addr) (tP : Addr) (kP : ClassId) (uI : Addr) (tI : Addr) (kI : ClassId) (uG : Addr) (tG : Addr) (kG : ClassId) (h0 : Heap) (n0 : Nat) (O0 : Old Z n0 h0) (H0 : Sta Z Z.heap "java/lang/String" "COMPACT_STRINGS" "Z" (Value.int zc)) (hzc : ¬ (zc = (0 : Int32))) (H2 : Sta Z Z.heap "com/example/concordat/concordat/server/Operation$Kind" "PUT" "Lcom/example/concordat/concordat/server/Operation$Kind;" (Value.ref aP)) (H3 : Sta Z Z.heap "com/example/concordat/concordat/server/Operation$Kind" "INSERT" "Lcom/example/concordat/concordat/server/Operation$Kind;" (Value.ref aI)) (H4 : Sta Z Z.heap "com/example/concordat/concordat/server/Operation$Kind" "GET" "Lcom/example/concordat/concordat/server/Operation$Kind;" (Value.ref aG)) (H5 : Sta Z Z.heap "com/example/concordat/concordat/server/Operation$Kind" "$VALUES" "[Lcom/example/concordat/concordat/server/Operation$Kind;" (Value.ref aV)) (H6 : Arv Z Z.heap aV kV (.object "com/example/concordat/concordat/server/Operation$Kind") (3 : Int32) [(Value.ref aP), (Value.ref aI), (Value.ref aG)] .null) (H7 : Exa Z Z.heap aV "[Lcom/example/concordat/concordat/server/Operation$Kind;") (H8 : Exa Z Z.heap aP "com/example/concordat/concordat/server/Operation$Kind") (H9 : Fld Z Z.heap aP "com/example/concordat/concordat/server/Operation$Kind" "kindName" "Ljava/lang/String;" (Value.ref uP)) (H10 : Exa Z Z.heap uP "java/lang/String") (H11 : Fld Z Z.heap uP "java/lang/String" "coder" "B" (Value.int (0 : Int32))) (H12 : Fld Z Z.heap uP "java/lang/String" "value" "[B" (Value.ref tP)) (H13 : Arv Z Z.heap tP kP .byte (3 : Int32) [(Value.int (112 : Int32)), (Value.int (117 : Int32)), (Value.int (116 : Int32))] (Value.int (0 : Int32))) (H14 : Exa Z Z.heap aI "com/example/concordat/concordat/server/Operation$Kind") (H15 : Fld Z Z.heap aI "com/example/concordat/concordat/server/Operation$Kind" "kindName" "Ljava/lang/String;" (Value.ref uI)) (H16 : Exa Z Z.heap uI "java/lang/String") (H17 : Fld Z Z.heap uI "java/lang/String" "coder" "B" (Value.int (0 : Int32))) (H18 : Fld Z Z.heap uI "java/lang/String" "value" "[B" (Value.ref tI)) (H19 : Arv Z Z.heap tI kI .byte (6 : Int32) [(Value.int (105 : Int32)), (Value.int (110 : Int32)), (Value.int (115 : Int32)), (Value.int (101 : Int32)), (Value.int (114 : Int32)), (Value.int (116 : Int32))] (Value.int (0 : Int32))) (H20 : Exa Z Z.heap aG "com/example/concordat/concordat/server/Operation$Kind") (H21 : Fld Z Z.heap aG "com/example/concordat/concordat/server/Operation$Kind" "kindName" "Ljava/lang/String;" (Value.ref uG)) (H22 : Exa Z Z.heap uG "java/lang/String") (H23 : Fld Z Z.heap uG "java/lang/String" "coder" "B" (Value.int (0 : Int32))) (H24 : Fld Z Z.heap uG "java/lang/String" "value" "[B" (Value.ref tG)) (H25 : Arv Z Z.heap tG kG .byte (3 : Int32) [(Value.int (103 : Int32)), (Value.int (101 : Int32)), (Value.int (116 : Int32))] (Value.int (0 : Int32))) :
    MetFree l x (head1 (Jvm.Cond.code x code maxLocals ret :: ws) room_1) (fun a U => a = #[(Value.int p1), (Value.int p2), (Value.int p3), (Value.int p4), (Value.int p5)] ∧ Z.Warmed39 U.vm ∧ U.heap = h0 ∧ CHv Z consts_1 U.vm h0) (fun _ _ _ _ _ => True) (fun _ U o U' => ∃ v L, o = .returned v ∧ Q0 Z p1 p2 p3 p4 p5 zc aV aP aI aG kV uP tP kP uI tI kI uG tG kG h0 n0 v U'.heap L ∧ CHr Z consts_1 U.vm U.heap U'.vm U'.heap ∧ ReturnedEndW U o U' L room_1.cells room_1.slots) := by
  refine MetFree.of_bodySF (plainFor_of_name own_pn_com_example_concordat_concordat_server_KindByNamePinLaw) hisR ?_
  intro p e s m args below meth c s₁ Bd hml0 hP hK
  obtain ⟨rfl, hZ, hh, CH0⟩ := hP
  have hx := Bd.exec
  have hby := Bd.bytes
  have hml : c.maxLocals = 11 := hml0
  have hown : s.vm.findClass "com/example/concordat/concordat/server/KindByNamePinLaw" = some m.cls := findClass_of_methodNamed Bd.named
  have hnm := (name_of_methodNamed Bd.named Bd.method).1
  have hEL := own_hEL hw
  have X0 : Stand p l e room_1 s m #[(Value.int p1), (Value.int p2), (Value.int p3), (Value.int p4), (Value.int p5)] below meth c s₁ [] 0 0 := Stand.of_body Bd
  have e0 : s₁.heap = h0 := by rw [← hh, Bd.state]; rfl
  have hS0 : s.Since s.vm 0 := (State.WarmedH.refl s).since 0
  have N0 := Fr.nil n0
  have K0 : Keep h0 h0 [] := Keep.refl h0 []
  show own_Go _ _ _ _ (s₁.setTop (entryFrame m #[(Value.int p1), (Value.int p2), (Value.int p3), (Value.int p4), (Value.int p5)] maxLocals))
  refine own_Go.by (fun tq kq => castTop (own_ef_0 m p1 p2 p3 p4 p5) kq) ?_
  show own_Go _ _ _ _ (s₁.setTop (mkF m 0 #[sI p1, sI p2, sI p3, sI p4, sI p5, .unset, .unset, .unset, .unset, .unset, .unset] []))
  refine own_Go.by (fun tq kq => XS.iloadN X0.here hx rfl (hb hby at_0) rfl kq) ?_
  refine own_Go.by (fun tq kq => XS.iconst X0.here hx rfl (hb hby at_1) kq) ?_
  refine own_Go.by (fun tq kq => XS.iand X0.here hx rfl (hb hby at_2) rfl kq) ?_
  refine own_Go.by (fun tq kq => XS.istore X0.here hx rfl (hb hby at_3) rfl (l' := #[sI p1, sI p2, sI p3, sI p4, sI p5, sI (p1 &&& (3 : Int32)), .unset, .unset, .unset, .unset, .unset]) rfl kq) ?_
  show own_Go _ _ _ _ (s₁.setTop (mkF m 5 #[sI p1, sI p2, sI p3, sI p4, sI p5, sI (p1 &&& (3 : Int32)), .unset, .unset, .unset, .unset, .unset] []))
  refine own_Go.by (fun tq kq => XS.bipush X0.here hx rfl (hb hby at_5) kq) ?_
  show own_Go _ _ _ _ (s₁.setTop (mkF m 7 #[sI p1, sI p2, sI p3, sI p4, sI p5, sI (p1 &&& (3 : Int32)), .unset, .unset, .unset, .unset, .unset] [(Value.int (7 : Int32))]))
  obtain ⟨T1, h1, k1, X1, e1, E1, A1, Ea1, st1⟩ := newPE X0 hx hZ (hw _ (List.mem_of_getElem? (i := 0) rfl)) e0 (g := (mkF m 7 #[sI p1, sI p2, sI p3, sI p4, sI p5, sI (p1 &&& (3 : Int32)), .unset, .unset, .unset, .unset, .unset] [(Value.int (7 : Int32))])) rfl (hb hby at_7) rfl (by decide : ¬ ((7 : Int32) < (0 : Int32))) (cap := 7) (by decide : (7 : Int32).toNatClampNeg ≤ 7) (by decide) (by decide) (by decide) (ad := "[C") rfl
  obtain ⟨ob1, y1⟩ : ∃ z, z = h0.size := ⟨_, rfl⟩
  rw [← y1] at A1 Ea1 st1
  refine own_Go.by st1 ?_
  have O2 := O0.ext E1
  have K2 := K0.ext E1
  have g3 : n0 ≤ ob1 := Nat.le_trans (own_old_le O0) (Nat.le_of_eq y1.symm)
  have z3 : h0.size ≤ ob1 := Nat.le_trans K0.1 (Nat.le_of_eq y1.symm)
  have V1 : Arv Z h1 ob1 k1 .char (7 : Int32) [(Value.int (0 : Int32)), (Value.int (0 : Int32)), (Value.int (0 : Int32)), (Value.int (0 : Int32)), (Value.int (0 : Int32)), (Value.int (0 : Int32)), (Value.int (0 : Int32))] (Value.int (0 : Int32)) := (Arv.new A1 (by decide : ¬ ((7 : Int32) < (0 : Int32)))).pad (pad_rep [] (Value.int (0 : Int32)) 7)
  refine own_Go.by (fun tq kq => XS.astore X1.here hx rfl (hb hby at_9) rfl rfl (l' := #[sI p1, sI p2, sI p3, sI p4, sI p5, sI (p1 &&& (3 : Int32)), sR ob1, .unset, .unset, .unset, .unset]) rfl kq) ?_
  refine own_merge (α := State × Heap × List Loc × List Value × Int32 × Int32) (P := fun zz => Stand p l e room_1 s m #[(Value.int p1), (Value.int p2), (Value.int p3), (Value.int p4), (Value.int p5)] below meth c zz.1 zz.2.2.1 1 7 ∧ zz.1.heap = zz.2.1 ∧ Old Z n0 zz.2.1 ∧ Keep h0 zz.2.1 [] ∧ Fr n0 zz.2.2.1 ∧ Arv Z zz.2.1 ob1 k1 .char (7 : Int32) zz.2.2.2.1 (Value.int (0 : Int32)) ∧ (own_ok zz.2.2.2.1)) (F := fun zz => zz.1.setTop (mkF m 299 #[sI p1, sI p2, sI p3, sI p4, sI p5, sI (p1 &&& (3 : Int32)), sR ob1, .val (Value.int zz.2.2.2.2.1), .val (Value.int zz.2.2.2.2.2), .unset, .unset] [])) ?_ ?_
  ·
    rintro ⟨T4, h4, L4, vs4, nn, nu⟩ ⟨X4, e4, O4, K4, N4, V4, hm4⟩
    dsimp only at X4 e4 O4 K4 N4 V4 hm4
    obtain ⟨b0, b1, b2, b3, b4, b5, b6, rfl, hbn⟩ := own_ok7 hm4
    refine own_Go.by (fun tq kq => XS.iload X4.here hx rfl (hb hby at_299) rfl kq) ?_
    show own_Go _ _ _ _ (T4.setTop (mkF m 301 #[sI p1, sI p2, sI p3, sI p4, sI p5, sI (p1 &&& (3 : Int32)), sR ob1, sI nn, sI nu, .unset, .unset] [(Value.int nu)]))
    by_cases hc301_5 : nu = (0 : Int32)
    ·
      refine own_Go.by (fun tq kq => XS.ifYes X4.here hx rfl (pc0 := 301) (pc' := 308) rfl (hb hby at_301) rfl ((if0 _ _).trans (teq hc301_5).1) (by decide) (by decide) kq) ?_
      refine own_Go.by (fun tq kq => XS.aload X4.here hx rfl (hb hby at_308) rfl rfl kq) ?_
      refine own_Go.by (fun tq kq => XS.iload X4.here hx rfl (hb hby at_310) rfl kq) ?_
      show own_Go _ _ _ _ (T4.setTop (mkF m 312 #[sI p1, sI p2, sI p3, sI p4, sI p5, sI (p1 &&& (3 : Int32)), sR ob1, sI nn, sI nu, .unset, .unset] [(Value.int nn), (Value.ref ob1)]))
      have R7 := CHr.keep K4 all0 CH0
      obtain ⟨_, _, ⟨T6, L6, k6, n6⟩, -, X6, hs6, hg6, ⟨Lc6, hQ6, l6, y6, z6, R6⟩, st6⟩ := Jvm.RoadKit.callSS X4 hx (y := (⟨"com/example/concordat/concordat/server/KindByNamePinLaw", "make", "([CI)Ljava/lang/String;"⟩ : MethodName)) hown (mvT hZ (hw _ (List.mem_of_getElem? (i := 1) rfl))) (mvT hZ (hw _ (List.mem_of_getElem? (i := 2) rfl))) (mvT hZ (hw _ (List.mem_of_getElem? (i := 3) rfl))) (mvT hZ (hw _ (List.mem_of_getElem? (i := 4) rfl))) (by decide) (backOfSH (W := 0) (rm1 l Z a0 hw [] ob1 k1 b0 b1 b2 b3 b4 b5 b6 nn zc h4 n0 O4 V4 (hbn : ∀ c ∈ ([b0, b1, b2, b3, b4, b5, b6] : List Int32), ¬ c < 0 ∧ ¬ (255 : Int32) < c) H0 (hzc : ¬ (zc = (0 : Int32)))) hZ (hw _ (List.mem_of_getElem? (i := 4) rfl)) (hw _ (List.mem_of_getElem? (i := 3) rfl)) (by decide) (by decide) hEL R7.1) (g := (mkF m 312 #[sI p1, sI p2, sI p3, sI p4, sI p5, sI (p1 &&& (3 : Int32)), sR ob1, sI nn, sI nu, .unset, .unset] [(Value.int nn), (Value.ref ob1)])) rfl (by rw [hml]; rfl) (argsL := [(Value.ref ob1), (Value.int nn)]) (rest := []) (lenOf own_pd4 rfl) rfl (by show 2 * 0 + _ ≤ _; exact Nat.le_of_eq rfl) (hb hby at_312) (fun _ _ => ⟨rfl, e4, (by decide : 1 + 6 ≤ _), (by decide : 7 + 18 ≤ _)⟩)
      dsimp only [Pt.U, Pt.locs, Pt.cells, Pt.slots] at X6 l6 y6 z6 st6 hQ6 hs6 hg6 R6
      subst l6 y6 z6
      obtain ⟨X6, hS6, hZ6, hown6⟩ := rebS (s := s) (vm0 := s.vm) hS0 (Nat.zero_le _) X6 hs6 hg6 hZ hown
      refine own_Go.by (fun tq kq => st6.trans kq) ?_
      obtain ⟨x_6, t_6, kb_6, N2_6, vs2_6, cs_6, rfl, N6q, K6q, p6_0, p6_1, p6_2, p6_3, p6_4, p6_5⟩ := hQ6
      have N6 := Fr.app N4 N6q
      have O8 := O4.keep K6q all0
      have K8 := K4.trans K6q all0
      have g9 : n0 ≤ x_6 := Nat.le_trans (own_old_le O4) p6_0
      have z9 : h0.size ≤ x_6 := Nat.le_trans K4.1 p6_0
      refine own_Go.by (fun tq kq => XS.astore X6.here hx rfl (hb hby at_315) rfl rfl (l' := #[sI p1, sI p2, sI p3, sI p4, sI p5, sI (p1 &&& (3 : Int32)), sR ob1, sI nn, sI nu, sR x_6, .unset]) rfl kq) ?_
      refine own_Go.by (fun tq kq => XS.aload X6.here hx rfl (hb hby at_317) rfl rfl kq) ?_
      show own_Go _ _ _ _ (T6.setTop (mkF m 319 #[sI p1, sI p2, sI p3, sI p4, sI p5, sI (p1 &&& (3 : Int32)), sR ob1, sI nn, sI nu, sR x_6, .unset] [(Value.ref x_6)]))
      refine own_Go.by (fun tq kq => XS.ifnonnullYes X6.here hx rfl (pc0 := 319) (pc' := 328) rfl (hb hby at_319) rfl (by decide) (by decide) kq) ?_
      refine own_Go.by (fun tq kq => XS.aload X6.here hx rfl (hb hby at_328) rfl rfl kq) ?_
      show own_Go _ _ _ _ (T6.setTop (mkF m 330 #[sI p1, sI p2, sI p3, sI p4, sI p5, sI (p1 &&& (3 : Int32)), sR ob1, sI nn, sI nu, sR x_6, .unset] [(Value.ref x_6)]))
      obtain ⟨sa10, T10, h10, k10, sb10, kk10, X10, e10, E10, hS10, hk10, hZ10, hown10, Ea10, Fc10, Fv10, Va10, -, -, R10, -, hne10, st10⟩ := ldcCH (s := s) (vm0 := T6.vm) (EL := consts_1) X6 hx hZ6 hown6 (hw _ (List.mem_of_getElem? (i := 34) rfl)) (fun d hd => hw d (own_wS d hd)) rfl hS6 (Nat.le_refl _) hEL (List.mem_of_getElem? (i := 0) rfl) R6.1 (vs := [(Value.int (112 : Int32)), (Value.int (117 : Int32)), (Value.int (116 : Int32))]) (z := (3 : Int32)) ⟨by decide, by decide +kernel⟩ (by decide) rfl (g := (mkF m 330 #[sI p1, sI p2, sI p3, sI p4, sI p5, sI (p1 &&& (3 : Int32)), sR ob1, sI nn, sI nu, sR x_6, .unset] [(Value.ref x_6)])) rfl (hb hby at_330) (n := 12) (by decide) (by decide) (by decide) (by decide)
      refine own_Go.by st10 ?_
      have O11 := O8.ext E10
      have K11 := K8.ext E10
      show own_Go _ _ _ _ (T10.setTop (mkF m 332 #[sI p1, sI p2, sI p3, sI p4, sI p5, sI (p1 &&& (3 : Int32)), sR ob1, sI nn, sI nu, sR x_6, .unset] [(Value.ref sa10), (Value.ref x_6)]))
      have c13 := (p6_1.ext E10)
      have c14 := (p6_3.ext E10)
      have c15 := (p6_2.ext E10)
      have c16 := (p6_4.ext E10)
      obtain ⟨cq12, kq12, q12a, q12b, q12c⟩ := isOf hZ10 e10 c13
      obtain ⟨_, _, ⟨T12, L12, k12, n12⟩, -, X12, ⟨Lc12, hQ12, l12, y12, z12⟩, st12⟩ := X10.virtualBack hx (y := (⟨"java/lang/String", "equals", "(Ljava/lang/Object;)Z"⟩ : MethodName)) (z := (⟨"java/lang/String", "equals", "(Ljava/lang/Object;)Z"⟩ : MethodName)) hown10 (mvT hZ10 (hw _ (List.mem_of_getElem? (i := 37) rfl))) (mvT hZ10 (hw _ (List.mem_of_getElem? (i := 38) rfl))) (notFace_of_selects (args := #[]) (mvT hZ10 (hw _ (List.mem_of_getElem? (i := 40) rfl)))) (mvT hZ10 (hw _ (List.mem_of_getElem? (i := 40) rfl))) (mvT hZ10 (hw _ (List.mem_of_getElem? (i := 39) rfl))) (by decide) (StrChars.Road.eqW (W := 0) hZ10 (fun d hd => hw d (own_heq d hd)) (kI := 4) (hw _ (List.mem_of_getElem? (i := 6) rfl)) c13 c14 c15 c16 p6_5.1 (own_up _ p6_5.2.1) p6_5.2.2 Ea10 Fv10 Fc10 Va10 own_cod_put.1 (own_up _ own_cod_put.2.1) own_cod_put.2.2 (H0.ext O11.2) hzc (by decide) (by decide)) q12a q12c (g := (mkF m 332 #[sI p1, sI p2, sI p3, sI p4, sI p5, sI (p1 &&& (3 : Int32)), sR ob1, sI nn, sI nu, sR x_6, .unset] [(Value.ref sa10), (Value.ref x_6)])) rfl (by rw [hml]; rfl) (Steps.refl _) (argsL := [(Value.ref sa10)]) (rest := []) (lenOf own_pd3 rfl) rfl (by show 2 * 0 + _ ≤ _; exact Nat.le_of_eq rfl) (hb hby at_332) (fun _ _ => ⟨rfl, e10, (by decide : 9 + 0 ≤ _), (by decide : 41 + 0 ≤ _)⟩)
      dsimp only [Pt.U, Pt.locs, Pt.cells, Pt.slots] at X12 l12 y12 z12 st12 hQ12
      subst l12 y12 z12
      refine own_Go.by (fun tq kq => st12.trans kq) ?_
      obtain ⟨hv12, rfl, e12⟩ := hQ12
      obtain ⟨q12, rfl, heq12⟩ := own_eqv hv12
      have N12 := Fr.app N6 (Fr.nil n0)
      show own_Go _ _ _ _ (T12.setTop (mkF m 335 #[sI p1, sI p2, sI p3, sI p4, sI p5, sI (p1 &&& (3 : Int32)), sR ob1, sI nn, sI nu, sR x_6, .unset] [(Value.int q12)]))
      by_cases hc335_17 : q12 = (0 : Int32)
      ·
        refine own_Go.by (fun tq kq => XS.ifYes X12.here hx rfl (pc0 := 335) (pc' := 346) rfl (hb hby at_335) rfl ((if0 _ _).trans (teq hc335_17).1) (by decide) (by decide) kq) ?_
        refine own_Go.by (fun tq kq => XS.aload X12.here hx rfl (hb hby at_346) rfl rfl kq) ?_
        show own_Go _ _ _ _ (T12.setTop (mkF m 348 #[sI p1, sI p2, sI p3, sI p4, sI p5, sI (p1 &&& (3 : Int32)), sR ob1, sI nn, sI nu, sR x_6, .unset] [(Value.ref x_6)]))
        obtain ⟨sa18, T18, h18, k18, sb18, kk18, X18, e18, E18, hS18, hk18, hZ18, hown18, Ea18, Fc18, Fv18, Va18, -, -, R18, -, hne18, st18⟩ := ldcCH (s := s) (vm0 := T10.vm) (EL := consts_1) X12 hx hZ10 hown10 (hw _ (List.mem_of_getElem? (i := 74) rfl)) (fun d hd => hw d (own_wS d hd)) e12 hS10 hk10 hEL (List.mem_of_getElem? (i := 1) rfl) R10.1 (vs := [(Value.int (105 : Int32)), (Value.int (110 : Int32)), (Value.int (115 : Int32)), (Value.int (101 : Int32)), (Value.int (114 : Int32)), (Value.int (116 : Int32))]) (z := (6 : Int32)) ⟨by decide, by decide +kernel⟩ (by decide) rfl (g := (mkF m 348 #[sI p1, sI p2, sI p3, sI p4, sI p5, sI (p1 &&& (3 : Int32)), sR ob1, sI nn, sI nu, sR x_6, .unset] [(Value.ref x_6)])) rfl (hb hby at_348) (n := 24) (by decide) (by decide) (by decide) (by decide)
        refine own_Go.by st18 ?_
        have O19 := O11.ext E18
        have K19 := K11.ext E18
        show own_Go _ _ _ _ (T18.setTop (mkF m 350 #[sI p1, sI p2, sI p3, sI p4, sI p5, sI (p1 &&& (3 : Int32)), sR ob1, sI nn, sI nu, sR x_6, .unset] [(Value.ref sa18), (Value.ref x_6)]))
        have c21 := (c13.ext E18)
        have c22 := (c14.ext E18)
        have c23 := (c15.ext E18)
        have c24 := (c16.ext E18)
        obtain ⟨cq20, kq20, q20a, q20b, q20c⟩ := isOf hZ18 e18 c21
        obtain ⟨_, _, ⟨T20, L20, k20, n20⟩, -, X20, ⟨Lc20, hQ20, l20, y20, z20⟩, st20⟩ := X18.virtualBack hx (y := (⟨"java/lang/String", "equals", "(Ljava/lang/Object;)Z"⟩ : MethodName)) (z := (⟨"java/lang/String", "equals", "(Ljava/lang/Object;)Z"⟩ : MethodName)) hown18 (mvT hZ18 (hw _ (List.mem_of_getElem? (i := 37) rfl))) (mvT hZ18 (hw _ (List.mem_of_getElem? (i := 38) rfl))) (notFace_of_selects (args := #[]) (mvT hZ18 (hw _ (List.mem_of_getElem? (i := 40) rfl)))) (mvT hZ18 (hw _ (List.mem_of_getElem? (i := 40) rfl))) (mvT hZ18 (hw _ (List.mem_of_getElem? (i := 39) rfl))) (by decide) (StrChars.Road.eqW (W := 0) hZ18 (fun d hd => hw d (own_heq d hd)) (kI := 4) (hw _ (List.mem_of_getElem? (i := 6) rfl)) c21 c22 c23 c24 p6_5.1 (own_up _ p6_5.2.1) p6_5.2.2 Ea18 Fv18 Fc18 Va18 own_cod_insert.1 (own_up _ own_cod_insert.2.1) own_cod_insert.2.2 (H0.ext O19.2) hzc (by decide) (by decide)) q20a q20c (g := (mkF m 350 #[sI p1, sI p2, sI p3, sI p4, sI p5, sI (p1 &&& (3 : Int32)), sR ob1, sI nn, sI nu, sR x_6, .unset] [(Value.ref sa18), (Value.ref x_6)])) rfl (by rw [hml]; rfl) (Steps.refl _) (argsL := [(Value.ref sa18)]) (rest := []) (lenOf own_pd3 rfl) rfl (by show 2 * 0 + _ ≤ _; exact Nat.le_of_eq rfl) (hb hby at_350) (fun _ _ => ⟨rfl, e18, (by decide : 11 + 0 ≤ _), (by decide : 69 + 0 ≤ _)⟩)
        dsimp only [Pt.U, Pt.locs, Pt.cells, Pt.slots] at X20 l20 y20 z20 st20 hQ20
        subst l20 y20 z20
        refine own_Go.by (fun tq kq => st20.trans kq) ?_
        obtain ⟨hv20, rfl, e20⟩ := hQ20
        obtain ⟨q20, rfl, heq20⟩ := own_eqv hv20
        have N20 := Fr.app N12 (Fr.nil n0)
        show own_Go _ _ _ _ (T20.setTop (mkF m 353 #[sI p1, sI p2, sI p3, sI p4, sI p5, sI (p1 &&& (3 : Int32)), sR ob1, sI nn, sI nu, sR x_6, .unset] [(Value.int q20)]))
        by_cases hc353_25 : q20 = (0 : Int32)
        ·
          refine own_Go.by (fun tq kq => XS.ifYes X20.here hx rfl (pc0 := 353) (pc' := 364) rfl (hb hby at_353) rfl ((if0 _ _).trans (teq hc353_25).1) (by decide) (by decide) kq) ?_
          refine own_Go.by (fun tq kq => XS.aload X20.here hx rfl (hb hby at_364) rfl rfl kq) ?_
          show own_Go _ _ _ _ (T20.setTop (mkF m 366 #[sI p1, sI p2, sI p3, sI p4, sI p5, sI (p1 &&& (3 : Int32)), sR ob1, sI nn, sI nu, sR x_6, .unset] [(Value.ref x_6)]))
          obtain ⟨sa26, T26, h26, k26, sb26, kk26, X26, e26, E26, hS26, hk26, hZ26, hown26, Ea26, Fc26, Fv26, Va26, -, -, R26, -, hne26, st26⟩ := ldcCH (s := s) (vm0 := T18.vm) (EL := consts_1) X20 hx hZ18 hown18 (hw _ (List.mem_of_getElem? (i := 75) rfl)) (fun d hd => hw d (own_wS d hd)) e20 hS18 hk18 hEL (List.mem_of_getElem? (i := 2) rfl) R18.1 (vs := [(Value.int (103 : Int32)), (Value.int (101 : Int32)), (Value.int (116 : Int32))]) (z := (3 : Int32)) ⟨by decide, by decide +kernel⟩ (by decide) rfl (g := (mkF m 366 #[sI p1, sI p2, sI p3, sI p4, sI p5, sI (p1 &&& (3 : Int32)), sR ob1, sI nn, sI nu, sR x_6, .unset] [(Value.ref x_6)])) rfl (hb hby at_366) (n := 12) (by decide) (by decide) (by decide) (by decide)
          refine own_Go.by st26 ?_
          have O27 := O19.ext E26
          have K27 := K19.ext E26
          show own_Go _ _ _ _ (T26.setTop (mkF m 368 #[sI p1, sI p2, sI p3, sI p4, sI p5, sI (p1 &&& (3 : Int32)), sR ob1, sI nn, sI nu, sR x_6, .unset] [(Value.ref sa26), (Value.ref x_6)]))
          have c29 := (c21.ext E26)
          have c30 := (c22.ext E26)
          have c31 := (c23.ext E26)
          have c32 := (c24.ext E26)
          obtain ⟨cq28, kq28, q28a, q28b, q28c⟩ := isOf hZ26 e26 c29
          obtain ⟨_, _, ⟨T28, L28, k28, n28⟩, -, X28, ⟨Lc28, hQ28, l28, y28, z28⟩, st28⟩ := X26.virtualBack hx (y := (⟨"java/lang/String", "equals", "(Ljava/lang/Object;)Z"⟩ : MethodName)) (z := (⟨"java/lang/String", "equals", "(Ljava/lang/Object;)Z"⟩ : MethodName)) hown26 (mvT hZ26 (hw _ (List.mem_of_getElem? (i := 37) rfl))) (mvT hZ26 (hw _ (List.mem_of_getElem? (i := 38) rfl))) (notFace_of_selects (args := #[]) (mvT hZ26 (hw _ (List.mem_of_getElem? (i := 40) rfl)))) (mvT hZ26 (hw _ (List.mem_of_getElem? (i := 40) rfl))) (mvT hZ26 (hw _ (List.mem_of_getElem? (i := 39) rfl))) (by decide) (StrChars.Road.eqW (W := 0) hZ26 (fun d hd => hw d (own_heq d hd)) (kI := 4) (hw _ (List.mem_of_getElem? (i := 6) rfl)) c29 c30 c31 c32 p6_5.1 (own_up _ p6_5.2.1) p6_5.2.2 Ea26 Fv26 Fc26 Va26 own_cod_get.1 (own_up _ own_cod_get.2.1) own_cod_get.2.2 (H0.ext O27.2) hzc (by decide) (by decide)) q28a q28c (g := (mkF m 368 #[sI p1, sI p2, sI p3, sI p4, sI p5, sI (p1 &&& (3 : Int32)), sR ob1, sI nn, sI nu, sR x_6, .unset] [(Value.ref sa26), (Value.ref x_6)])) rfl (by rw [hml]; rfl) (Steps.refl _) (argsL := [(Value.ref sa26)]) (rest := []) (lenOf own_pd3 rfl) rfl (by show 2 * 0 + _ ≤ _; exact Nat.le_of_eq rfl) (hb hby at_368) (fun _ _ => ⟨rfl, e26, (by decide : 13 + 0 ≤ _), (by decide : 85 + 0 ≤ _)⟩)
          dsimp only [Pt.U, Pt.locs, Pt.cells, Pt.slots] at X28 l28 y28 z28 st28 hQ28
          subst l28 y28 z28
          refine own_Go.by (fun tq kq => st28.trans kq) ?_
          obtain ⟨hv28, rfl, e28⟩ := hQ28
          obtain ⟨q28, rfl, heq28⟩ := own_eqv hv28
          have N28 := Fr.app N20 (Fr.nil n0)
          show own_Go _ _ _ _ (T28.setTop (mkF m 371 #[sI p1, sI p2, sI p3, sI p4, sI p5, sI (p1 &&& (3 : Int32)), sR ob1, sI nn, sI nu, sR x_6, .unset] [(Value.int q28)]))
          by_cases hc371_33 : q28 = (0 : Int32)
          ·
            refine own_Go.by (fun tq kq => XS.ifYes X28.here hx rfl (pc0 := 371) (pc' := 382) rfl (hb hby at_371) rfl ((if0 _ _).trans (teq hc371_33).1) (by decide) (by decide) kq) ?_
            refine own_Go.by (fun tq kq => XS.aconstNull X28.here hx rfl (hb hby at_382) kq) ?_
            refine own_Go.by (fun tq kq => XS.astore X28.here hx rfl (hb hby at_383) rfl rfl (l' := #[sI p1, sI p2, sI p3, sI p4, sI p5, sI (p1 &&& (3 : Int32)), sR ob1, sI nn, sI nu, sR x_6, .val .null]) rfl kq) ?_
            refine own_Go.by (fun tq kq => XS.aload X28.here hx rfl (hb hby at_385) rfl rfl kq) ?_
            show own_Go _ _ _ _ (T28.setTop (mkF m 387 #[sI p1, sI p2, sI p3, sI p4, sI p5, sI (p1 &&& (3 : Int32)), sR ob1, sI nn, sI nu, sR x_6, .val .null] [(Value.ref x_6)]))
            obtain ⟨_, _, ⟨T34, L34, k34, n34⟩, -, X34, ⟨Lc34, hQ34, l34, y34, z34⟩, st34⟩ := Jvm.LawKit.callS X28 hx (y := (⟨"com/example/concordat/concordat/server/Operation$Kind", "byName", "(Ljava/lang/String;)Lcom/example/concordat/concordat/server/Operation$Kind;"⟩ : MethodName)) hown26 (mvT hZ26 (hw _ (List.mem_of_getElem? (i := 50) rfl))) (mvT hZ26 (hw _ (List.mem_of_getElem? (i := 51) rfl))) (mvT hZ26 (hw _ (List.mem_of_getElem? (i := 48) rfl))) (mvT hZ26 (hw _ (List.mem_of_getElem? (i := 52) rfl))) (by decide) (backOf (W := 0) (rm10_s l Z a0 hw [] x_6 t_6 kb_6 N2_6 vs2_6 cs_6 zc aV aP aI aG kV uP tP kP uI tI kI uG tG kG h26 n0 O27 c29 c31 c30 c32 (p6_5 : StrChars.Road.CodA cs_6 (0 : Int32) N2_6 vs2_6 ∧ (∀ c ∈ cs_6, ¬ c < 0 ∧ ¬ (255 : Int32) < c) ∧ cs_6.length ≤ 4000) H0 (hzc : ¬ (zc = (0 : Int32))) H5 H6 H7 H8 H9 H10 H11 H12 H13 H14 H15 H16 H17 H18 H19 H20 H21 H22 H23 H24 H25) hZ26 (hw _ (List.mem_of_getElem? (i := 52) rfl)) (hw _ (List.mem_of_getElem? (i := 48) rfl)) (by decide) (by decide)) (g := (mkF m 387 #[sI p1, sI p2, sI p3, sI p4, sI p5, sI (p1 &&& (3 : Int32)), sR ob1, sI nn, sI nu, sR x_6, .val .null] [(Value.ref x_6)])) rfl (by rw [hml]; rfl) (argsL := [(Value.ref x_6)]) (rest := []) (lenOf own_pd5 rfl) rfl (by show 2 * 0 + _ ≤ _; exact Nat.le_of_eq rfl) (hb hby at_387) (fun _ _ => ⟨rfl, e28, (by decide : 13 + 1 ≤ _), (by decide : 85 + 3 ≤ _)⟩)
            dsimp only [Pt.U, Pt.locs, Pt.cells, Pt.slots] at X34 l34 y34 z34 st34 hQ34
            subst l34 y34 z34
            refine own_Go.by st34 ?_
            obtain ⟨rfl, N34q, K34q⟩ := hQ34
            have N34 := Fr.app N28 N34q
            have O35 := O27.keep K34q all0
            have K35 := K27.trans K34q all0
            have hk_35 := Nat.le_trans hk26 K34q.1
            show own_Go _ _ _ _ (T34.setTop (mkF m 390 #[sI p1, sI p2, sI p3, sI p4, sI p5, sI (p1 &&& (3 : Int32)), sR ob1, sI nn, sI nu, sR x_6, .val .null] [(own_pick cs_6 aP aI aG)]))
            rw [(own_pick4 (own_eqF heq12 hc335_17) (own_eqF heq20 hc353_25) (own_eqF heq28 hc371_33))]
            refine own_Go.by (fun tq kq => XS.aload X34.here hx rfl (hb hby at_390) rfl rfl kq) ?_
            show own_Go _ _ _ _ (T34.setTop (mkF m 392 #[sI p1, sI p2, sI p3, sI p4, sI p5, sI (p1 &&& (3 : Int32)), sR ob1, sI nn, sI nu, sR x_6, .val .null] [.null, .null]))
            refine own_Go.by (fun tq kq => Jvm.RoadKit.acmp (g := (mkF m 392 #[sI p1, sI p2, sI p3, sI p4, sI p5, sI (p1 &&& (3 : Int32)), sR ob1, sI nn, sI nu, sR x_6, .val .null] [.null, .null])) X34 hx rfl rfl rfl (pc0 := 392) (pc' := 395) (same := true) rfl (hb hby at_392) rfl (decide_eq_true rfl) (by decide) (by decide) kq) ?_
            refine own_Go.by (fun tq kq => XS.iconst X34.here hx rfl (hb hby at_395) kq) ?_
            refine own_Go.by (fun tq kq => XS.goto X34.here hx rfl (pc0 := 396) (pc' := 400) rfl (hb hby at_396) (by decide) (by decide) kq) ?_
            show own_Go _ _ _ _ (T34.setTop (mkF m 400 #[sI p1, sI p2, sI p3, sI p4, sI p5, sI (p1 &&& (3 : Int32)), sR ob1, sI nn, sI nu, sR x_6, .val .null] [(Value.int (1 : Int32))]))
            obtain ⟨fs, hr, hrun, hended, hRE⟩ := Stand.leaveW (s := s) (vm₁ := T26.vm) X34 hS26 hk_35 (v := some (Value.int (nar .boolean (1 : Int32)))) (fun h => by rw [Bd.returns] at h; cases h)
            have R36 := CHr.keep K34q all0 R26.1
            have hCR := (((((R7.trans R6).trans R10).trans R18).trans R26).trans R36)
            have hCZ : CHr Z consts_1 s.vm s.heap T34.vm T34.heap := by
              rw [hh]
              exact hCR.trans (CHv.at (s := s) (vm0 := T26.vm) X34 hZ26 hEL hCR.1)
            refine own_Go.fin (retN X34 hx (t := .boolean) Bd.returns (by simp) (hb hby at_400) hr) ⟨hrun, hended, _, _, rfl, ?_, hCZ, own_rew hRE (by decide) (by decide)⟩
            show Q0 Z p1 p2 p3 p4 p5 zc aV aP aI aG kV uP tP kP uI tI kI uG tG kG h0 n0 _ T34.heap _
            exact ⟨rfl, N34, K35⟩
          ·
            refine own_Go.by (fun tq kq => XS.ifNo X28.here hx rfl (hb hby at_371) rfl ((if0 _ _).trans (feq hc371_33).1) kq) ?_
            show own_Go _ _ _ _ (T28.setTop (mkF m 374 #[sI p1, sI p2, sI p3, sI p4, sI p5, sI (p1 &&& (3 : Int32)), sR ob1, sI nn, sI nu, sR x_6, .unset] []))
            obtain ⟨T37, X37, e37, st37⟩ := getS2 X28 hx hZ26 hown26 (host := "") (Or.inl (hw _ (List.mem_of_getElem? (i := 76) rfl))) Via.refl e28 (H4.ext O27.2) (g := (mkF m 374 #[sI p1, sI p2, sI p3, sI p4, sI p5, sI (p1 &&& (3 : Int32)), sR ob1, sI nn, sI nu, sR x_6, .unset] [])) rfl (hb hby at_374)
            refine own_Go.by st37 ?_
            refine own_Go.by (fun tq kq => XS.astore X37.here hx rfl (hb hby at_377) rfl rfl (l' := #[sI p1, sI p2, sI p3, sI p4, sI p5, sI (p1 &&& (3 : Int32)), sR ob1, sI nn, sI nu, sR x_6, sR aG]) rfl kq) ?_
            refine own_Go.by (fun tq kq => XS.goto X37.here hx rfl (pc0 := 379) (pc' := 385) rfl (hb hby at_379) (by decide) (by decide) kq) ?_
            refine own_Go.by (fun tq kq => XS.aload X37.here hx rfl (hb hby at_385) rfl rfl kq) ?_
            show own_Go _ _ _ _ (T37.setTop (mkF m 387 #[sI p1, sI p2, sI p3, sI p4, sI p5, sI (p1 &&& (3 : Int32)), sR ob1, sI nn, sI nu, sR x_6, sR aG] [(Value.ref x_6)]))
            obtain ⟨_, _, ⟨T38, L38, k38, n38⟩, -, X38, ⟨Lc38, hQ38, l38, y38, z38⟩, st38⟩ := Jvm.LawKit.callS X37 hx (y := (⟨"com/example/concordat/concordat/server/Operation$Kind", "byName", "(Ljava/lang/String;)Lcom/example/concordat/concordat/server/Operation$Kind;"⟩ : MethodName)) hown26 (mvT hZ26 (hw _ (List.mem_of_getElem? (i := 50) rfl))) (mvT hZ26 (hw _ (List.mem_of_getElem? (i := 51) rfl))) (mvT hZ26 (hw _ (List.mem_of_getElem? (i := 48) rfl))) (mvT hZ26 (hw _ (List.mem_of_getElem? (i := 52) rfl))) (by decide) (backOf (W := 0) (rm10_s l Z a0 hw [] x_6 t_6 kb_6 N2_6 vs2_6 cs_6 zc aV aP aI aG kV uP tP kP uI tI kI uG tG kG h26 n0 O27 c29 c31 c30 c32 (p6_5 : StrChars.Road.CodA cs_6 (0 : Int32) N2_6 vs2_6 ∧ (∀ c ∈ cs_6, ¬ c < 0 ∧ ¬ (255 : Int32) < c) ∧ cs_6.length ≤ 4000) H0 (hzc : ¬ (zc = (0 : Int32))) H5 H6 H7 H8 H9 H10 H11 H12 H13 H14 H15 H16 H17 H18 H19 H20 H21 H22 H23 H24 H25) hZ26 (hw _ (List.mem_of_getElem? (i := 52) rfl)) (hw _ (List.mem_of_getElem? (i := 48) rfl)) (by decide) (by decide)) (g := (mkF m 387 #[sI p1, sI p2, sI p3, sI p4, sI p5, sI (p1 &&& (3 : Int32)), sR ob1, sI nn, sI nu, sR x_6, sR aG] [(Value.ref x_6)])) rfl (by rw [hml]; rfl) (argsL := [(Value.ref x_6)]) (rest := []) (lenOf own_pd5 rfl) rfl (by show 2 * 0 + _ ≤ _; exact Nat.le_of_eq rfl) (hb hby at_387) (fun _ _ => ⟨rfl, e37, (by decide : 13 + 1 ≤ _), (by decide : 85 + 3 ≤ _)⟩)
            dsimp only [Pt.U, Pt.locs, Pt.cells, Pt.slots] at X38 l38 y38 z38 st38 hQ38
            subst l38 y38 z38
            refine own_Go.by st38 ?_
            obtain ⟨rfl, N38q, K38q⟩ := hQ38
            have N38 := Fr.app N28 N38q
            have O39 := O27.keep K38q all0
            have K39 := K27.trans K38q all0
            have hk_39 := Nat.le_trans hk26 K38q.1
            show own_Go _ _ _ _ (T38.setTop (mkF m 390 #[sI p1, sI p2, sI p3, sI p4, sI p5, sI (p1 &&& (3 : Int32)), sR ob1, sI nn, sI nu, sR x_6, sR aG] [(own_pick cs_6 aP aI aG)]))
            rw [(own_pick3 (own_eqF heq12 hc335_17) (own_eqF heq20 hc353_25) (own_eqT heq28 hc371_33))]
            refine own_Go.by (fun tq kq => XS.aload X38.here hx rfl (hb hby at_390) rfl rfl kq) ?_
            show own_Go _ _ _ _ (T38.setTop (mkF m 392 #[sI p1, sI p2, sI p3, sI p4, sI p5, sI (p1 &&& (3 : Int32)), sR ob1, sI nn, sI nu, sR x_6, sR aG] [(Value.ref aG), (Value.ref aG)]))
            refine own_Go.by (fun tq kq => Jvm.RoadKit.acmp (g := (mkF m 392 #[sI p1, sI p2, sI p3, sI p4, sI p5, sI (p1 &&& (3 : Int32)), sR ob1, sI nn, sI nu, sR x_6, sR aG] [(Value.ref aG), (Value.ref aG)])) X38 hx rfl rfl rfl (pc0 := 392) (pc' := 395) (same := true) rfl (hb hby at_392) rfl (decide_eq_true rfl) (by decide) (by decide) kq) ?_
            refine own_Go.by (fun tq kq => XS.iconst X38.here hx rfl (hb hby at_395) kq) ?_
            refine own_Go.by (fun tq kq => XS.goto X38.here hx rfl (pc0 := 396) (pc' := 400) rfl (hb hby at_396) (by decide) (by decide) kq) ?_
            show own_Go _ _ _ _ (T38.setTop (mkF m 400 #[sI p1, sI p2, sI p3, sI p4, sI p5, sI (p1 &&& (3 : Int32)), sR ob1, sI nn, sI nu, sR x_6, sR aG] [(Value.int (1 : Int32))]))
            obtain ⟨fs, hr, hrun, hended, hRE⟩ := Stand.leaveW (s := s) (vm₁ := T26.vm) X38 hS26 hk_39 (v := some (Value.int (nar .boolean (1 : Int32)))) (fun h => by rw [Bd.returns] at h; cases h)
            have R40 := CHr.keep K38q all0 R26.1
            have hCR := (((((R7.trans R6).trans R10).trans R18).trans R26).trans R40)
            have hCZ : CHr Z consts_1 s.vm s.heap T38.vm T38.heap := by
              rw [hh]
              exact hCR.trans (CHv.at (s := s) (vm0 := T26.vm) X38 hZ26 hEL hCR.1)
            refine own_Go.fin (retN X38 hx (t := .boolean) Bd.returns (by simp) (hb hby at_400) hr) ⟨hrun, hended, _, _, rfl, ?_, hCZ, own_rew hRE (by decide) (by decide)⟩
            show Q0 Z p1 p2 p3 p4 p5 zc aV aP aI aG kV uP tP kP uI tI kI uG tG kG h0 n0 _ T38.heap _
            exact ⟨rfl, N38, K39⟩
        ·
          refine own_Go.by (fun tq kq => XS.ifNo X20.here hx rfl (hb hby at_353) rfl ((if0 _ _).trans (feq hc353_25).1) kq) ?_
          show own_Go _ _ _ _ (T20.setTop (mkF m 356 #[sI p1, sI p2, sI p3, sI p4, sI p5, sI (p1 &&& (3 : Int32)), sR ob1, sI nn, sI nu, sR x_6, .unset] []))
          obtain ⟨T41, X41, e41, st41⟩ := getS2 X20 hx hZ18 hown18 (host := "") (Or.inl (hw _ (List.mem_of_getElem? (i := 77) rfl))) Via.refl e20 (H3.ext O19.2) (g := (mkF m 356 #[sI p1, sI p2, sI p3, sI p4, sI p5, sI (p1 &&& (3 : Int32)), sR ob1, sI nn, sI nu, sR x_6, .unset] [])) rfl (hb hby at_356)
          refine own_Go.by st41 ?_
          refine own_Go.by (fun tq kq => XS.astore X41.here hx rfl (hb hby at_359) rfl rfl (l' := #[sI p1, sI p2, sI p3, sI p4, sI p5, sI (p1 &&& (3 : Int32)), sR ob1, sI nn, sI nu, sR x_6, sR aI]) rfl kq) ?_
          refine own_Go.by (fun tq kq => XS.goto X41.here hx rfl (pc0 := 361) (pc' := 385) rfl (hb hby at_361) (by decide) (by decide) kq) ?_
          refine own_Go.by (fun tq kq => XS.aload X41.here hx rfl (hb hby at_385) rfl rfl kq) ?_
          show own_Go _ _ _ _ (T41.setTop (mkF m 387 #[sI p1, sI p2, sI p3, sI p4, sI p5, sI (p1 &&& (3 : Int32)), sR ob1, sI nn, sI nu, sR x_6, sR aI] [(Value.ref x_6)]))
          obtain ⟨_, _, ⟨T42, L42, k42, n42⟩, -, X42, ⟨Lc42, hQ42, l42, y42, z42⟩, st42⟩ := Jvm.LawKit.callS X41 hx (y := (⟨"com/example/concordat/concordat/server/Operation$Kind", "byName", "(Ljava/lang/String;)Lcom/example/concordat/concordat/server/Operation$Kind;"⟩ : MethodName)) hown18 (mvT hZ18 (hw _ (List.mem_of_getElem? (i := 50) rfl))) (mvT hZ18 (hw _ (List.mem_of_getElem? (i := 51) rfl))) (mvT hZ18 (hw _ (List.mem_of_getElem? (i := 48) rfl))) (mvT hZ18 (hw _ (List.mem_of_getElem? (i := 52) rfl))) (by decide) (backOf (W := 0) (rm10_s l Z a0 hw [] x_6 t_6 kb_6 N2_6 vs2_6 cs_6 zc aV aP aI aG kV uP tP kP uI tI kI uG tG kG h18 n0 O19 c21 c23 c22 c24 (p6_5 : StrChars.Road.CodA cs_6 (0 : Int32) N2_6 vs2_6 ∧ (∀ c ∈ cs_6, ¬ c < 0 ∧ ¬ (255 : Int32) < c) ∧ cs_6.length ≤ 4000) H0 (hzc : ¬ (zc = (0 : Int32))) H5 H6 H7 H8 H9 H10 H11 H12 H13 H14 H15 H16 H17 H18 H19 H20 H21 H22 H23 H24 H25) hZ18 (hw _ (List.mem_of_getElem? (i := 52) rfl)) (hw _ (List.mem_of_getElem? (i := 48) rfl)) (by decide) (by decide)) (g := (mkF m 387 #[sI p1, sI p2, sI p3, sI p4, sI p5, sI (p1 &&& (3 : Int32)), sR ob1, sI nn, sI nu, sR x_6, sR aI] [(Value.ref x_6)])) rfl (by rw [hml]; rfl) (argsL := [(Value.ref x_6)]) (rest := []) (lenOf own_pd5 rfl) rfl (by show 2 * 0 + _ ≤ _; exact Nat.le_of_eq rfl) (hb hby at_387) (fun _ _ => ⟨rfl, e41, (by decide : 11 + 1 ≤ _), (by decide : 69 + 3 ≤ _)⟩)
          dsimp only [Pt.U, Pt.locs, Pt.cells, Pt.slots] at X42 l42 y42 z42 st42 hQ42
          subst l42 y42 z42
          refine own_Go.by st42 ?_
          obtain ⟨rfl, N42q, K42q⟩ := hQ42
          have N42 := Fr.app N20 N42q
          have O43 := O19.keep K42q all0
          have K43 := K19.trans K42q all0
          have hk_43 := Nat.le_trans hk18 K42q.1
          show own_Go _ _ _ _ (T42.setTop (mkF m 390 #[sI p1, sI p2, sI p3, sI p4, sI p5, sI (p1 &&& (3 : Int32)), sR ob1, sI nn, sI nu, sR x_6, sR aI] [(own_pick cs_6 aP aI aG)]))
          rw [(own_pick2 (own_eqF heq12 hc335_17) (own_eqT heq20 hc353_25))]
          refine own_Go.by (fun tq kq => XS.aload X42.here hx rfl (hb hby at_390) rfl rfl kq) ?_
          show own_Go _ _ _ _ (T42.setTop (mkF m 392 #[sI p1, sI p2, sI p3, sI p4, sI p5, sI (p1 &&& (3 : Int32)), sR ob1, sI nn, sI nu, sR x_6, sR aI] [(Value.ref aI), (Value.ref aI)]))
          refine own_Go.by (fun tq kq => Jvm.RoadKit.acmp (g := (mkF m 392 #[sI p1, sI p2, sI p3, sI p4, sI p5, sI (p1 &&& (3 : Int32)), sR ob1, sI nn, sI nu, sR x_6, sR aI] [(Value.ref aI), (Value.ref aI)])) X42 hx rfl rfl rfl (pc0 := 392) (pc' := 395) (same := true) rfl (hb hby at_392) rfl (decide_eq_true rfl) (by decide) (by decide) kq) ?_
          refine own_Go.by (fun tq kq => XS.iconst X42.here hx rfl (hb hby at_395) kq) ?_
          refine own_Go.by (fun tq kq => XS.goto X42.here hx rfl (pc0 := 396) (pc' := 400) rfl (hb hby at_396) (by decide) (by decide) kq) ?_
          show own_Go _ _ _ _ (T42.setTop (mkF m 400 #[sI p1, sI p2, sI p3, sI p4, sI p5, sI (p1 &&& (3 : Int32)), sR ob1, sI nn, sI nu, sR x_6, sR aI] [(Value.int (1 : Int32))]))
          obtain ⟨fs, hr, hrun, hended, hRE⟩ := Stand.leaveW (s := s) (vm₁ := T18.vm) X42 hS18 hk_43 (v := some (Value.int (nar .boolean (1 : Int32)))) (fun h => by rw [Bd.returns] at h; cases h)
          have R44 := CHr.keep K42q all0 R18.1
          have hCR := ((((R7.trans R6).trans R10).trans R18).trans R44)
          have hCZ : CHr Z consts_1 s.vm s.heap T42.vm T42.heap := by
            rw [hh]
            exact hCR.trans (CHv.at (s := s) (vm0 := T18.vm) X42 hZ18 hEL hCR.1)
          refine own_Go.fin (retN X42 hx (t := .boolean) Bd.returns (by simp) (hb hby at_400) hr) ⟨hrun, hended, _, _, rfl, ?_, hCZ, own_rew hRE (by decide) (by decide)⟩
          show Q0 Z p1 p2 p3 p4 p5 zc aV aP aI aG kV uP tP kP uI tI kI uG tG kG h0 n0 _ T42.heap _
          exact ⟨rfl, N42, K43⟩
      ·
        refine own_Go.by (fun tq kq => XS.ifNo X12.here hx rfl (hb hby at_335) rfl ((if0 _ _).trans (feq hc335_17).1) kq) ?_
        show own_Go _ _ _ _ (T12.setTop (mkF m 338 #[sI p1, sI p2, sI p3, sI p4, sI p5, sI (p1 &&& (3 : Int32)), sR ob1, sI nn, sI nu, sR x_6, .unset] []))
        obtain ⟨T45, X45, e45, st45⟩ := getS2 X12 hx hZ10 hown10 (host := "") (Or.inl (hw _ (List.mem_of_getElem? (i := 47) rfl))) Via.refl e12 (H2.ext O11.2) (g := (mkF m 338 #[sI p1, sI p2, sI p3, sI p4, sI p5, sI (p1 &&& (3 : Int32)), sR ob1, sI nn, sI nu, sR x_6, .unset] [])) rfl (hb hby at_338)
        refine own_Go.by st45 ?_
        refine own_Go.by (fun tq kq => XS.astore X45.here hx rfl (hb hby at_341) rfl rfl (l' := #[sI p1, sI p2, sI p3, sI p4, sI p5, sI (p1 &&& (3 : Int32)), sR ob1, sI nn, sI nu, sR x_6, sR aP]) rfl kq) ?_
        refine own_Go.by (fun tq kq => XS.goto X45.here hx rfl (pc0 := 343) (pc' := 385) rfl (hb hby at_343) (by decide) (by decide) kq) ?_
        refine own_Go.by (fun tq kq => XS.aload X45.here hx rfl (hb hby at_385) rfl rfl kq) ?_
        show own_Go _ _ _ _ (T45.setTop (mkF m 387 #[sI p1, sI p2, sI p3, sI p4, sI p5, sI (p1 &&& (3 : Int32)), sR ob1, sI nn, sI nu, sR x_6, sR aP] [(Value.ref x_6)]))
        obtain ⟨_, _, ⟨T46, L46, k46, n46⟩, -, X46, ⟨Lc46, hQ46, l46, y46, z46⟩, st46⟩ := Jvm.LawKit.callS X45 hx (y := (⟨"com/example/concordat/concordat/server/Operation$Kind", "byName", "(Ljava/lang/String;)Lcom/example/concordat/concordat/server/Operation$Kind;"⟩ : MethodName)) hown10 (mvT hZ10 (hw _ (List.mem_of_getElem? (i := 50) rfl))) (mvT hZ10 (hw _ (List.mem_of_getElem? (i := 51) rfl))) (mvT hZ10 (hw _ (List.mem_of_getElem? (i := 48) rfl))) (mvT hZ10 (hw _ (List.mem_of_getElem? (i := 52) rfl))) (by decide) (backOf (W := 0) (rm10_s l Z a0 hw [] x_6 t_6 kb_6 N2_6 vs2_6 cs_6 zc aV aP aI aG kV uP tP kP uI tI kI uG tG kG h10 n0 O11 c13 c15 c14 c16 (p6_5 : StrChars.Road.CodA cs_6 (0 : Int32) N2_6 vs2_6 ∧ (∀ c ∈ cs_6, ¬ c < 0 ∧ ¬ (255 : Int32) < c) ∧ cs_6.length ≤ 4000) H0 (hzc : ¬ (zc = (0 : Int32))) H5 H6 H7 H8 H9 H10 H11 H12 H13 H14 H15 H16 H17 H18 H19 H20 H21 H22 H23 H24 H25) hZ10 (hw _ (List.mem_of_getElem? (i := 52) rfl)) (hw _ (List.mem_of_getElem? (i := 48) rfl)) (by decide) (by decide)) (g := (mkF m 387 #[sI p1, sI p2, sI p3, sI p4, sI p5, sI (p1 &&& (3 : Int32)), sR ob1, sI nn, sI nu, sR x_6, sR aP] [(Value.ref x_6)])) rfl (by rw [hml]; rfl) (argsL := [(Value.ref x_6)]) (rest := []) (lenOf own_pd5 rfl) rfl (by show 2 * 0 + _ ≤ _; exact Nat.le_of_eq rfl) (hb hby at_387) (fun _ _ => ⟨rfl, e45, (by decide : 9 + 1 ≤ _), (by decide : 41 + 3 ≤ _)⟩)
        dsimp only [Pt.U, Pt.locs, Pt.cells, Pt.slots] at X46 l46 y46 z46 st46 hQ46
        subst l46 y46 z46
        refine own_Go.by st46 ?_
        obtain ⟨rfl, N46q, K46q⟩ := hQ46
        have N46 := Fr.app N12 N46q
        have O47 := O11.keep K46q all0
        have K47 := K11.trans K46q all0
        have hk_47 := Nat.le_trans hk10 K46q.1
        show own_Go _ _ _ _ (T46.setTop (mkF m 390 #[sI p1, sI p2, sI p3, sI p4, sI p5, sI (p1 &&& (3 : Int32)), sR ob1, sI nn, sI nu, sR x_6, sR aP] [(own_pick cs_6 aP aI aG)]))
        rw [(own_pick1 (own_eqT heq12 hc335_17))]
        refine own_Go.by (fun tq kq => XS.aload X46.here hx rfl (hb hby at_390) rfl rfl kq) ?_
        show own_Go _ _ _ _ (T46.setTop (mkF m 392 #[sI p1, sI p2, sI p3, sI p4, sI p5, sI (p1 &&& (3 : Int32)), sR ob1, sI nn, sI nu, sR x_6, sR aP] [(Value.ref aP), (Value.ref aP)]))
        refine own_Go.by (fun tq kq => Jvm.RoadKit.acmp (g := (mkF m 392 #[sI p1, sI p2, sI p3, sI p4, sI p5, sI (p1 &&& (3 : Int32)), sR ob1, sI nn, sI nu, sR x_6, sR aP] [(Value.ref aP), (Value.ref aP)])) X46 hx rfl rfl rfl (pc0 := 392) (pc' := 395) (same := true) rfl (hb hby at_392) rfl (decide_eq_true rfl) (by decide) (by decide) kq) ?_
        refine own_Go.by (fun tq kq => XS.iconst X46.here hx rfl (hb hby at_395) kq) ?_
        refine own_Go.by (fun tq kq => XS.goto X46.here hx rfl (pc0 := 396) (pc' := 400) rfl (hb hby at_396) (by decide) (by decide) kq) ?_
        show own_Go _ _ _ _ (T46.setTop (mkF m 400 #[sI p1, sI p2, sI p3, sI p4, sI p5, sI (p1 &&& (3 : Int32)), sR ob1, sI nn, sI nu, sR x_6, sR aP] [(Value.int (1 : Int32))]))
        obtain ⟨fs, hr, hrun, hended, hRE⟩ := Stand.leaveW (s := s) (vm₁ := T10.vm) X46 hS10 hk_47 (v := some (Value.int (nar .boolean (1 : Int32)))) (fun h => by rw [Bd.returns] at h; cases h)
        have R48 := CHr.keep K46q all0 R10.1
        have hCR := (((R7.trans R6).trans R10).trans R48)
        have hCZ : CHr Z consts_1 s.vm s.heap T46.vm T46.heap := by
          rw [hh]
          exact hCR.trans (CHv.at (s := s) (vm0 := T10.vm) X46 hZ10 hEL hCR.1)
        refine own_Go.fin (retN X46 hx (t := .boolean) Bd.returns (by simp) (hb hby at_400) hr) ⟨hrun, hended, _, _, rfl, ?_, hCZ, own_rew hRE (by decide) (by decide)⟩
        show Q0 Z p1 p2 p3 p4 p5 zc aV aP aI aG kV uP tP kP uI tI kI uG tG kG h0 n0 _ T46.heap _
        exact ⟨rfl, N46, K47⟩
    ·
      refine own_Go.by (fun tq kq => XS.ifNo X4.here hx rfl (hb hby at_301) rfl ((if0 _ _).trans (feq hc301_5).1) kq) ?_
      refine own_Go.by (fun tq kq => XS.aconstNull X4.here hx rfl (hb hby at_304) kq) ?_
      refine own_Go.by (fun tq kq => XS.goto X4.here hx rfl (pc0 := 305) (pc' := 315) rfl (hb hby at_305) (by decide) (by decide) kq) ?_
      refine own_Go.by (fun tq kq => XS.astore X4.here hx rfl (hb hby at_315) rfl rfl (l' := #[sI p1, sI p2, sI p3, sI p4, sI p5, sI (p1 &&& (3 : Int32)), sR ob1, sI nn, sI nu, .val .null, .unset]) rfl kq) ?_
      show own_Go _ _ _ _ (T4.setTop (mkF m 317 #[sI p1, sI p2, sI p3, sI p4, sI p5, sI (p1 &&& (3 : Int32)), sR ob1, sI nn, sI nu, .val .null, .unset] []))
      refine own_Go.by (fun tq kq => XS.aload X4.here hx rfl (hb hby at_317) rfl rfl kq) ?_
      show own_Go _ _ _ _ (T4.setTop (mkF m 319 #[sI p1, sI p2, sI p3, sI p4, sI p5, sI (p1 &&& (3 : Int32)), sR ob1, sI nn, sI nu, .val .null, .unset] [.null]))
      refine own_Go.by (fun tq kq => XS.ifnonnullNo X4.here hx rfl (hb hby at_319) rfl kq) ?_
      refine own_Go.by (fun tq kq => XS.aconstNull X4.here hx rfl (hb hby at_322) kq) ?_
      refine own_Go.by (fun tq kq => XS.astore X4.here hx rfl (hb hby at_323) rfl rfl (l' := #[sI p1, sI p2, sI p3, sI p4, sI p5, sI (p1 &&& (3 : Int32)), sR ob1, sI nn, sI nu, .val .null, .val .null]) rfl kq) ?_
      refine own_Go.by (fun tq kq => XS.goto X4.here hx rfl (pc0 := 325) (pc' := 385) rfl (hb hby at_325) (by decide) (by decide) kq) ?_
      show own_Go _ _ _ _ (T4.setTop (mkF m 385 #[sI p1, sI p2, sI p3, sI p4, sI p5, sI (p1 &&& (3 : Int32)), sR ob1, sI nn, sI nu, .val .null, .val .null] []))
      refine own_Go.by (fun tq kq => XS.aload X4.here hx rfl (hb hby at_385) rfl rfl kq) ?_
      show own_Go _ _ _ _ (T4.setTop (mkF m 387 #[sI p1, sI p2, sI p3, sI p4, sI p5, sI (p1 &&& (3 : Int32)), sR ob1, sI nn, sI nu, .val .null, .val .null] [.null]))
      obtain ⟨_, _, ⟨T49, L49, k49, n49⟩, -, X49, ⟨Lc49, hQ49, l49, y49, z49⟩, st49⟩ := Jvm.LawKit.callS X4 hx (y := (⟨"com/example/concordat/concordat/server/Operation$Kind", "byName", "(Ljava/lang/String;)Lcom/example/concordat/concordat/server/Operation$Kind;"⟩ : MethodName)) hown (mvT hZ (hw _ (List.mem_of_getElem? (i := 50) rfl))) (mvT hZ (hw _ (List.mem_of_getElem? (i := 51) rfl))) (mvT hZ (hw _ (List.mem_of_getElem? (i := 48) rfl))) (mvT hZ (hw _ (List.mem_of_getElem? (i := 52) rfl))) (by decide) (backOf (W := 0) (rm10_n l Z a0 hw [] zc aV aP aI aG kV uP tP kP uI tI kI uG tG kG h4 n0 O4 H5 H6 H7 H8 H9 H10 H11 H12 H13 H14 H15 H16 H17 H18 H19 H20 H21 H22 H23 H24 H25) hZ (hw _ (List.mem_of_getElem? (i := 52) rfl)) (hw _ (List.mem_of_getElem? (i := 48) rfl)) (by decide) (by decide)) (g := (mkF m 387 #[sI p1, sI p2, sI p3, sI p4, sI p5, sI (p1 &&& (3 : Int32)), sR ob1, sI nn, sI nu, .val .null, .val .null] [.null])) rfl (by rw [hml]; rfl) (argsL := [.null]) (rest := []) (lenOf own_pd5 rfl) rfl (by show 2 * 0 + _ ≤ _; exact Nat.le_of_eq rfl) (hb hby at_387) (fun _ _ => ⟨rfl, e4, (by decide : 1 + 1 ≤ _), (by decide : 7 + 3 ≤ _)⟩)
      dsimp only [Pt.U, Pt.locs, Pt.cells, Pt.slots] at X49 l49 y49 z49 st49 hQ49
      subst l49 y49 z49
      refine own_Go.by st49 ?_
      obtain ⟨rfl, N49q, K49q⟩ := hQ49
      have N49 := Fr.app N4 N49q
      have O50 := O4.keep K49q all0
      have K50 := K4.trans K49q all0
      refine own_Go.by (fun tq kq => XS.aload X49.here hx rfl (hb hby at_390) rfl rfl kq) ?_
      show own_Go _ _ _ _ (T49.setTop (mkF m 392 #[sI p1, sI p2, sI p3, sI p4, sI p5, sI (p1 &&& (3 : Int32)), sR ob1, sI nn, sI nu, .val .null, .val .null] [.null, .null]))
      refine own_Go.by (fun tq kq => Jvm.RoadKit.acmp (g := (mkF m 392 #[sI p1, sI p2, sI p3, sI p4, sI p5, sI (p1 &&& (3 : Int32)), sR ob1, sI nn, sI nu, .val .null, .val .null] [.null, .null])) X49 hx rfl rfl rfl (pc0 := 392) (pc' := 395) (same := true) rfl (hb hby at_392) rfl (decide_eq_true rfl) (by decide) (by decide) kq) ?_
      refine own_Go.by (fun tq kq => XS.iconst X49.here hx rfl (hb hby at_395) kq) ?_
      refine own_Go.by (fun tq kq => XS.goto X49.here hx rfl (pc0 := 396) (pc' := 400) rfl (hb hby at_396) (by decide) (by decide) kq) ?_
      show own_Go _ _ _ _ (T49.setTop (mkF m 400 #[sI p1, sI p2, sI p3, sI p4, sI p5, sI (p1 &&& (3 : Int32)), sR ob1, sI nn, sI nu, .val .null, .val .null] [(Value.int (1 : Int32))]))
      obtain ⟨fs, hr, hrun, hended, hRE⟩ := Stand.leaveW (s := s) (vm₁ := s.vm) X49 hS0 (Nat.zero_le _) (v := some (Value.int (nar .boolean (1 : Int32)))) (fun h => by rw [Bd.returns] at h; cases h)
      have R51 := CHr.keep K4 all0 CH0
      have R52 := CHr.keep K49q all0 R51.1
      have hCR := (R51.trans R52)
      have hCZ : CHr Z consts_1 s.vm s.heap T49.vm T49.heap := by
        rw [hh]
        exact hCR.trans (CHv.at (s := s) (vm0 := s.vm) X49 hZ hEL hCR.1)
      refine own_Go.fin (retN X49 hx (t := .boolean) Bd.returns (by simp) (hb hby at_400) hr) ⟨hrun, hended, _, _, rfl, ?_, hCZ, own_rew hRE (by decide) (by decide)⟩
      show Q0 Z p1 p2 p3 p4 p5 zc aV aP aI aG kV uP tP kP uI tI kI uG tG kG h0 n0 _ T49.heap _
      exact ⟨rfl, N49, K50⟩
  ·
    intro g_4
    refine own_Go.by (fun tq kq => XS.iconst X1.here hx rfl (hb hby at_11) kq) ?_
    refine own_Go.by (fun tq kq => XS.istore X1.here hx rfl (hb hby at_12) rfl (l' := #[sI p1, sI p2, sI p3, sI p4, sI p5, sI (p1 &&& (3 : Int32)), sR ob1, .unset, sI (0 : Int32), .unset, .unset]) rfl kq) ?_
    show own_Go _ _ _ _ (T1.setTop (mkF m 14 #[sI p1, sI p2, sI p3, sI p4, sI p5, sI (p1 &&& (3 : Int32)), sR ob1, .unset, sI (0 : Int32), .unset, .unset] []))
    refine own_Go.by (fun tq kq => XS.iload X1.here hx rfl (hb hby at_14) rfl kq) ?_
    show own_Go _ _ _ _ (T1.setTop (mkF m 16 #[sI p1, sI p2, sI p3, sI p4, sI p5, sI (p1 &&& (3 : Int32)), sR ob1, .unset, sI (0 : Int32), .unset, .unset] [(Value.int (p1 &&& (3 : Int32)))]))
    by_cases hc16_53 : (p1 &&& (3 : Int32)) = (0 : Int32)
    ·
      refine own_Go.by (fun tq kq => XS.ifNo X1.here hx rfl (hb hby at_16) rfl ((if0 _ _).trans (teq hc16_53).2) kq) ?_
      refine own_Go.by (fun tq kq => XS.aload X1.here hx rfl (hb hby at_19) rfl rfl kq) ?_
      refine own_Go.by (fun tq kq => XS.iconst X1.here hx rfl (hb hby at_21) kq) ?_
      refine own_Go.by (fun tq kq => XS.bipush X1.here hx rfl (hb hby at_22) kq) ?_
      show own_Go _ _ _ _ (T1.setTop (mkF m 24 #[sI p1, sI p2, sI p3, sI p4, sI p5, sI (p1 &&& (3 : Int32)), sR ob1, .unset, sI (0 : Int32), .unset, .unset] [(Value.int (112 : Int32)), (Value.int (0 : Int32)), (Value.ref ob1)]))
      obtain ⟨cl54, Ar54, q54, S54, M54, Hh54, G54⟩ := id V1
      obtain ⟨T55, h55, X55, e55, W55, st55⟩ := stC X1 hx hZ e1 Ar54 (j := (0 : Int32)) (inb_of S54 ⟨(by decide : ¬ ((0 : Int32) < (0 : Int32))), (by decide : (0 : Int32) < (7 : Int32))⟩) (g := (mkF m 24 #[sI p1, sI p2, sI p3, sI p4, sI p5, sI (p1 &&& (3 : Int32)), sR ob1, .unset, sI (0 : Int32), .unset, .unset] [(Value.int (112 : Int32)), (Value.int (0 : Int32)), (Value.ref ob1)])) rfl rfl (hb hby at_24)
      refine own_Go.by st55 ?_
      have N55 := Fr.snoc X55 N0 g3
      have O56 := O2.wr W55 g3
      have K56 := K2.wr W55 (Or.inr z3)
      rw [show nar .char (112 : Int32) = (112 : Int32) from rfl] at W55
      have V55 : Arv Z h55 ob1 k1 .char (7 : Int32) [(Value.int (112 : Int32)), (Value.int (0 : Int32)), (Value.int (0 : Int32)), (Value.int (0 : Int32)), (Value.int (0 : Int32)), (Value.int (0 : Int32)), (Value.int (0 : Int32))] (Value.int (0 : Int32)) := Arv.set Ar54 q54 S54 M54 Hh54 G54 (own_fitC (rfl)) W55 0 rfl (Nat.le_of_ble_eq_true rfl)
      refine own_Go.by (fun tq kq => XS.aload X55.here hx rfl (hb hby at_25) rfl rfl kq) ?_
      refine own_Go.by (fun tq kq => XS.iconst X55.here hx rfl (hb hby at_27) kq) ?_
      refine own_Go.by (fun tq kq => XS.bipush X55.here hx rfl (hb hby at_28) kq) ?_
      show own_Go _ _ _ _ (T55.setTop (mkF m 30 #[sI p1, sI p2, sI p3, sI p4, sI p5, sI (p1 &&& (3 : Int32)), sR ob1, .unset, sI (0 : Int32), .unset, .unset] [(Value.int (117 : Int32)), (Value.int (1 : Int32)), (Value.ref ob1)]))
      obtain ⟨cl57, Ar57, q57, S57, M57, Hh57, G57⟩ := id V55
      obtain ⟨T58, h58, X58, e58, W58, st58⟩ := stC X55 hx hZ e55 Ar57 (j := (1 : Int32)) (inb_of S57 ⟨(by decide : ¬ ((1 : Int32) < (0 : Int32))), (by decide : (1 : Int32) < (7 : Int32))⟩) (g := (mkF m 30 #[sI p1, sI p2, sI p3, sI p4, sI p5, sI (p1 &&& (3 : Int32)), sR ob1, .unset, sI (0 : Int32), .unset, .unset] [(Value.int (117 : Int32)), (Value.int (1 : Int32)), (Value.ref ob1)])) rfl rfl (hb hby at_30)
      refine own_Go.by st58 ?_
      have N58 := Fr.snoc X58 N55 g3
      have O59 := O56.wr W58 g3
      have K59 := K56.wr W58 (Or.inr z3)
      rw [show nar .char (117 : Int32) = (117 : Int32) from rfl] at W58
      have V58 : Arv Z h58 ob1 k1 .char (7 : Int32) [(Value.int (112 : Int32)), (Value.int (117 : Int32)), (Value.int (0 : Int32)), (Value.int (0 : Int32)), (Value.int (0 : Int32)), (Value.int (0 : Int32)), (Value.int (0 : Int32))] (Value.int (0 : Int32)) := Arv.set Ar57 q57 S57 M57 Hh57 G57 (own_fitC (rfl)) W58 1 rfl (Nat.le_of_ble_eq_true rfl)
      refine own_Go.by (fun tq kq => XS.aload X58.here hx rfl (hb hby at_31) rfl rfl kq) ?_
      refine own_Go.by (fun tq kq => XS.iconst X58.here hx rfl (hb hby at_33) kq) ?_
      refine own_Go.by (fun tq kq => XS.bipush X58.here hx rfl (hb hby at_34) kq) ?_
      show own_Go _ _ _ _ (T58.setTop (mkF m 36 #[sI p1, sI p2, sI p3, sI p4, sI p5, sI (p1 &&& (3 : Int32)), sR ob1, .unset, sI (0 : Int32), .unset, .unset] [(Value.int (116 : Int32)), (Value.int (2 : Int32)), (Value.ref ob1)]))
      obtain ⟨cl60, Ar60, q60, S60, M60, Hh60, G60⟩ := id V58
      obtain ⟨T61, h61, X61, e61, W61, st61⟩ := stC X58 hx hZ e58 Ar60 (j := (2 : Int32)) (inb_of S60 ⟨(by decide : ¬ ((2 : Int32) < (0 : Int32))), (by decide : (2 : Int32) < (7 : Int32))⟩) (g := (mkF m 36 #[sI p1, sI p2, sI p3, sI p4, sI p5, sI (p1 &&& (3 : Int32)), sR ob1, .unset, sI (0 : Int32), .unset, .unset] [(Value.int (116 : Int32)), (Value.int (2 : Int32)), (Value.ref ob1)])) rfl rfl (hb hby at_36)
      refine own_Go.by st61 ?_
      have N61 := Fr.snoc X61 N58 g3
      have O62 := O59.wr W61 g3
      have K62 := K59.wr W61 (Or.inr z3)
      rw [show nar .char (116 : Int32) = (116 : Int32) from rfl] at W61
      have V61 : Arv Z h61 ob1 k1 .char (7 : Int32) [(Value.int (112 : Int32)), (Value.int (117 : Int32)), (Value.int (116 : Int32)), (Value.int (0 : Int32)), (Value.int (0 : Int32)), (Value.int (0 : Int32)), (Value.int (0 : Int32))] (Value.int (0 : Int32)) := Arv.set Ar60 q60 S60 M60 Hh60 G60 (own_fitC (rfl)) W61 2 rfl (Nat.le_of_ble_eq_true rfl)
      refine own_Go.by (fun tq kq => XS.iconst X61.here hx rfl (hb hby at_37) kq) ?_
      refine own_Go.by (fun tq kq => XS.istore X61.here hx rfl (hb hby at_38) rfl (l' := #[sI p1, sI p2, sI p3, sI p4, sI p5, sI (p1 &&& (3 : Int32)), sR ob1, sI (3 : Int32), sI (0 : Int32), .unset, .unset]) rfl kq) ?_
      refine own_Go.by (fun tq kq => XS.goto X61.here hx rfl (pc0 := 40) (pc' := 234) rfl (hb hby at_40) (by decide) (by decide) kq) ?_
      show own_Go _ _ _ _ (T61.setTop (mkF m 234 #[sI p1, sI p2, sI p3, sI p4, sI p5, sI (p1 &&& (3 : Int32)), sR ob1, sI (3 : Int32), sI (0 : Int32), .unset, .unset] []))
      refine own_Go.by (fun tq kq => XS.iload X61.here hx rfl (hb hby at_234) rfl kq) ?_
      refine own_Go.by (fun tq kq => XS.iconst X61.here hx rfl (hb hby at_236) kq) ?_
      show own_Go _ _ _ _ (T61.setTop (mkF m 237 #[sI p1, sI p2, sI p3, sI p4, sI p5, sI (p1 &&& (3 : Int32)), sR ob1, sI (3 : Int32), sI (0 : Int32), .unset, .unset] [(Value.int (3 : Int32)), (Value.int (p1 &&& (3 : Int32)))]))
      refine own_Go.by (fun tq kq => XS.icmpNo X61.here hx rfl (hb hby at_237) rfl (tlt (by rw [hc16_53]; decide : (p1 &&& (3 : Int32)) < (3 : Int32))).2.1 kq) ?_
      refine own_Go.by (fun tq kq => XS.iloadN X61.here hx rfl (hb hby at_240) rfl kq) ?_
      refine own_Go.by (fun tq kq => XS.iconst X61.here hx rfl (hb hby at_241) kq) ?_
      refine own_Go.by (fun tq kq => XS.iand X61.here hx rfl (hb hby at_242) rfl kq) ?_
      show own_Go _ _ _ _ (T61.setTop (mkF m 243 #[sI p1, sI p2, sI p3, sI p4, sI p5, sI (p1 &&& (3 : Int32)), sR ob1, sI (3 : Int32), sI (0 : Int32), .unset, .unset] [(Value.int (p1 &&& (4 : Int32)))]))
      by_cases hc243_63 : (p1 &&& (4 : Int32)) = (0 : Int32)
      ·
        refine own_Go.by (fun tq kq => XS.ifYes X61.here hx rfl (pc0 := 243) (pc' := 262) rfl (hb hby at_243) rfl ((if0 _ _).trans (teq hc243_63).1) (by decide) (by decide) kq) ?_
        refine own_Go.by (fun tq kq => XS.iloadN X61.here hx rfl (hb hby at_262) rfl kq) ?_
        refine own_Go.by (fun tq kq => XS.bipush X61.here hx rfl (hb hby at_263) kq) ?_
        refine own_Go.by (fun tq kq => XS.iand X61.here hx rfl (hb hby at_265) rfl kq) ?_
        show own_Go _ _ _ _ (T61.setTop (mkF m 266 #[sI p1, sI p2, sI p3, sI p4, sI p5, sI (p1 &&& (3 : Int32)), sR ob1, sI (3 : Int32), sI (0 : Int32), .unset, .unset] [(Value.int (p1 &&& (8 : Int32)))]))
        by_cases hc266_64 : (p1 &&& (8 : Int32)) = (0 : Int32)
        ·
          refine own_Go.by (fun tq kq => XS.ifYes X61.here hx rfl (pc0 := 266) (pc' := 275) rfl (hb hby at_266) rfl ((if0 _ _).trans (teq hc266_64).1) (by decide) (by decide) kq) ?_
          refine own_Go.by (fun tq kq => XS.iloadN X61.here hx rfl (hb hby at_275) rfl kq) ?_
          refine own_Go.by (fun tq kq => XS.bipush X61.here hx rfl (hb hby at_276) kq) ?_
          refine own_Go.by (fun tq kq => XS.iand X61.here hx rfl (hb hby at_278) rfl kq) ?_
          show own_Go _ _ _ _ (T61.setTop (mkF m 279 #[sI p1, sI p2, sI p3, sI p4, sI p5, sI (p1 &&& (3 : Int32)), sR ob1, sI (3 : Int32), sI (0 : Int32), .unset, .unset] [(Value.int (p1 &&& (16 : Int32)))]))
          by_cases hc279_65 : (p1 &&& (16 : Int32)) = (0 : Int32)
          ·
            refine own_Go.by (fun tq kq => XS.ifYes X61.here hx rfl (pc0 := 279) (pc' := 299) rfl (hb hby at_279) rfl ((if0 _ _).trans (teq hc279_65).1) (by decide) (by decide) kq) ?_
            have hok66 : own_ok [(Value.int (112 : Int32)), (Value.int (117 : Int32)), (Value.int (116 : Int32)), (Value.int (0 : Int32)), (Value.int (0 : Int32)), (Value.int (0 : Int32)), (Value.int (0 : Int32))] := own_okL [(112 : Int32), (117 : Int32), (116 : Int32), (0 : Int32), (0 : Int32), (0 : Int32), (0 : Int32)] rfl (by
                intro c hc
                simp only [List.mem_cons, List.not_mem_nil, or_false] at hc
                rcases hc with rfl | rfl | rfl | rfl | rfl | rfl | rfl
                · exact by decide
                · exact by decide
                · exact by decide
                · exact by decide
                · exact by decide
                · exact by decide
                · exact by decide)
            exact g_4 (T61, h61, _, [(Value.int (112 : Int32)), (Value.int (117 : Int32)), (Value.int (116 : Int32)), (Value.int (0 : Int32)), (Value.int (0 : Int32)), (Value.int (0 : Int32)), (Value.int (0 : Int32))], (3 : Int32), (0 : Int32)) ⟨X61, e61, O62, K62, N61, V61, hok66⟩
          ·
            refine own_Go.by (fun tq kq => XS.ifNo X61.here hx rfl (hb hby at_279) rfl ((if0 _ _).trans (feq hc279_65).1) kq) ?_
            refine own_Go.by (fun tq kq => XS.aload X61.here hx rfl (hb hby at_282) rfl rfl kq) ?_
            refine own_Go.by (fun tq kq => XS.iload X61.here hx rfl (hb hby at_284) rfl kq) ?_
            refine own_Go.by (fun tq kq => XS.iloadN X61.here hx rfl (hb hby at_286) rfl kq) ?_
            show own_Go _ _ _ _ (T61.setTop (mkF m 287 #[sI p1, sI p2, sI p3, sI p4, sI p5, sI (p1 &&& (3 : Int32)), sR ob1, sI (3 : Int32), sI (0 : Int32), .unset, .unset] [(Value.int p4), (Value.int (3 : Int32)), (Value.ref ob1)]))
            refine own_Go.by (fun tq kq => XS.sipush X61.here hx rfl (hb hby at_287) kq) ?_
            refine own_Go.by (fun tq kq => XS.iand X61.here hx rfl (hb hby at_290) rfl kq) ?_
            refine own_Go.by (fun tq kq => XS.i2c X61.here hx rfl (hb hby at_291) rfl kq) ?_
            show own_Go _ _ _ _ (T61.setTop (mkF m 292 #[sI p1, sI p2, sI p3, sI p4, sI p5, sI (p1 &&& (3 : Int32)), sR ob1, sI (3 : Int32), sI (0 : Int32), .unset, .unset] [(Value.int ((p4 &&& (255 : Int32)).toUInt32.toUInt16.toUInt32.toInt32)), (Value.int (3 : Int32)), (Value.ref ob1)]))
            obtain ⟨cl67, Ar67, q67, S67, M67, Hh67, G67⟩ := id V61
            obtain ⟨T68, h68, X68, e68, W68, st68⟩ := stC X61 hx hZ e61 Ar67 (j := (3 : Int32)) (inb_of S67 ⟨(by decide : ¬ ((3 : Int32) < (0 : Int32))), (by decide : (3 : Int32) < (7 : Int32))⟩) (g := (mkF m 292 #[sI p1, sI p2, sI p3, sI p4, sI p5, sI (p1 &&& (3 : Int32)), sR ob1, sI (3 : Int32), sI (0 : Int32), .unset, .unset] [(Value.int ((p4 &&& (255 : Int32)).toUInt32.toUInt16.toUInt32.toInt32)), (Value.int (3 : Int32)), (Value.ref ob1)])) rfl rfl (hb hby at_292)
            refine own_Go.by st68 ?_
            have N68 := Fr.snoc X68 N61 g3
            have O69 := O62.wr W68 g3
            have K69 := K62.wr W68 (Or.inr z3)
            rw [show nar .char ((p4 &&& (255 : Int32)).toUInt32.toUInt16.toUInt32.toInt32) = ((p4 &&& (255 : Int32)).toUInt32.toUInt16.toUInt32.toInt32) from (own_b255 rfl).2] at W68
            have V68 : Arv Z h68 ob1 k1 .char (7 : Int32) [(Value.int (112 : Int32)), (Value.int (117 : Int32)), (Value.int (116 : Int32)), (Value.int ((p4 &&& (255 : Int32)).toUInt32.toUInt16.toUInt32.toInt32)), (Value.int (0 : Int32)), (Value.int (0 : Int32)), (Value.int (0 : Int32))] (Value.int (0 : Int32)) := Arv.set Ar67 q67 S67 M67 Hh67 G67 (own_fitC ((own_b255 rfl).2)) W68 3 rfl (Nat.le_of_ble_eq_true rfl)
            refine own_Go.by (fun tq kq => XS.iload X68.here hx rfl (hb hby at_293) rfl kq) ?_
            refine own_Go.by (fun tq kq => XS.iconst X68.here hx rfl (hb hby at_295) kq) ?_
            refine own_Go.by (fun tq kq => XS.iadd X68.here hx rfl (hb hby at_296) rfl kq) ?_
            show own_Go _ _ _ _ (T68.setTop (mkF m 297 #[sI p1, sI p2, sI p3, sI p4, sI p5, sI (p1 &&& (3 : Int32)), sR ob1, sI (3 : Int32), sI (0 : Int32), .unset, .unset] [(Value.int (4 : Int32))]))
            refine own_Go.by (fun tq kq => XS.istore X68.here hx rfl (hb hby at_297) rfl (l' := #[sI p1, sI p2, sI p3, sI p4, sI p5, sI (p1 &&& (3 : Int32)), sR ob1, sI (4 : Int32), sI (0 : Int32), .unset, .unset]) rfl kq) ?_
            have hok70 : own_ok [(Value.int (112 : Int32)), (Value.int (117 : Int32)), (Value.int (116 : Int32)), (Value.int ((p4 &&& (255 : Int32)).toUInt32.toUInt16.toUInt32.toInt32)), (Value.int (0 : Int32)), (Value.int (0 : Int32)), (Value.int (0 : Int32))] := own_okL [(112 : Int32), (117 : Int32), (116 : Int32), ((p4 &&& (255 : Int32)).toUInt32.toUInt16.toUInt32.toInt32), (0 : Int32), (0 : Int32), (0 : Int32)] rfl (by
                intro c hc
                simp only [List.mem_cons, List.not_mem_nil, or_false] at hc
                rcases hc with rfl | rfl | rfl | rfl | rfl | rfl | rfl
                · exact by decide
                · exact by decide
                · exact by decide
                · exact (own_b255 rfl).1
                · exact by decide
                · exact by decide
                · exact by decide)
            exact g_4 (T68, h68, _, [(Value.int (112 : Int32)), (Value.int (117 : Int32)), (Value.int (116 : Int32)), (Value.int ((p4 &&& (255 : Int32)).toUInt32.toUInt16.toUInt32.toInt32)), (Value.int (0 : Int32)), (Value.int (0 : Int32)), (Value.int (0 : Int32))], (4 : Int32), (0 : Int32)) ⟨X68, e68, O69, K69, N68, V68, hok70⟩
        ·
          refine own_Go.by (fun tq kq => XS.ifNo X61.here hx rfl (hb hby at_266) rfl ((if0 _ _).trans (feq hc266_64).1) kq) ?_
          refine own_Go.by (fun tq kq => XS.iload X61.here hx rfl (hb hby at_269) rfl kq) ?_
          refine own_Go.by (fun tq kq => XS.iconst X61.here hx rfl (hb hby at_271) kq) ?_
          refine own_Go.by (fun tq kq => XS.isub X61.here hx rfl (hb hby at_272) rfl kq) ?_
          show own_Go _ _ _ _ (T61.setTop (mkF m 273 #[sI p1, sI p2, sI p3, sI p4, sI p5, sI (p1 &&& (3 : Int32)), sR ob1, sI (3 : Int32), sI (0 : Int32), .unset, .unset] [(Value.int (2 : Int32))]))
          refine own_Go.by (fun tq kq => XS.istore X61.here hx rfl (hb hby at_273) rfl (l' := #[sI p1, sI p2, sI p3, sI p4, sI p5, sI (p1 &&& (3 : Int32)), sR ob1, sI (2 : Int32), sI (0 : Int32), .unset, .unset]) rfl kq) ?_
          refine own_Go.by (fun tq kq => XS.iloadN X61.here hx rfl (hb hby at_275) rfl kq) ?_
          refine own_Go.by (fun tq kq => XS.bipush X61.here hx rfl (hb hby at_276) kq) ?_
          refine own_Go.by (fun tq kq => XS.iand X61.here hx rfl (hb hby at_278) rfl kq) ?_
          show own_Go _ _ _ _ (T61.setTop (mkF m 279 #[sI p1, sI p2, sI p3, sI p4, sI p5, sI (p1 &&& (3 : Int32)), sR ob1, sI (2 : Int32), sI (0 : Int32), .unset, .unset] [(Value.int (p1 &&& (16 : Int32)))]))
          by_cases hc279_71 : (p1 &&& (16 : Int32)) = (0 : Int32)
          ·
            refine own_Go.by (fun tq kq => XS.ifYes X61.here hx rfl (pc0 := 279) (pc' := 299) rfl (hb hby at_279) rfl ((if0 _ _).trans (teq hc279_71).1) (by decide) (by decide) kq) ?_
            have hok72 : own_ok [(Value.int (112 : Int32)), (Value.int (117 : Int32)), (Value.int (116 : Int32)), (Value.int (0 : Int32)), (Value.int (0 : Int32)), (Value.int (0 : Int32)), (Value.int (0 : Int32))] := own_okL [(112 : Int32), (117 : Int32), (116 : Int32), (0 : Int32), (0 : Int32), (0 : Int32), (0 : Int32)] rfl (by
                intro c hc
                simp only [List.mem_cons, List.not_mem_nil, or_false] at hc
                rcases hc with rfl | rfl | rfl | rfl | rfl | rfl | rfl
                · exact by decide
                · exact by decide
                · exact by decide
                · exact by decide
                · exact by decide
                · exact by decide
                · exact by decide)
            exact g_4 (T61, h61, _, [(Value.int (112 : Int32)), (Value.int (117 : Int32)), (Value.int (116 : Int32)), (Value.int (0 : Int32)), (Value.int (0 : Int32)), (Value.int (0 : Int32)), (Value.int (0 : Int32))], (2 : Int32), (0 : Int32)) ⟨X61, e61, O62, K62, N61, V61, hok72⟩
          ·
            refine own_Go.by (fun tq kq => XS.ifNo X61.here hx rfl (hb hby at_279) rfl ((if0 _ _).trans (feq hc279_71).1) kq) ?_
            refine own_Go.by (fun tq kq => XS.aload X61.here hx rfl (hb hby at_282) rfl rfl kq) ?_
            refine own_Go.by (fun tq kq => XS.iload X61.here hx rfl (hb hby at_284) rfl kq) ?_
            refine own_Go.by (fun tq kq => XS.iloadN X61.here hx rfl (hb hby at_286) rfl kq) ?_
            show own_Go _ _ _ _ (T61.setTop (mkF m 287 #[sI p1, sI p2, sI p3, sI p4, sI p5, sI (p1 &&& (3 : Int32)), sR ob1, sI (2 : Int32), sI (0 : Int32), .unset, .unset] [(Value.int p4), (Value.int (2 : Int32)), (Value.ref ob1)]))
            refine own_Go.by (fun tq kq => XS.sipush X61.here hx rfl (hb hby at_287) kq) ?_
            refine own_Go.by (fun tq kq => XS.iand X61.here hx rfl (hb hby at_290) rfl kq) ?_
            refine own_Go.by (fun tq kq => XS.i2c X61.here hx rfl (hb hby at_291) rfl kq) ?_
            show own_Go _ _ _ _ (T61.setTop (mkF m 292 #[sI p1, sI p2, sI p3, sI p4, sI p5, sI (p1 &&& (3 : Int32)), sR ob1, sI (2 : Int32), sI (0 : Int32), .unset, .unset] [(Value.int ((p4 &&& (255 : Int32)).toUInt32.toUInt16.toUInt32.toInt32)), (Value.int (2 : Int32)), (Value.ref ob1)]))
            obtain ⟨cl73, Ar73, q73, S73, M73, Hh73, G73⟩ := id V61
            obtain ⟨T74, h74, X74, e74, W74, st74⟩ := stC X61 hx hZ e61 Ar73 (j := (2 : Int32)) (inb_of S73 ⟨(by decide : ¬ ((2 : Int32) < (0 : Int32))), (by decide : (2 : Int32) < (7 : Int32))⟩) (g := (mkF m 292 #[sI p1, sI p2, sI p3, sI p4, sI p5, sI (p1 &&& (3 : Int32)), sR ob1, sI (2 : Int32), sI (0 : Int32), .unset, .unset] [(Value.int ((p4 &&& (255 : Int32)).toUInt32.toUInt16.toUInt32.toInt32)), (Value.int (2 : Int32)), (Value.ref ob1)])) rfl rfl (hb hby at_292)
            refine own_Go.by st74 ?_
            have N74 := Fr.snoc X74 N61 g3
            have O75 := O62.wr W74 g3
            have K75 := K62.wr W74 (Or.inr z3)
            rw [show nar .char ((p4 &&& (255 : Int32)).toUInt32.toUInt16.toUInt32.toInt32) = ((p4 &&& (255 : Int32)).toUInt32.toUInt16.toUInt32.toInt32) from (own_b255 rfl).2] at W74
            have V74 : Arv Z h74 ob1 k1 .char (7 : Int32) [(Value.int (112 : Int32)), (Value.int (117 : Int32)), (Value.int ((p4 &&& (255 : Int32)).toUInt32.toUInt16.toUInt32.toInt32)), (Value.int (0 : Int32)), (Value.int (0 : Int32)), (Value.int (0 : Int32)), (Value.int (0 : Int32))] (Value.int (0 : Int32)) := Arv.set Ar73 q73 S73 M73 Hh73 G73 (own_fitC ((own_b255 rfl).2)) W74 2 rfl (Nat.le_of_ble_eq_true rfl)
            refine own_Go.by (fun tq kq => XS.iload X74.here hx rfl (hb hby at_293) rfl kq) ?_
            refine own_Go.by (fun tq kq => XS.iconst X74.here hx rfl (hb hby at_295) kq) ?_
            refine own_Go.by (fun tq kq => XS.iadd X74.here hx rfl (hb hby at_296) rfl kq) ?_
            show own_Go _ _ _ _ (T74.setTop (mkF m 297 #[sI p1, sI p2, sI p3, sI p4, sI p5, sI (p1 &&& (3 : Int32)), sR ob1, sI (2 : Int32), sI (0 : Int32), .unset, .unset] [(Value.int (3 : Int32))]))
            refine own_Go.by (fun tq kq => XS.istore X74.here hx rfl (hb hby at_297) rfl (l' := #[sI p1, sI p2, sI p3, sI p4, sI p5, sI (p1 &&& (3 : Int32)), sR ob1, sI (3 : Int32), sI (0 : Int32), .unset, .unset]) rfl kq) ?_
            have hok76 : own_ok [(Value.int (112 : Int32)), (Value.int (117 : Int32)), (Value.int ((p4 &&& (255 : Int32)).toUInt32.toUInt16.toUInt32.toInt32)), (Value.int (0 : Int32)), (Value.int (0 : Int32)), (Value.int (0 : Int32)), (Value.int (0 : Int32))] := own_okL [(112 : Int32), (117 : Int32), ((p4 &&& (255 : Int32)).toUInt32.toUInt16.toUInt32.toInt32), (0 : Int32), (0 : Int32), (0 : Int32), (0 : Int32)] rfl (by
                intro c hc
                simp only [List.mem_cons, List.not_mem_nil, or_false] at hc
                rcases hc with rfl | rfl | rfl | rfl | rfl | rfl | rfl
                · exact by decide
                · exact by decide
                · exact (own_b255 rfl).1
                · exact by decide
                · exact by decide
                · exact by decide
                · exact by decide)
            exact g_4 (T74, h74, _, [(Value.int (112 : Int32)), (Value.int (117 : Int32)), (Value.int ((p4 &&& (255 : Int32)).toUInt32.toUInt16.toUInt32.toInt32)), (Value.int (0 : Int32)), (Value.int (0 : Int32)), (Value.int (0 : Int32)), (Value.int (0 : Int32))], (3 : Int32), (0 : Int32)) ⟨X74, e74, O75, K75, N74, V74, hok76⟩
      ·
        refine own_Go.by (fun tq kq => XS.ifNo X61.here hx rfl (hb hby at_243) rfl ((if0 _ _).trans (feq hc243_63).1) kq) ?_
        refine own_Go.by (fun tq kq => XS.aload X61.here hx rfl (hb hby at_246) rfl rfl kq) ?_
        refine own_Go.by (fun tq kq => XS.iloadN X61.here hx rfl (hb hby at_248) rfl kq) ?_
        show own_Go _ _ _ _ (T61.setTop (mkF m 249 #[sI p1, sI p2, sI p3, sI p4, sI p5, sI (p1 &&& (3 : Int32)), sR ob1, sI (3 : Int32), sI (0 : Int32), .unset, .unset] [(Value.int p2), (Value.ref ob1)]))
        refine own_Go.by (fun tq kq => X61.ldcInt hx hown (mvT hZ (hw _ (List.mem_of_getElem? (i := 73) rfl))) (g := (mkF m 249 #[sI p1, sI p2, sI p3, sI p4, sI p5, sI (p1 &&& (3 : Int32)), sR ob1, sI (3 : Int32), sI (0 : Int32), .unset, .unset] [(Value.int p2), (Value.ref ob1)])) rfl (hb hby at_249) _ kq) ?_
        refine own_Go.by (fun tq kq => XS.iand X61.here hx rfl (hb hby at_251) rfl kq) ?_
        refine own_Go.by (fun tq kq => XS.iload X61.here hx rfl (hb hby at_252) rfl kq) ?_
        show own_Go _ _ _ _ (T61.setTop (mkF m 254 #[sI p1, sI p2, sI p3, sI p4, sI p5, sI (p1 &&& (3 : Int32)), sR ob1, sI (3 : Int32), sI (0 : Int32), .unset, .unset] [(Value.int (3 : Int32)), (Value.int (p2 &&& (2147483647 : Int32))), (Value.ref ob1)]))
        refine own_Go.by (fun tq kq => iremM (g := (mkF m 254 #[sI p1, sI p2, sI p3, sI p4, sI p5, sI (p1 &&& (3 : Int32)), sR ob1, sI (3 : Int32), sI (0 : Int32), .unset, .unset] [(Value.int (3 : Int32)), (Value.int (p2 &&& (2147483647 : Int32))), (Value.ref ob1)])) X61 hx rfl (hb hby at_254) rfl (by decide) kq) ?_
        refine own_Go.by (fun tq kq => XS.iloadN X61.here hx rfl (hb hby at_255) rfl kq) ?_
        refine own_Go.by (fun tq kq => XS.sipush X61.here hx rfl (hb hby at_256) kq) ?_
        refine own_Go.by (fun tq kq => XS.iand X61.here hx rfl (hb hby at_259) rfl kq) ?_
        show own_Go _ _ _ _ (T61.setTop (mkF m 260 #[sI p1, sI p2, sI p3, sI p4, sI p5, sI (p1 &&& (3 : Int32)), sR ob1, sI (3 : Int32), sI (0 : Int32), .unset, .unset] [(Value.int (p3 &&& (255 : Int32))), (Value.int ((p2 &&& (2147483647 : Int32)) % (3 : Int32))), (Value.ref ob1)]))
        refine own_Go.by (fun tq kq => XS.i2c X61.here hx rfl (hb hby at_260) rfl kq) ?_
        have hok77 : own_ok [(Value.int (112 : Int32)), (Value.int (117 : Int32)), (Value.int (116 : Int32)), (Value.int (0 : Int32)), (Value.int (0 : Int32)), (Value.int (0 : Int32)), (Value.int (0 : Int32))] := own_okL [(112 : Int32), (117 : Int32), (116 : Int32), (0 : Int32), (0 : Int32), (0 : Int32), (0 : Int32)] rfl (by
            intro c hc
            simp only [List.mem_cons, List.not_mem_nil, or_false] at hc
            rcases hc with rfl | rfl | rfl | rfl | rfl | rfl | rfl
            · exact by decide
            · exact by decide
            · exact by decide
            · exact by decide
            · exact by decide
            · exact by decide
            · exact by decide)
        show own_Go _ _ _ _ (T61.setTop (mkF m 261 #[sI p1, sI p2, sI p3, sI p4, sI p5, sI (p1 &&& (3 : Int32)), sR ob1, sI (3 : Int32), sI (0 : Int32), .unset, .unset] [(Value.int ((p3 &&& (255 : Int32)).toUInt32.toUInt16.toUInt32.toInt32)), (Value.int ((p2 &&& (2147483647 : Int32)) % (3 : Int32))), (Value.ref ob1)]))
        obtain ⟨cl78, Ar78, q78, S78, M78, Hh78, G78⟩ := id V61
        obtain ⟨T79, h79, X79, e79, W79, st79⟩ := stC X61 hx hZ e61 Ar78 (j := ((p2 &&& (2147483647 : Int32)) % (3 : Int32))) (inb_of S78 (own_ix 3 rfl (by decide) (by decide) rfl).1) (g := (mkF m 261 #[sI p1, sI p2, sI p3, sI p4, sI p5, sI (p1 &&& (3 : Int32)), sR ob1, sI (3 : Int32), sI (0 : Int32), .unset, .unset] [(Value.int ((p3 &&& (255 : Int32)).toUInt32.toUInt16.toUInt32.toInt32)), (Value.int ((p2 &&& (2147483647 : Int32)) % (3 : Int32))), (Value.ref ob1)])) rfl rfl (hb hby at_261)
        refine own_Go.by st79 ?_
        have N79 := Fr.snoc X79 N61 g3
        have O80 := O62.wr W79 g3
        have K80 := K62.wr W79 (Or.inr z3)
        rw [show nar .char ((p3 &&& (255 : Int32)).toUInt32.toUInt16.toUInt32.toInt32) = ((p3 &&& (255 : Int32)).toUInt32.toUInt16.toUInt32.toInt32) from (own_b255 rfl).2] at W79
        have V79 : Arv Z h79 ob1 k1 .char (7 : Int32) ([(Value.int (112 : Int32)), (Value.int (117 : Int32)), (Value.int (116 : Int32)), (Value.int (0 : Int32)), (Value.int (0 : Int32)), (Value.int (0 : Int32)), (Value.int (0 : Int32))].set (((p2 &&& (2147483647 : Int32)) % (3 : Int32))).toNatClampNeg (Value.int ((p3 &&& (255 : Int32)).toUInt32.toUInt16.toUInt32.toInt32))) (Value.int (0 : Int32)) := Arv.set Ar78 q78 S78 M78 Hh78 G78 (own_fitC ((own_b255 rfl).2)) W79 (((p2 &&& (2147483647 : Int32)) % (3 : Int32))).toNatClampNeg (rfl) ((own_ix 3 rfl (by decide) (by decide) rfl).2)
        have hok81 : own_ok ([(Value.int (112 : Int32)), (Value.int (117 : Int32)), (Value.int (116 : Int32)), (Value.int (0 : Int32)), (Value.int (0 : Int32)), (Value.int (0 : Int32)), (Value.int (0 : Int32))].set (((p2 &&& (2147483647 : Int32)) % (3 : Int32))).toNatClampNeg (Value.int ((p3 &&& (255 : Int32)).toUInt32.toUInt16.toUInt32.toInt32))) := own_ok_set hok77 _ (own_b255 rfl).1
        refine own_Go.by (fun tq kq => XS.iloadN X79.here hx rfl (hb hby at_262) rfl kq) ?_
        refine own_Go.by (fun tq kq => XS.bipush X79.here hx rfl (hb hby at_263) kq) ?_
        refine own_Go.by (fun tq kq => XS.iand X79.here hx rfl (hb hby at_265) rfl kq) ?_
        show own_Go _ _ _ _ (T79.setTop (mkF m 266 #[sI p1, sI p2, sI p3, sI p4, sI p5, sI (p1 &&& (3 : Int32)), sR ob1, sI (3 : Int32), sI (0 : Int32), .unset, .unset] [(Value.int (p1 &&& (8 : Int32)))]))
        by_cases hc266_82 : (p1 &&& (8 : Int32)) = (0 : Int32)
        ·
          refine own_Go.by (fun tq kq => XS.ifYes X79.here hx rfl (pc0 := 266) (pc' := 275) rfl (hb hby at_266) rfl ((if0 _ _).trans (teq hc266_82).1) (by decide) (by decide) kq) ?_
          refine own_Go.by (fun tq kq => XS.iloadN X79.here hx rfl (hb hby at_275) rfl kq) ?_
          refine own_Go.by (fun tq kq => XS.bipush X79.here hx rfl (hb hby at_276) kq) ?_
          refine own_Go.by (fun tq kq => XS.iand X79.here hx rfl (hb hby at_278) rfl kq) ?_
          show own_Go _ _ _ _ (T79.setTop (mkF m 279 #[sI p1, sI p2, sI p3, sI p4, sI p5, sI (p1 &&& (3 : Int32)), sR ob1, sI (3 : Int32), sI (0 : Int32), .unset, .unset] [(Value.int (p1 &&& (16 : Int32)))]))
          by_cases hc279_83 : (p1 &&& (16 : Int32)) = (0 : Int32)
          ·
            refine own_Go.by (fun tq kq => XS.ifYes X79.here hx rfl (pc0 := 279) (pc' := 299) rfl (hb hby at_279) rfl ((if0 _ _).trans (teq hc279_83).1) (by decide) (by decide) kq) ?_
            exact g_4 (T79, h79, _, ([(Value.int (112 : Int32)), (Value.int (117 : Int32)), (Value.int (116 : Int32)), (Value.int (0 : Int32)), (Value.int (0 : Int32)), (Value.int (0 : Int32)), (Value.int (0 : Int32))].set (((p2 &&& (2147483647 : Int32)) % (3 : Int32))).toNatClampNeg (Value.int ((p3 &&& (255 : Int32)).toUInt32.toUInt16.toUInt32.toInt32))), (3 : Int32), (0 : Int32)) ⟨X79, e79, O80, K80, N79, V79, hok81⟩
          ·
            refine own_Go.by (fun tq kq => XS.ifNo X79.here hx rfl (hb hby at_279) rfl ((if0 _ _).trans (feq hc279_83).1) kq) ?_
            refine own_Go.by (fun tq kq => XS.aload X79.here hx rfl (hb hby at_282) rfl rfl kq) ?_
            refine own_Go.by (fun tq kq => XS.iload X79.here hx rfl (hb hby at_284) rfl kq) ?_
            refine own_Go.by (fun tq kq => XS.iloadN X79.here hx rfl (hb hby at_286) rfl kq) ?_
            show own_Go _ _ _ _ (T79.setTop (mkF m 287 #[sI p1, sI p2, sI p3, sI p4, sI p5, sI (p1 &&& (3 : Int32)), sR ob1, sI (3 : Int32), sI (0 : Int32), .unset, .unset] [(Value.int p4), (Value.int (3 : Int32)), (Value.ref ob1)]))
            refine own_Go.by (fun tq kq => XS.sipush X79.here hx rfl (hb hby at_287) kq) ?_
            refine own_Go.by (fun tq kq => XS.iand X79.here hx rfl (hb hby at_290) rfl kq) ?_
            refine own_Go.by (fun tq kq => XS.i2c X79.here hx rfl (hb hby at_291) rfl kq) ?_
            show own_Go _ _ _ _ (T79.setTop (mkF m 292 #[sI p1, sI p2, sI p3, sI p4, sI p5, sI (p1 &&& (3 : Int32)), sR ob1, sI (3 : Int32), sI (0 : Int32), .unset, .unset] [(Value.int ((p4 &&& (255 : Int32)).toUInt32.toUInt16.toUInt32.toInt32)), (Value.int (3 : Int32)), (Value.ref ob1)]))
            obtain ⟨cl84, Ar84, q84, S84, M84, Hh84, G84⟩ := id V79
            obtain ⟨T85, h85, X85, e85, W85, st85⟩ := stC X79 hx hZ e79 Ar84 (j := (3 : Int32)) (inb_of S84 ⟨(by decide : ¬ ((3 : Int32) < (0 : Int32))), (by decide : (3 : Int32) < (7 : Int32))⟩) (g := (mkF m 292 #[sI p1, sI p2, sI p3, sI p4, sI p5, sI (p1 &&& (3 : Int32)), sR ob1, sI (3 : Int32), sI (0 : Int32), .unset, .unset] [(Value.int ((p4 &&& (255 : Int32)).toUInt32.toUInt16.toUInt32.toInt32)), (Value.int (3 : Int32)), (Value.ref ob1)])) rfl rfl (hb hby at_292)
            refine own_Go.by st85 ?_
            have N85 := Fr.snoc X85 N79 g3
            have O86 := O80.wr W85 g3
            have K86 := K80.wr W85 (Or.inr z3)
            rw [show nar .char ((p4 &&& (255 : Int32)).toUInt32.toUInt16.toUInt32.toInt32) = ((p4 &&& (255 : Int32)).toUInt32.toUInt16.toUInt32.toInt32) from (own_b255 rfl).2] at W85
            have V85 : Arv Z h85 ob1 k1 .char (7 : Int32) (([(Value.int (112 : Int32)), (Value.int (117 : Int32)), (Value.int (116 : Int32)), (Value.int (0 : Int32)), (Value.int (0 : Int32)), (Value.int (0 : Int32)), (Value.int (0 : Int32))].set (((p2 &&& (2147483647 : Int32)) % (3 : Int32))).toNatClampNeg (Value.int ((p3 &&& (255 : Int32)).toUInt32.toUInt16.toUInt32.toInt32))).set 3 (Value.int ((p4 &&& (255 : Int32)).toUInt32.toUInt16.toUInt32.toInt32))) (Value.int (0 : Int32)) := Arv.set Ar84 q84 S84 M84 Hh84 G84 (own_fitC ((own_b255 rfl).2)) W85 3 (rfl) (by simp)
            have hok87 : own_ok (([(Value.int (112 : Int32)), (Value.int (117 : Int32)), (Value.int (116 : Int32)), (Value.int (0 : Int32)), (Value.int (0 : Int32)), (Value.int (0 : Int32)), (Value.int (0 : Int32))].set (((p2 &&& (2147483647 : Int32)) % (3 : Int32))).toNatClampNeg (Value.int ((p3 &&& (255 : Int32)).toUInt32.toUInt16.toUInt32.toInt32))).set 3 (Value.int ((p4 &&& (255 : Int32)).toUInt32.toUInt16.toUInt32.toInt32))) := own_ok_set hok81 _ (own_b255 rfl).1
            refine own_Go.by (fun tq kq => XS.iload X85.here hx rfl (hb hby at_293) rfl kq) ?_
            refine own_Go.by (fun tq kq => XS.iconst X85.here hx rfl (hb hby at_295) kq) ?_
            refine own_Go.by (fun tq kq => XS.iadd X85.here hx rfl (hb hby at_296) rfl kq) ?_
            show own_Go _ _ _ _ (T85.setTop (mkF m 297 #[sI p1, sI p2, sI p3, sI p4, sI p5, sI (p1 &&& (3 : Int32)), sR ob1, sI (3 : Int32), sI (0 : Int32), .unset, .unset] [(Value.int (4 : Int32))]))
            refine own_Go.by (fun tq kq => XS.istore X85.here hx rfl (hb hby at_297) rfl (l' := #[sI p1, sI p2, sI p3, sI p4, sI p5, sI (p1 &&& (3 : Int32)), sR ob1, sI (4 : Int32), sI (0 : Int32), .unset, .unset]) rfl kq) ?_
            exact g_4 (T85, h85, _, (([(Value.int (112 : Int32)), (Value.int (117 : Int32)), (Value.int (116 : Int32)), (Value.int (0 : Int32)), (Value.int (0 : Int32)), (Value.int (0 : Int32)), (Value.int (0 : Int32))].set (((p2 &&& (2147483647 : Int32)) % (3 : Int32))).toNatClampNeg (Value.int ((p3 &&& (255 : Int32)).toUInt32.toUInt16.toUInt32.toInt32))).set 3 (Value.int ((p4 &&& (255 : Int32)).toUInt32.toUInt16.toUInt32.toInt32))), (4 : Int32), (0 : Int32)) ⟨X85, e85, O86, K86, N85, V85, hok87⟩
        ·
          refine own_Go.by (fun tq kq => XS.ifNo X79.here hx rfl (hb hby at_266) rfl ((if0 _ _).trans (feq hc266_82).1) kq) ?_
          refine own_Go.by (fun tq kq => XS.iload X79.here hx rfl (hb hby at_269) rfl kq) ?_
          refine own_Go.by (fun tq kq => XS.iconst X79.here hx rfl (hb hby at_271) kq) ?_
          refine own_Go.by (fun tq kq => XS.isub X79.here hx rfl (hb hby at_272) rfl kq) ?_
          show own_Go _ _ _ _ (T79.setTop (mkF m 273 #[sI p1, sI p2, sI p3, sI p4, sI p5, sI (p1 &&& (3 : Int32)), sR ob1, sI (3 : Int32), sI (0 : Int32), .unset, .unset] [(Value.int (2 : Int32))]))
          refine own_Go.by (fun tq kq => XS.istore X79.here hx rfl (hb hby at_273) rfl (l' := #[sI p1, sI p2, sI p3, sI p4, sI p5, sI (p1 &&& (3 : Int32)), sR ob1, sI (2 : Int32), sI (0 : Int32), .unset, .unset]) rfl kq) ?_
          refine own_Go.by (fun tq kq => XS.iloadN X79.here hx rfl (hb hby at_275) rfl kq) ?_
          refine own_Go.by (fun tq kq => XS.bipush X79.here hx rfl (hb hby at_276) kq) ?_
          refine own_Go.by (fun tq kq => XS.iand X79.here hx rfl (hb hby at_278) rfl kq) ?_
          show own_Go _ _ _ _ (T79.setTop (mkF m 279 #[sI p1, sI p2, sI p3, sI p4, sI p5, sI (p1 &&& (3 : Int32)), sR ob1, sI (2 : Int32), sI (0 : Int32), .unset, .unset] [(Value.int (p1 &&& (16 : Int32)))]))
          by_cases hc279_88 : (p1 &&& (16 : Int32)) = (0 : Int32)
          ·
            refine own_Go.by (fun tq kq => XS.ifYes X79.here hx rfl (pc0 := 279) (pc' := 299) rfl (hb hby at_279) rfl ((if0 _ _).trans (teq hc279_88).1) (by decide) (by decide) kq) ?_
            exact g_4 (T79, h79, _, ([(Value.int (112 : Int32)), (Value.int (117 : Int32)), (Value.int (116 : Int32)), (Value.int (0 : Int32)), (Value.int (0 : Int32)), (Value.int (0 : Int32)), (Value.int (0 : Int32))].set (((p2 &&& (2147483647 : Int32)) % (3 : Int32))).toNatClampNeg (Value.int ((p3 &&& (255 : Int32)).toUInt32.toUInt16.toUInt32.toInt32))), (2 : Int32), (0 : Int32)) ⟨X79, e79, O80, K80, N79, V79, hok81⟩
          ·
            refine own_Go.by (fun tq kq => XS.ifNo X79.here hx rfl (hb hby at_279) rfl ((if0 _ _).trans (feq hc279_88).1) kq) ?_
            refine own_Go.by (fun tq kq => XS.aload X79.here hx rfl (hb hby at_282) rfl rfl kq) ?_
            refine own_Go.by (fun tq kq => XS.iload X79.here hx rfl (hb hby at_284) rfl kq) ?_
            refine own_Go.by (fun tq kq => XS.iloadN X79.here hx rfl (hb hby at_286) rfl kq) ?_
            show own_Go _ _ _ _ (T79.setTop (mkF m 287 #[sI p1, sI p2, sI p3, sI p4, sI p5, sI (p1 &&& (3 : Int32)), sR ob1, sI (2 : Int32), sI (0 : Int32), .unset, .unset] [(Value.int p4), (Value.int (2 : Int32)), (Value.ref ob1)]))
            refine own_Go.by (fun tq kq => XS.sipush X79.here hx rfl (hb hby at_287) kq) ?_
            refine own_Go.by (fun tq kq => XS.iand X79.here hx rfl (hb hby at_290) rfl kq) ?_
            refine own_Go.by (fun tq kq => XS.i2c X79.here hx rfl (hb hby at_291) rfl kq) ?_
            show own_Go _ _ _ _ (T79.setTop (mkF m 292 #[sI p1, sI p2, sI p3, sI p4, sI p5, sI (p1 &&& (3 : Int32)), sR ob1, sI (2 : Int32), sI (0 : Int32), .unset, .unset] [(Value.int ((p4 &&& (255 : Int32)).toUInt32.toUInt16.toUInt32.toInt32)), (Value.int (2 : Int32)), (Value.ref ob1)]))
            obtain ⟨cl89, Ar89, q89, S89, M89, Hh89, G89⟩ := id V79
            obtain ⟨T90, h90, X90, e90, W90, st90⟩ := stC X79 hx hZ e79 Ar89 (j := (2 : Int32)) (inb_of S89 ⟨(by decide : ¬ ((2 : Int32) < (0 : Int32))), (by decide : (2 : Int32) < (7 : Int32))⟩) (g := (mkF m 292 #[sI p1, sI p2, sI p3, sI p4, sI p5, sI (p1 &&& (3 : Int32)), sR ob1, sI (2 : Int32), sI (0 : Int32), .unset, .unset] [(Value.int ((p4 &&& (255 : Int32)).toUInt32.toUInt16.toUInt32.toInt32)), (Value.int (2 : Int32)), (Value.ref ob1)])) rfl rfl (hb hby at_292)
            refine own_Go.by st90 ?_
            have N90 := Fr.snoc X90 N79 g3
            have O91 := O80.wr W90 g3
            have K91 := K80.wr W90 (Or.inr z3)
            rw [show nar .char ((p4 &&& (255 : Int32)).toUInt32.toUInt16.toUInt32.toInt32) = ((p4 &&& (255 : Int32)).toUInt32.toUInt16.toUInt32.toInt32) from (own_b255 rfl).2] at W90
            have V90 : Arv Z h90 ob1 k1 .char (7 : Int32) (([(Value.int (112 : Int32)), (Value.int (117 : Int32)), (Value.int (116 : Int32)), (Value.int (0 : Int32)), (Value.int (0 : Int32)), (Value.int (0 : Int32)), (Value.int (0 : Int32))].set (((p2 &&& (2147483647 : Int32)) % (3 : Int32))).toNatClampNeg (Value.int ((p3 &&& (255 : Int32)).toUInt32.toUInt16.toUInt32.toInt32))).set 2 (Value.int ((p4 &&& (255 : Int32)).toUInt32.toUInt16.toUInt32.toInt32))) (Value.int (0 : Int32)) := Arv.set Ar89 q89 S89 M89 Hh89 G89 (own_fitC ((own_b255 rfl).2)) W90 2 (rfl) (by simp)
            have hok92 : own_ok (([(Value.int (112 : Int32)), (Value.int (117 : Int32)), (Value.int (116 : Int32)), (Value.int (0 : Int32)), (Value.int (0 : Int32)), (Value.int (0 : Int32)), (Value.int (0 : Int32))].set (((p2 &&& (2147483647 : Int32)) % (3 : Int32))).toNatClampNeg (Value.int ((p3 &&& (255 : Int32)).toUInt32.toUInt16.toUInt32.toInt32))).set 2 (Value.int ((p4 &&& (255 : Int32)).toUInt32.toUInt16.toUInt32.toInt32))) := own_ok_set hok81 _ (own_b255 rfl).1
            refine own_Go.by (fun tq kq => XS.iload X90.here hx rfl (hb hby at_293) rfl kq) ?_
            refine own_Go.by (fun tq kq => XS.iconst X90.here hx rfl (hb hby at_295) kq) ?_
            refine own_Go.by (fun tq kq => XS.iadd X90.here hx rfl (hb hby at_296) rfl kq) ?_
            show own_Go _ _ _ _ (T90.setTop (mkF m 297 #[sI p1, sI p2, sI p3, sI p4, sI p5, sI (p1 &&& (3 : Int32)), sR ob1, sI (2 : Int32), sI (0 : Int32), .unset, .unset] [(Value.int (3 : Int32))]))
            refine own_Go.by (fun tq kq => XS.istore X90.here hx rfl (hb hby at_297) rfl (l' := #[sI p1, sI p2, sI p3, sI p4, sI p5, sI (p1 &&& (3 : Int32)), sR ob1, sI (3 : Int32), sI (0 : Int32), .unset, .unset]) rfl kq) ?_
            exact g_4 (T90, h90, _, (([(Value.int (112 : Int32)), (Value.int (117 : Int32)), (Value.int (116 : Int32)), (Value.int (0 : Int32)), (Value.int (0 : Int32)), (Value.int (0 : Int32)), (Value.int (0 : Int32))].set (((p2 &&& (2147483647 : Int32)) % (3 : Int32))).toNatClampNeg (Value.int ((p3 &&& (255 : Int32)).toUInt32.toUInt16.toUInt32.toInt32))).set 2 (Value.int ((p4 &&& (255 : Int32)).toUInt32.toUInt16.toUInt32.toInt32))), (3 : Int32), (0 : Int32)) ⟨X90, e90, O91, K91, N90, V90, hok92⟩
    ·
      refine own_Go.by (fun tq kq => XS.ifYes X1.here hx rfl (pc0 := 16) (pc' := 43) rfl (hb hby at_16) rfl ((if0 _ _).trans (feq hc16_53).2) (by decide) (by decide) kq) ?_
      refine own_Go.by (fun tq kq => XS.iload X1.here hx rfl (hb hby at_43) rfl kq) ?_
      refine own_Go.by (fun tq kq => XS.iconst X1.here hx rfl (hb hby at_45) kq) ?_
      show own_Go _ _ _ _ (T1.setTop (mkF m 46 #[sI p1, sI p2, sI p3, sI p4, sI p5, sI (p1 &&& (3 : Int32)), sR ob1, .unset, sI (0 : Int32), .unset, .unset] [(Value.int (1 : Int32)), (Value.int (p1 &&& (3 : Int32)))]))
      by_cases hc46_93 : (p1 &&& (3 : Int32)) = (1 : Int32)
      ·
        refine own_Go.by (fun tq kq => XS.icmpNo X1.here hx rfl (hb hby at_46) rfl (teq hc46_93).2 kq) ?_
        refine own_Go.by (fun tq kq => XS.aload X1.here hx rfl (hb hby at_49) rfl rfl kq) ?_
        refine own_Go.by (fun tq kq => XS.iconst X1.here hx rfl (hb hby at_51) kq) ?_
        refine own_Go.by (fun tq kq => XS.bipush X1.here hx rfl (hb hby at_52) kq) ?_
        show own_Go _ _ _ _ (T1.setTop (mkF m 54 #[sI p1, sI p2, sI p3, sI p4, sI p5, sI (p1 &&& (3 : Int32)), sR ob1, .unset, sI (0 : Int32), .unset, .unset] [(Value.int (105 : Int32)), (Value.int (0 : Int32)), (Value.ref ob1)]))
        obtain ⟨cl94, Ar94, q94, S94, M94, Hh94, G94⟩ := id V1
        obtain ⟨T95, h95, X95, e95, W95, st95⟩ := stC X1 hx hZ e1 Ar94 (j := (0 : Int32)) (inb_of S94 ⟨(by decide : ¬ ((0 : Int32) < (0 : Int32))), (by decide : (0 : Int32) < (7 : Int32))⟩) (g := (mkF m 54 #[sI p1, sI p2, sI p3, sI p4, sI p5, sI (p1 &&& (3 : Int32)), sR ob1, .unset, sI (0 : Int32), .unset, .unset] [(Value.int (105 : Int32)), (Value.int (0 : Int32)), (Value.ref ob1)])) rfl rfl (hb hby at_54)
        refine own_Go.by st95 ?_
        have N95 := Fr.snoc X95 N0 g3
        have O96 := O2.wr W95 g3
        have K96 := K2.wr W95 (Or.inr z3)
        rw [show nar .char (105 : Int32) = (105 : Int32) from rfl] at W95
        have V95 : Arv Z h95 ob1 k1 .char (7 : Int32) [(Value.int (105 : Int32)), (Value.int (0 : Int32)), (Value.int (0 : Int32)), (Value.int (0 : Int32)), (Value.int (0 : Int32)), (Value.int (0 : Int32)), (Value.int (0 : Int32))] (Value.int (0 : Int32)) := Arv.set Ar94 q94 S94 M94 Hh94 G94 (own_fitC (rfl)) W95 0 rfl (Nat.le_of_ble_eq_true rfl)
        refine own_Go.by (fun tq kq => XS.aload X95.here hx rfl (hb hby at_55) rfl rfl kq) ?_
        refine own_Go.by (fun tq kq => XS.iconst X95.here hx rfl (hb hby at_57) kq) ?_
        refine own_Go.by (fun tq kq => XS.bipush X95.here hx rfl (hb hby at_58) kq) ?_
        show own_Go _ _ _ _ (T95.setTop (mkF m 60 #[sI p1, sI p2, sI p3, sI p4, sI p5, sI (p1 &&& (3 : Int32)), sR ob1, .unset, sI (0 : Int32), .unset, .unset] [(Value.int (110 : Int32)), (Value.int (1 : Int32)), (Value.ref ob1)]))
        obtain ⟨cl97, Ar97, q97, S97, M97, Hh97, G97⟩ := id V95
        obtain ⟨T98, h98, X98, e98, W98, st98⟩ := stC X95 hx hZ e95 Ar97 (j := (1 : Int32)) (inb_of S97 ⟨(by decide : ¬ ((1 : Int32) < (0 : Int32))), (by decide : (1 : Int32) < (7 : Int32))⟩) (g := (mkF m 60 #[sI p1, sI p2, sI p3, sI p4, sI p5, sI (p1 &&& (3 : Int32)), sR ob1, .unset, sI (0 : Int32), .unset, .unset] [(Value.int (110 : Int32)), (Value.int (1 : Int32)), (Value.ref ob1)])) rfl rfl (hb hby at_60)
        refine own_Go.by st98 ?_
        have N98 := Fr.snoc X98 N95 g3
        have O99 := O96.wr W98 g3
        have K99 := K96.wr W98 (Or.inr z3)
        rw [show nar .char (110 : Int32) = (110 : Int32) from rfl] at W98
        have V98 : Arv Z h98 ob1 k1 .char (7 : Int32) [(Value.int (105 : Int32)), (Value.int (110 : Int32)), (Value.int (0 : Int32)), (Value.int (0 : Int32)), (Value.int (0 : Int32)), (Value.int (0 : Int32)), (Value.int (0 : Int32))] (Value.int (0 : Int32)) := Arv.set Ar97 q97 S97 M97 Hh97 G97 (own_fitC (rfl)) W98 1 rfl (Nat.le_of_ble_eq_true rfl)
        refine own_Go.by (fun tq kq => XS.aload X98.here hx rfl (hb hby at_61) rfl rfl kq) ?_
        refine own_Go.by (fun tq kq => XS.iconst X98.here hx rfl (hb hby at_63) kq) ?_
        refine own_Go.by (fun tq kq => XS.bipush X98.here hx rfl (hb hby at_64) kq) ?_
        show own_Go _ _ _ _ (T98.setTop (mkF m 66 #[sI p1, sI p2, sI p3, sI p4, sI p5, sI (p1 &&& (3 : Int32)), sR ob1, .unset, sI (0 : Int32), .unset, .unset] [(Value.int (115 : Int32)), (Value.int (2 : Int32)), (Value.ref ob1)]))
        obtain ⟨cl100, Ar100, q100, S100, M100, Hh100, G100⟩ := id V98
        obtain ⟨T101, h101, X101, e101, W101, st101⟩ := stC X98 hx hZ e98 Ar100 (j := (2 : Int32)) (inb_of S100 ⟨(by decide : ¬ ((2 : Int32) < (0 : Int32))), (by decide : (2 : Int32) < (7 : Int32))⟩) (g := (mkF m 66 #[sI p1, sI p2, sI p3, sI p4, sI p5, sI (p1 &&& (3 : Int32)), sR ob1, .unset, sI (0 : Int32), .unset, .unset] [(Value.int (115 : Int32)), (Value.int (2 : Int32)), (Value.ref ob1)])) rfl rfl (hb hby at_66)
        refine own_Go.by st101 ?_
        have N101 := Fr.snoc X101 N98 g3
        have O102 := O99.wr W101 g3
        have K102 := K99.wr W101 (Or.inr z3)
        rw [show nar .char (115 : Int32) = (115 : Int32) from rfl] at W101
        have V101 : Arv Z h101 ob1 k1 .char (7 : Int32) [(Value.int (105 : Int32)), (Value.int (110 : Int32)), (Value.int (115 : Int32)), (Value.int (0 : Int32)), (Value.int (0 : Int32)), (Value.int (0 : Int32)), (Value.int (0 : Int32))] (Value.int (0 : Int32)) := Arv.set Ar100 q100 S100 M100 Hh100 G100 (own_fitC (rfl)) W101 2 rfl (Nat.le_of_ble_eq_true rfl)
        refine own_Go.by (fun tq kq => XS.aload X101.here hx rfl (hb hby at_67) rfl rfl kq) ?_
        refine own_Go.by (fun tq kq => XS.iconst X101.here hx rfl (hb hby at_69) kq) ?_
        refine own_Go.by (fun tq kq => XS.bipush X101.here hx rfl (hb hby at_70) kq) ?_
        show own_Go _ _ _ _ (T101.setTop (mkF m 72 #[sI p1, sI p2, sI p3, sI p4, sI p5, sI (p1 &&& (3 : Int32)), sR ob1, .unset, sI (0 : Int32), .unset, .unset] [(Value.int (101 : Int32)), (Value.int (3 : Int32)), (Value.ref ob1)]))
        obtain ⟨cl103, Ar103, q103, S103, M103, Hh103, G103⟩ := id V101
        obtain ⟨T104, h104, X104, e104, W104, st104⟩ := stC X101 hx hZ e101 Ar103 (j := (3 : Int32)) (inb_of S103 ⟨(by decide : ¬ ((3 : Int32) < (0 : Int32))), (by decide : (3 : Int32) < (7 : Int32))⟩) (g := (mkF m 72 #[sI p1, sI p2, sI p3, sI p4, sI p5, sI (p1 &&& (3 : Int32)), sR ob1, .unset, sI (0 : Int32), .unset, .unset] [(Value.int (101 : Int32)), (Value.int (3 : Int32)), (Value.ref ob1)])) rfl rfl (hb hby at_72)
        refine own_Go.by st104 ?_
        have N104 := Fr.snoc X104 N101 g3
        have O105 := O102.wr W104 g3
        have K105 := K102.wr W104 (Or.inr z3)
        rw [show nar .char (101 : Int32) = (101 : Int32) from rfl] at W104
        have V104 : Arv Z h104 ob1 k1 .char (7 : Int32) [(Value.int (105 : Int32)), (Value.int (110 : Int32)), (Value.int (115 : Int32)), (Value.int (101 : Int32)), (Value.int (0 : Int32)), (Value.int (0 : Int32)), (Value.int (0 : Int32))] (Value.int (0 : Int32)) := Arv.set Ar103 q103 S103 M103 Hh103 G103 (own_fitC (rfl)) W104 3 rfl (Nat.le_of_ble_eq_true rfl)
        refine own_Go.by (fun tq kq => XS.aload X104.here hx rfl (hb hby at_73) rfl rfl kq) ?_
        refine own_Go.by (fun tq kq => XS.iconst X104.here hx rfl (hb hby at_75) kq) ?_
        refine own_Go.by (fun tq kq => XS.bipush X104.here hx rfl (hb hby at_76) kq) ?_
        show own_Go _ _ _ _ (T104.setTop (mkF m 78 #[sI p1, sI p2, sI p3, sI p4, sI p5, sI (p1 &&& (3 : Int32)), sR ob1, .unset, sI (0 : Int32), .unset, .unset] [(Value.int (114 : Int32)), (Value.int (4 : Int32)), (Value.ref ob1)]))
        obtain ⟨cl106, Ar106, q106, S106, M106, Hh106, G106⟩ := id V104
        obtain ⟨T107, h107, X107, e107, W107, st107⟩ := stC X104 hx hZ e104 Ar106 (j := (4 : Int32)) (inb_of S106 ⟨(by decide : ¬ ((4 : Int32) < (0 : Int32))), (by decide : (4 : Int32) < (7 : Int32))⟩) (g := (mkF m 78 #[sI p1, sI p2, sI p3, sI p4, sI p5, sI (p1 &&& (3 : Int32)), sR ob1, .unset, sI (0 : Int32), .unset, .unset] [(Value.int (114 : Int32)), (Value.int (4 : Int32)), (Value.ref ob1)])) rfl rfl (hb hby at_78)
        refine own_Go.by st107 ?_
        have N107 := Fr.snoc X107 N104 g3
        have O108 := O105.wr W107 g3
        have K108 := K105.wr W107 (Or.inr z3)
        rw [show nar .char (114 : Int32) = (114 : Int32) from rfl] at W107
        have V107 : Arv Z h107 ob1 k1 .char (7 : Int32) [(Value.int (105 : Int32)), (Value.int (110 : Int32)), (Value.int (115 : Int32)), (Value.int (101 : Int32)), (Value.int (114 : Int32)), (Value.int (0 : Int32)), (Value.int (0 : Int32))] (Value.int (0 : Int32)) := Arv.set Ar106 q106 S106 M106 Hh106 G106 (own_fitC (rfl)) W107 4 rfl (Nat.le_of_ble_eq_true rfl)
        refine own_Go.by (fun tq kq => XS.aload X107.here hx rfl (hb hby at_79) rfl rfl kq) ?_
        refine own_Go.by (fun tq kq => XS.iconst X107.here hx rfl (hb hby at_81) kq) ?_
        refine own_Go.by (fun tq kq => XS.bipush X107.here hx rfl (hb hby at_82) kq) ?_
        show own_Go _ _ _ _ (T107.setTop (mkF m 84 #[sI p1, sI p2, sI p3, sI p4, sI p5, sI (p1 &&& (3 : Int32)), sR ob1, .unset, sI (0 : Int32), .unset, .unset] [(Value.int (116 : Int32)), (Value.int (5 : Int32)), (Value.ref ob1)]))
        obtain ⟨cl109, Ar109, q109, S109, M109, Hh109, G109⟩ := id V107
        obtain ⟨T110, h110, X110, e110, W110, st110⟩ := stC X107 hx hZ e107 Ar109 (j := (5 : Int32)) (inb_of S109 ⟨(by decide : ¬ ((5 : Int32) < (0 : Int32))), (by decide : (5 : Int32) < (7 : Int32))⟩) (g := (mkF m 84 #[sI p1, sI p2, sI p3, sI p4, sI p5, sI (p1 &&& (3 : Int32)), sR ob1, .unset, sI (0 : Int32), .unset, .unset] [(Value.int (116 : Int32)), (Value.int (5 : Int32)), (Value.ref ob1)])) rfl rfl (hb hby at_84)
        refine own_Go.by st110 ?_
        have N110 := Fr.snoc X110 N107 g3
        have O111 := O108.wr W110 g3
        have K111 := K108.wr W110 (Or.inr z3)
        rw [show nar .char (116 : Int32) = (116 : Int32) from rfl] at W110
        have V110 : Arv Z h110 ob1 k1 .char (7 : Int32) [(Value.int (105 : Int32)), (Value.int (110 : Int32)), (Value.int (115 : Int32)), (Value.int (101 : Int32)), (Value.int (114 : Int32)), (Value.int (116 : Int32)), (Value.int (0 : Int32))] (Value.int (0 : Int32)) := Arv.set Ar109 q109 S109 M109 Hh109 G109 (own_fitC (rfl)) W110 5 rfl (Nat.le_of_ble_eq_true rfl)
        refine own_Go.by (fun tq kq => XS.bipush X110.here hx rfl (hb hby at_85) kq) ?_
        refine own_Go.by (fun tq kq => XS.istore X110.here hx rfl (hb hby at_87) rfl (l' := #[sI p1, sI p2, sI p3, sI p4, sI p5, sI (p1 &&& (3 : Int32)), sR ob1, sI (6 : Int32), sI (0 : Int32), .unset, .unset]) rfl kq) ?_
        refine own_Go.by (fun tq kq => XS.goto X110.here hx rfl (pc0 := 89) (pc' := 234) rfl (hb hby at_89) (by decide) (by decide) kq) ?_
        show own_Go _ _ _ _ (T110.setTop (mkF m 234 #[sI p1, sI p2, sI p3, sI p4, sI p5, sI (p1 &&& (3 : Int32)), sR ob1, sI (6 : Int32), sI (0 : Int32), .unset, .unset] []))
        refine own_Go.by (fun tq kq => XS.iload X110.here hx rfl (hb hby at_234) rfl kq) ?_
        refine own_Go.by (fun tq kq => XS.iconst X110.here hx rfl (hb hby at_236) kq) ?_
        show own_Go _ _ _ _ (T110.setTop (mkF m 237 #[sI p1, sI p2, sI p3, sI p4, sI p5, sI (p1 &&& (3 : Int32)), sR ob1, sI (6 : Int32), sI (0 : Int32), .unset, .unset] [(Value.int (3 : Int32)), (Value.int (p1 &&& (3 : Int32)))]))
        refine own_Go.by (fun tq kq => XS.icmpNo X110.here hx rfl (hb hby at_237) rfl (tlt (by rw [hc46_93]; decide : (p1 &&& (3 : Int32)) < (3 : Int32))).2.1 kq) ?_
        refine own_Go.by (fun tq kq => XS.iloadN X110.here hx rfl (hb hby at_240) rfl kq) ?_
        refine own_Go.by (fun tq kq => XS.iconst X110.here hx rfl (hb hby at_241) kq) ?_
        refine own_Go.by (fun tq kq => XS.iand X110.here hx rfl (hb hby at_242) rfl kq) ?_
        show own_Go _ _ _ _ (T110.setTop (mkF m 243 #[sI p1, sI p2, sI p3, sI p4, sI p5, sI (p1 &&& (3 : Int32)), sR ob1, sI (6 : Int32), sI (0 : Int32), .unset, .unset] [(Value.int (p1 &&& (4 : Int32)))]))
        by_cases hc243_112 : (p1 &&& (4 : Int32)) = (0 : Int32)
        ·
          refine own_Go.by (fun tq kq => XS.ifYes X110.here hx rfl (pc0 := 243) (pc' := 262) rfl (hb hby at_243) rfl ((if0 _ _).trans (teq hc243_112).1) (by decide) (by decide) kq) ?_
          refine own_Go.by (fun tq kq => XS.iloadN X110.here hx rfl (hb hby at_262) rfl kq) ?_
          refine own_Go.by (fun tq kq => XS.bipush X110.here hx rfl (hb hby at_263) kq) ?_
          refine own_Go.by (fun tq kq => XS.iand X110.here hx rfl (hb hby at_265) rfl kq) ?_
          show own_Go _ _ _ _ (T110.setTop (mkF m 266 #[sI p1, sI p2, sI p3, sI p4, sI p5, sI (p1 &&& (3 : Int32)), sR ob1, sI (6 : Int32), sI (0 : Int32), .unset, .unset] [(Value.int (p1 &&& (8 : Int32)))]))
          by_cases hc266_113 : (p1 &&& (8 : Int32)) = (0 : Int32)
          ·
            refine own_Go.by (fun tq kq => XS.ifYes X110.here hx rfl (pc0 := 266) (pc' := 275) rfl (hb hby at_266) rfl ((if0 _ _).trans (teq hc266_113).1) (by decide) (by decide) kq) ?_
            refine own_Go.by (fun tq kq => XS.iloadN X110.here hx rfl (hb hby at_275) rfl kq) ?_
            refine own_Go.by (fun tq kq => XS.bipush X110.here hx rfl (hb hby at_276) kq) ?_
            refine own_Go.by (fun tq kq => XS.iand X110.here hx rfl (hb hby at_278) rfl kq) ?_
            show own_Go _ _ _ _ (T110.setTop (mkF m 279 #[sI p1, sI p2, sI p3, sI p4, sI p5, sI (p1 &&& (3 : Int32)), sR ob1, sI (6 : Int32), sI (0 : Int32), .unset, .unset] [(Value.int (p1 &&& (16 : Int32)))]))
            by_cases hc279_114 : (p1 &&& (16 : Int32)) = (0 : Int32)
            ·
              refine own_Go.by (fun tq kq => XS.ifYes X110.here hx rfl (pc0 := 279) (pc' := 299) rfl (hb hby at_279) rfl ((if0 _ _).trans (teq hc279_114).1) (by decide) (by decide) kq) ?_
              have hok115 : own_ok [(Value.int (105 : Int32)), (Value.int (110 : Int32)), (Value.int (115 : Int32)), (Value.int (101 : Int32)), (Value.int (114 : Int32)), (Value.int (116 : Int32)), (Value.int (0 : Int32))] := own_okL [(105 : Int32), (110 : Int32), (115 : Int32), (101 : Int32), (114 : Int32), (116 : Int32), (0 : Int32)] rfl (by
                  intro c hc
                  simp only [List.mem_cons, List.not_mem_nil, or_false] at hc
                  rcases hc with rfl | rfl | rfl | rfl | rfl | rfl | rfl
                  · exact by decide
                  · exact by decide
                  · exact by decide
                  · exact by decide
                  · exact by decide
                  · exact by decide
                  · exact by decide)
              exact g_4 (T110, h110, _, [(Value.int (105 : Int32)), (Value.int (110 : Int32)), (Value.int (115 : Int32)), (Value.int (101 : Int32)), (Value.int (114 : Int32)), (Value.int (116 : Int32)), (Value.int (0 : Int32))], (6 : Int32), (0 : Int32)) ⟨X110, e110, O111, K111, N110, V110, hok115⟩
            ·
              refine own_Go.by (fun tq kq => XS.ifNo X110.here hx rfl (hb hby at_279) rfl ((if0 _ _).trans (feq hc279_114).1) kq) ?_
              refine own_Go.by (fun tq kq => XS.aload X110.here hx rfl (hb hby at_282) rfl rfl kq) ?_
              refine own_Go.by (fun tq kq => XS.iload X110.here hx rfl (hb hby at_284) rfl kq) ?_
              refine own_Go.by (fun tq kq => XS.iloadN X110.here hx rfl (hb hby at_286) rfl kq) ?_
              show own_Go _ _ _ _ (T110.setTop (mkF m 287 #[sI p1, sI p2, sI p3, sI p4, sI p5, sI (p1 &&& (3 : Int32)), sR ob1, sI (6 : Int32), sI (0 : Int32), .unset, .unset] [(Value.int p4), (Value.int (6 : Int32)), (Value.ref ob1)]))
              refine own_Go.by (fun tq kq => XS.sipush X110.here hx rfl (hb hby at_287) kq) ?_
              refine own_Go.by (fun tq kq => XS.iand X110.here hx rfl (hb hby at_290) rfl kq) ?_
              refine own_Go.by (fun tq kq => XS.i2c X110.here hx rfl (hb hby at_291) rfl kq) ?_
              show own_Go _ _ _ _ (T110.setTop (mkF m 292 #[sI p1, sI p2, sI p3, sI p4, sI p5, sI (p1 &&& (3 : Int32)), sR ob1, sI (6 : Int32), sI (0 : Int32), .unset, .unset] [(Value.int ((p4 &&& (255 : Int32)).toUInt32.toUInt16.toUInt32.toInt32)), (Value.int (6 : Int32)), (Value.ref ob1)]))
              obtain ⟨cl116, Ar116, q116, S116, M116, Hh116, G116⟩ := id V110
              obtain ⟨T117, h117, X117, e117, W117, st117⟩ := stC X110 hx hZ e110 Ar116 (j := (6 : Int32)) (inb_of S116 ⟨(by decide : ¬ ((6 : Int32) < (0 : Int32))), (by decide : (6 : Int32) < (7 : Int32))⟩) (g := (mkF m 292 #[sI p1, sI p2, sI p3, sI p4, sI p5, sI (p1 &&& (3 : Int32)), sR ob1, sI (6 : Int32), sI (0 : Int32), .unset, .unset] [(Value.int ((p4 &&& (255 : Int32)).toUInt32.toUInt16.toUInt32.toInt32)), (Value.int (6 : Int32)), (Value.ref ob1)])) rfl rfl (hb hby at_292)
              refine own_Go.by st117 ?_
              have N117 := Fr.snoc X117 N110 g3
              have O118 := O111.wr W117 g3
              have K118 := K111.wr W117 (Or.inr z3)
              rw [show nar .char ((p4 &&& (255 : Int32)).toUInt32.toUInt16.toUInt32.toInt32) = ((p4 &&& (255 : Int32)).toUInt32.toUInt16.toUInt32.toInt32) from (own_b255 rfl).2] at W117
              have V117 : Arv Z h117 ob1 k1 .char (7 : Int32) [(Value.int (105 : Int32)), (Value.int (110 : Int32)), (Value.int (115 : Int32)), (Value.int (101 : Int32)), (Value.int (114 : Int32)), (Value.int (116 : Int32)), (Value.int ((p4 &&& (255 : Int32)).toUInt32.toUInt16.toUInt32.toInt32))] (Value.int (0 : Int32)) := Arv.set Ar116 q116 S116 M116 Hh116 G116 (own_fitC ((own_b255 rfl).2)) W117 6 rfl (Nat.le_of_ble_eq_true rfl)
              refine own_Go.by (fun tq kq => XS.iload X117.here hx rfl (hb hby at_293) rfl kq) ?_
              refine own_Go.by (fun tq kq => XS.iconst X117.here hx rfl (hb hby at_295) kq) ?_
              refine own_Go.by (fun tq kq => XS.iadd X117.here hx rfl (hb hby at_296) rfl kq) ?_
              show own_Go _ _ _ _ (T117.setTop (mkF m 297 #[sI p1, sI p2, sI p3, sI p4, sI p5, sI (p1 &&& (3 : Int32)), sR ob1, sI (6 : Int32), sI (0 : Int32), .unset, .unset] [(Value.int (7 : Int32))]))
              refine own_Go.by (fun tq kq => XS.istore X117.here hx rfl (hb hby at_297) rfl (l' := #[sI p1, sI p2, sI p3, sI p4, sI p5, sI (p1 &&& (3 : Int32)), sR ob1, sI (7 : Int32), sI (0 : Int32), .unset, .unset]) rfl kq) ?_
              have hok119 : own_ok [(Value.int (105 : Int32)), (Value.int (110 : Int32)), (Value.int (115 : Int32)), (Value.int (101 : Int32)), (Value.int (114 : Int32)), (Value.int (116 : Int32)), (Value.int ((p4 &&& (255 : Int32)).toUInt32.toUInt16.toUInt32.toInt32))] := own_okL [(105 : Int32), (110 : Int32), (115 : Int32), (101 : Int32), (114 : Int32), (116 : Int32), ((p4 &&& (255 : Int32)).toUInt32.toUInt16.toUInt32.toInt32)] rfl (by
                  intro c hc
                  simp only [List.mem_cons, List.not_mem_nil, or_false] at hc
                  rcases hc with rfl | rfl | rfl | rfl | rfl | rfl | rfl
                  · exact by decide
                  · exact by decide
                  · exact by decide
                  · exact by decide
                  · exact by decide
                  · exact by decide
                  · exact (own_b255 rfl).1)
              exact g_4 (T117, h117, _, [(Value.int (105 : Int32)), (Value.int (110 : Int32)), (Value.int (115 : Int32)), (Value.int (101 : Int32)), (Value.int (114 : Int32)), (Value.int (116 : Int32)), (Value.int ((p4 &&& (255 : Int32)).toUInt32.toUInt16.toUInt32.toInt32))], (7 : Int32), (0 : Int32)) ⟨X117, e117, O118, K118, N117, V117, hok119⟩
          ·
            refine own_Go.by (fun tq kq => XS.ifNo X110.here hx rfl (hb hby at_266) rfl ((if0 _ _).trans (feq hc266_113).1) kq) ?_
            refine own_Go.by (fun tq kq => XS.iload X110.here hx rfl (hb hby at_269) rfl kq) ?_
            refine own_Go.by (fun tq kq => XS.iconst X110.here hx rfl (hb hby at_271) kq) ?_
            refine own_Go.by (fun tq kq => XS.isub X110.here hx rfl (hb hby at_272) rfl kq) ?_
            show own_Go _ _ _ _ (T110.setTop (mkF m 273 #[sI p1, sI p2, sI p3, sI p4, sI p5, sI (p1 &&& (3 : Int32)), sR ob1, sI (6 : Int32), sI (0 : Int32), .unset, .unset] [(Value.int (5 : Int32))]))
            refine own_Go.by (fun tq kq => XS.istore X110.here hx rfl (hb hby at_273) rfl (l' := #[sI p1, sI p2, sI p3, sI p4, sI p5, sI (p1 &&& (3 : Int32)), sR ob1, sI (5 : Int32), sI (0 : Int32), .unset, .unset]) rfl kq) ?_
            refine own_Go.by (fun tq kq => XS.iloadN X110.here hx rfl (hb hby at_275) rfl kq) ?_
            refine own_Go.by (fun tq kq => XS.bipush X110.here hx rfl (hb hby at_276) kq) ?_
            refine own_Go.by (fun tq kq => XS.iand X110.here hx rfl (hb hby at_278) rfl kq) ?_
            show own_Go _ _ _ _ (T110.setTop (mkF m 279 #[sI p1, sI p2, sI p3, sI p4, sI p5, sI (p1 &&& (3 : Int32)), sR ob1, sI (5 : Int32), sI (0 : Int32), .unset, .unset] [(Value.int (p1 &&& (16 : Int32)))]))
            by_cases hc279_120 : (p1 &&& (16 : Int32)) = (0 : Int32)
            ·
              refine own_Go.by (fun tq kq => XS.ifYes X110.here hx rfl (pc0 := 279) (pc' := 299) rfl (hb hby at_279) rfl ((if0 _ _).trans (teq hc279_120).1) (by decide) (by decide) kq) ?_
              have hok121 : own_ok [(Value.int (105 : Int32)), (Value.int (110 : Int32)), (Value.int (115 : Int32)), (Value.int (101 : Int32)), (Value.int (114 : Int32)), (Value.int (116 : Int32)), (Value.int (0 : Int32))] := own_okL [(105 : Int32), (110 : Int32), (115 : Int32), (101 : Int32), (114 : Int32), (116 : Int32), (0 : Int32)] rfl (by
                  intro c hc
                  simp only [List.mem_cons, List.not_mem_nil, or_false] at hc
                  rcases hc with rfl | rfl | rfl | rfl | rfl | rfl | rfl
                  · exact by decide
                  · exact by decide
                  · exact by decide
                  · exact by decide
                  · exact by decide
                  · exact by decide
                  · exact by decide)
              exact g_4 (T110, h110, _, [(Value.int (105 : Int32)), (Value.int (110 : Int32)), (Value.int (115 : Int32)), (Value.int (101 : Int32)), (Value.int (114 : Int32)), (Value.int (116 : Int32)), (Value.int (0 : Int32))], (5 : Int32), (0 : Int32)) ⟨X110, e110, O111, K111, N110, V110, hok121⟩
            ·
              refine own_Go.by (fun tq kq => XS.ifNo X110.here hx rfl (hb hby at_279) rfl ((if0 _ _).trans (feq hc279_120).1) kq) ?_
              refine own_Go.by (fun tq kq => XS.aload X110.here hx rfl (hb hby at_282) rfl rfl kq) ?_
              refine own_Go.by (fun tq kq => XS.iload X110.here hx rfl (hb hby at_284) rfl kq) ?_
              refine own_Go.by (fun tq kq => XS.iloadN X110.here hx rfl (hb hby at_286) rfl kq) ?_
              show own_Go _ _ _ _ (T110.setTop (mkF m 287 #[sI p1, sI p2, sI p3, sI p4, sI p5, sI (p1 &&& (3 : Int32)), sR ob1, sI (5 : Int32), sI (0 : Int32), .unset, .unset] [(Value.int p4), (Value.int (5 : Int32)), (Value.ref ob1)]))
              refine own_Go.by (fun tq kq => XS.sipush X110.here hx rfl (hb hby at_287) kq) ?_
              refine own_Go.by (fun tq kq => XS.iand X110.here hx rfl (hb hby at_290) rfl kq) ?_
              refine own_Go.by (fun tq kq => XS.i2c X110.here hx rfl (hb hby at_291) rfl kq) ?_
              show own_Go _ _ _ _ (T110.setTop (mkF m 292 #[sI p1, sI p2, sI p3, sI p4, sI p5, sI (p1 &&& (3 : Int32)), sR ob1, sI (5 : Int32), sI (0 : Int32), .unset, .unset] [(Value.int ((p4 &&& (255 : Int32)).toUInt32.toUInt16.toUInt32.toInt32)), (Value.int (5 : Int32)), (Value.ref ob1)]))
              obtain ⟨cl122, Ar122, q122, S122, M122, Hh122, G122⟩ := id V110
              obtain ⟨T123, h123, X123, e123, W123, st123⟩ := stC X110 hx hZ e110 Ar122 (j := (5 : Int32)) (inb_of S122 ⟨(by decide : ¬ ((5 : Int32) < (0 : Int32))), (by decide : (5 : Int32) < (7 : Int32))⟩) (g := (mkF m 292 #[sI p1, sI p2, sI p3, sI p4, sI p5, sI (p1 &&& (3 : Int32)), sR ob1, sI (5 : Int32), sI (0 : Int32), .unset, .unset] [(Value.int ((p4 &&& (255 : Int32)).toUInt32.toUInt16.toUInt32.toInt32)), (Value.int (5 : Int32)), (Value.ref ob1)])) rfl rfl (hb hby at_292)
              refine own_Go.by st123 ?_
              have N123 := Fr.snoc X123 N110 g3
              have O124 := O111.wr W123 g3
              have K124 := K111.wr W123 (Or.inr z3)
              rw [show nar .char ((p4 &&& (255 : Int32)).toUInt32.toUInt16.toUInt32.toInt32) = ((p4 &&& (255 : Int32)).toUInt32.toUInt16.toUInt32.toInt32) from (own_b255 rfl).2] at W123
              have V123 : Arv Z h123 ob1 k1 .char (7 : Int32) [(Value.int (105 : Int32)), (Value.int (110 : Int32)), (Value.int (115 : Int32)), (Value.int (101 : Int32)), (Value.int (114 : Int32)), (Value.int ((p4 &&& (255 : Int32)).toUInt32.toUInt16.toUInt32.toInt32)), (Value.int (0 : Int32))] (Value.int (0 : Int32)) := Arv.set Ar122 q122 S122 M122 Hh122 G122 (own_fitC ((own_b255 rfl).2)) W123 5 rfl (Nat.le_of_ble_eq_true rfl)
              refine own_Go.by (fun tq kq => XS.iload X123.here hx rfl (hb hby at_293) rfl kq) ?_
              refine own_Go.by (fun tq kq => XS.iconst X123.here hx rfl (hb hby at_295) kq) ?_
              refine own_Go.by (fun tq kq => XS.iadd X123.here hx rfl (hb hby at_296) rfl kq) ?_
              show own_Go _ _ _ _ (T123.setTop (mkF m 297 #[sI p1, sI p2, sI p3, sI p4, sI p5, sI (p1 &&& (3 : Int32)), sR ob1, sI (5 : Int32), sI (0 : Int32), .unset, .unset] [(Value.int (6 : Int32))]))
              refine own_Go.by (fun tq kq => XS.istore X123.here hx rfl (hb hby at_297) rfl (l' := #[sI p1, sI p2, sI p3, sI p4, sI p5, sI (p1 &&& (3 : Int32)), sR ob1, sI (6 : Int32), sI (0 : Int32), .unset, .unset]) rfl kq) ?_
              have hok125 : own_ok [(Value.int (105 : Int32)), (Value.int (110 : Int32)), (Value.int (115 : Int32)), (Value.int (101 : Int32)), (Value.int (114 : Int32)), (Value.int ((p4 &&& (255 : Int32)).toUInt32.toUInt16.toUInt32.toInt32)), (Value.int (0 : Int32))] := own_okL [(105 : Int32), (110 : Int32), (115 : Int32), (101 : Int32), (114 : Int32), ((p4 &&& (255 : Int32)).toUInt32.toUInt16.toUInt32.toInt32), (0 : Int32)] rfl (by
                  intro c hc
                  simp only [List.mem_cons, List.not_mem_nil, or_false] at hc
                  rcases hc with rfl | rfl | rfl | rfl | rfl | rfl | rfl
                  · exact by decide
                  · exact by decide
                  · exact by decide
                  · exact by decide
                  · exact by decide
                  · exact (own_b255 rfl).1
                  · exact by decide)
              exact g_4 (T123, h123, _, [(Value.int (105 : Int32)), (Value.int (110 : Int32)), (Value.int (115 : Int32)), (Value.int (101 : Int32)), (Value.int (114 : Int32)), (Value.int ((p4 &&& (255 : Int32)).toUInt32.toUInt16.toUInt32.toInt32)), (Value.int (0 : Int32))], (6 : Int32), (0 : Int32)) ⟨X123, e123, O124, K124, N123, V123, hok125⟩
        ·
          refine own_Go.by (fun tq kq => XS.ifNo X110.here hx rfl (hb hby at_243) rfl ((if0 _ _).trans (feq hc243_112).1) kq) ?_
          refine own_Go.by (fun tq kq => XS.aload X110.here hx rfl (hb hby at_246) rfl rfl kq) ?_
          refine own_Go.by (fun tq kq => XS.iloadN X110.here hx rfl (hb hby at_248) rfl kq) ?_
          show own_Go _ _ _ _ (T110.setTop (mkF m 249 #[sI p1, sI p2, sI p3, sI p4, sI p5, sI (p1 &&& (3 : Int32)), sR ob1, sI (6 : Int32), sI (0 : Int32), .unset, .unset] [(Value.int p2), (Value.ref ob1)]))
          refine own_Go.by (fun tq kq => X110.ldcInt hx hown (mvT hZ (hw _ (List.mem_of_getElem? (i := 73) rfl))) (g := (mkF m 249 #[sI p1, sI p2, sI p3, sI p4, sI p5, sI (p1 &&& (3 : Int32)), sR ob1, sI (6 : Int32), sI (0 : Int32), .unset, .unset] [(Value.int p2), (Value.ref ob1)])) rfl (hb hby at_249) _ kq) ?_
          refine own_Go.by (fun tq kq => XS.iand X110.here hx rfl (hb hby at_251) rfl kq) ?_
          refine own_Go.by (fun tq kq => XS.iload X110.here hx rfl (hb hby at_252) rfl kq) ?_
          show own_Go _ _ _ _ (T110.setTop (mkF m 254 #[sI p1, sI p2, sI p3, sI p4, sI p5, sI (p1 &&& (3 : Int32)), sR ob1, sI (6 : Int32), sI (0 : Int32), .unset, .unset] [(Value.int (6 : Int32)), (Value.int (p2 &&& (2147483647 : Int32))), (Value.ref ob1)]))
          refine own_Go.by (fun tq kq => iremM (g := (mkF m 254 #[sI p1, sI p2, sI p3, sI p4, sI p5, sI (p1 &&& (3 : Int32)), sR ob1, sI (6 : Int32), sI (0 : Int32), .unset, .unset] [(Value.int (6 : Int32)), (Value.int (p2 &&& (2147483647 : Int32))), (Value.ref ob1)])) X110 hx rfl (hb hby at_254) rfl (by decide) kq) ?_
          refine own_Go.by (fun tq kq => XS.iloadN X110.here hx rfl (hb hby at_255) rfl kq) ?_
          refine own_Go.by (fun tq kq => XS.sipush X110.here hx rfl (hb hby at_256) kq) ?_
          refine own_Go.by (fun tq kq => XS.iand X110.here hx rfl (hb hby at_259) rfl kq) ?_
          show own_Go _ _ _ _ (T110.setTop (mkF m 260 #[sI p1, sI p2, sI p3, sI p4, sI p5, sI (p1 &&& (3 : Int32)), sR ob1, sI (6 : Int32), sI (0 : Int32), .unset, .unset] [(Value.int (p3 &&& (255 : Int32))), (Value.int ((p2 &&& (2147483647 : Int32)) % (6 : Int32))), (Value.ref ob1)]))
          refine own_Go.by (fun tq kq => XS.i2c X110.here hx rfl (hb hby at_260) rfl kq) ?_
          have hok126 : own_ok [(Value.int (105 : Int32)), (Value.int (110 : Int32)), (Value.int (115 : Int32)), (Value.int (101 : Int32)), (Value.int (114 : Int32)), (Value.int (116 : Int32)), (Value.int (0 : Int32))] := own_okL [(105 : Int32), (110 : Int32), (115 : Int32), (101 : Int32), (114 : Int32), (116 : Int32), (0 : Int32)] rfl (by
              intro c hc
              simp only [List.mem_cons, List.not_mem_nil, or_false] at hc
              rcases hc with rfl | rfl | rfl | rfl | rfl | rfl | rfl
              · exact by decide
              · exact by decide
              · exact by decide
              · exact by decide
              · exact by decide
              · exact by decide
              · exact by decide)
          show own_Go _ _ _ _ (T110.setTop (mkF m 261 #[sI p1, sI p2, sI p3, sI p4, sI p5, sI (p1 &&& (3 : Int32)), sR ob1, sI (6 : Int32), sI (0 : Int32), .unset, .unset] [(Value.int ((p3 &&& (255 : Int32)).toUInt32.toUInt16.toUInt32.toInt32)), (Value.int ((p2 &&& (2147483647 : Int32)) % (6 : Int32))), (Value.ref ob1)]))
          obtain ⟨cl127, Ar127, q127, S127, M127, Hh127, G127⟩ := id V110
          obtain ⟨T128, h128, X128, e128, W128, st128⟩ := stC X110 hx hZ e110 Ar127 (j := ((p2 &&& (2147483647 : Int32)) % (6 : Int32))) (inb_of S127 (own_ix 6 rfl (by decide) (by decide) rfl).1) (g := (mkF m 261 #[sI p1, sI p2, sI p3, sI p4, sI p5, sI (p1 &&& (3 : Int32)), sR ob1, sI (6 : Int32), sI (0 : Int32), .unset, .unset] [(Value.int ((p3 &&& (255 : Int32)).toUInt32.toUInt16.toUInt32.toInt32)), (Value.int ((p2 &&& (2147483647 : Int32)) % (6 : Int32))), (Value.ref ob1)])) rfl rfl (hb hby at_261)
          refine own_Go.by st128 ?_
          have N128 := Fr.snoc X128 N110 g3
          have O129 := O111.wr W128 g3
          have K129 := K111.wr W128 (Or.inr z3)
          rw [show nar .char ((p3 &&& (255 : Int32)).toUInt32.toUInt16.toUInt32.toInt32) = ((p3 &&& (255 : Int32)).toUInt32.toUInt16.toUInt32.toInt32) from (own_b255 rfl).2] at W128
          have V128 : Arv Z h128 ob1 k1 .char (7 : Int32) ([(Value.int (105 : Int32)), (Value.int (110 : Int32)), (Value.int (115 : Int32)), (Value.int (101 : Int32)), (Value.int (114 : Int32)), (Value.int (116 : Int32)), (Value.int (0 : Int32))].set (((p2 &&& (2147483647 : Int32)) % (6 : Int32))).toNatClampNeg (Value.int ((p3 &&& (255 : Int32)).toUInt32.toUInt16.toUInt32.toInt32))) (Value.int (0 : Int32)) := Arv.set Ar127 q127 S127 M127 Hh127 G127 (own_fitC ((own_b255 rfl).2)) W128 (((p2 &&& (2147483647 : Int32)) % (6 : Int32))).toNatClampNeg (rfl) ((own_ix 6 rfl (by decide) (by decide) rfl).2)
          have hok130 : own_ok ([(Value.int (105 : Int32)), (Value.int (110 : Int32)), (Value.int (115 : Int32)), (Value.int (101 : Int32)), (Value.int (114 : Int32)), (Value.int (116 : Int32)), (Value.int (0 : Int32))].set (((p2 &&& (2147483647 : Int32)) % (6 : Int32))).toNatClampNeg (Value.int ((p3 &&& (255 : Int32)).toUInt32.toUInt16.toUInt32.toInt32))) := own_ok_set hok126 _ (own_b255 rfl).1
          refine own_Go.by (fun tq kq => XS.iloadN X128.here hx rfl (hb hby at_262) rfl kq) ?_
          refine own_Go.by (fun tq kq => XS.bipush X128.here hx rfl (hb hby at_263) kq) ?_
          refine own_Go.by (fun tq kq => XS.iand X128.here hx rfl (hb hby at_265) rfl kq) ?_
          show own_Go _ _ _ _ (T128.setTop (mkF m 266 #[sI p1, sI p2, sI p3, sI p4, sI p5, sI (p1 &&& (3 : Int32)), sR ob1, sI (6 : Int32), sI (0 : Int32), .unset, .unset] [(Value.int (p1 &&& (8 : Int32)))]))
          by_cases hc266_131 : (p1 &&& (8 : Int32)) = (0 : Int32)
          ·
            refine own_Go.by (fun tq kq => XS.ifYes X128.here hx rfl (pc0 := 266) (pc' := 275) rfl (hb hby at_266) rfl ((if0 _ _).trans (teq hc266_131).1) (by decide) (by decide) kq) ?_
            refine own_Go.by (fun tq kq => XS.iloadN X128.here hx rfl (hb hby at_275) rfl kq) ?_
            refine own_Go.by (fun tq kq => XS.bipush X128.here hx rfl (hb hby at_276) kq) ?_
            refine own_Go.by (fun tq kq => XS.iand X128.here hx rfl (hb hby at_278) rfl kq) ?_
            show own_Go _ _ _ _ (T128.setTop (mkF m 279 #[sI p1, sI p2, sI p3, sI p4, sI p5, sI (p1 &&& (3 : Int32)), sR ob1, sI (6 : Int32), sI (0 : Int32), .unset, .unset] [(Value.int (p1 &&& (16 : Int32)))]))
            by_cases hc279_132 : (p1 &&& (16 : Int32)) = (0 : Int32)
            ·
              refine own_Go.by (fun tq kq => XS.ifYes X128.here hx rfl (pc0 := 279) (pc' := 299) rfl (hb hby at_279) rfl ((if0 _ _).trans (teq hc279_132).1) (by decide) (by decide) kq) ?_
              exact g_4 (T128, h128, _, ([(Value.int (105 : Int32)), (Value.int (110 : Int32)), (Value.int (115 : Int32)), (Value.int (101 : Int32)), (Value.int (114 : Int32)), (Value.int (116 : Int32)), (Value.int (0 : Int32))].set (((p2 &&& (2147483647 : Int32)) % (6 : Int32))).toNatClampNeg (Value.int ((p3 &&& (255 : Int32)).toUInt32.toUInt16.toUInt32.toInt32))), (6 : Int32), (0 : Int32)) ⟨X128, e128, O129, K129, N128, V128, hok130⟩
            ·
              refine own_Go.by (fun tq kq => XS.ifNo X128.here hx rfl (hb hby at_279) rfl ((if0 _ _).trans (feq hc279_132).1) kq) ?_
              refine own_Go.by (fun tq kq => XS.aload X128.here hx rfl (hb hby at_282) rfl rfl kq) ?_
              refine own_Go.by (fun tq kq => XS.iload X128.here hx rfl (hb hby at_284) rfl kq) ?_
              refine own_Go.by (fun tq kq => XS.iloadN X128.here hx rfl (hb hby at_286) rfl kq) ?_
              show own_Go _ _ _ _ (T128.setTop (mkF m 287 #[sI p1, sI p2, sI p3, sI p4, sI p5, sI (p1 &&& (3 : Int32)), sR ob1, sI (6 : Int32), sI (0 : Int32), .unset, .unset] [(Value.int p4), (Value.int (6 : Int32)), (Value.ref ob1)]))
              refine own_Go.by (fun tq kq => XS.sipush X128.here hx rfl (hb hby at_287) kq) ?_
              refine own_Go.by (fun tq kq => XS.iand X128.here hx rfl (hb hby at_290) rfl kq) ?_
              refine own_Go.by (fun tq kq => XS.i2c X128.here hx rfl (hb hby at_291) rfl kq) ?_
              show own_Go _ _ _ _ (T128.setTop (mkF m 292 #[sI p1, sI p2, sI p3, sI p4, sI p5, sI (p1 &&& (3 : Int32)), sR ob1, sI (6 : Int32), sI (0 : Int32), .unset, .unset] [(Value.int ((p4 &&& (255 : Int32)).toUInt32.toUInt16.toUInt32.toInt32)), (Value.int (6 : Int32)), (Value.ref ob1)]))
              obtain ⟨cl133, Ar133, q133, S133, M133, Hh133, G133⟩ := id V128
              obtain ⟨T134, h134, X134, e134, W134, st134⟩ := stC X128 hx hZ e128 Ar133 (j := (6 : Int32)) (inb_of S133 ⟨(by decide : ¬ ((6 : Int32) < (0 : Int32))), (by decide : (6 : Int32) < (7 : Int32))⟩) (g := (mkF m 292 #[sI p1, sI p2, sI p3, sI p4, sI p5, sI (p1 &&& (3 : Int32)), sR ob1, sI (6 : Int32), sI (0 : Int32), .unset, .unset] [(Value.int ((p4 &&& (255 : Int32)).toUInt32.toUInt16.toUInt32.toInt32)), (Value.int (6 : Int32)), (Value.ref ob1)])) rfl rfl (hb hby at_292)
              refine own_Go.by st134 ?_
              have N134 := Fr.snoc X134 N128 g3
              have O135 := O129.wr W134 g3
              have K135 := K129.wr W134 (Or.inr z3)
              rw [show nar .char ((p4 &&& (255 : Int32)).toUInt32.toUInt16.toUInt32.toInt32) = ((p4 &&& (255 : Int32)).toUInt32.toUInt16.toUInt32.toInt32) from (own_b255 rfl).2] at W134
              have V134 : Arv Z h134 ob1 k1 .char (7 : Int32) (([(Value.int (105 : Int32)), (Value.int (110 : Int32)), (Value.int (115 : Int32)), (Value.int (101 : Int32)), (Value.int (114 : Int32)), (Value.int (116 : Int32)), (Value.int (0 : Int32))].set (((p2 &&& (2147483647 : Int32)) % (6 : Int32))).toNatClampNeg (Value.int ((p3 &&& (255 : Int32)).toUInt32.toUInt16.toUInt32.toInt32))).set 6 (Value.int ((p4 &&& (255 : Int32)).toUInt32.toUInt16.toUInt32.toInt32))) (Value.int (0 : Int32)) := Arv.set Ar133 q133 S133 M133 Hh133 G133 (own_fitC ((own_b255 rfl).2)) W134 6 (rfl) (by simp)
              have hok136 : own_ok (([(Value.int (105 : Int32)), (Value.int (110 : Int32)), (Value.int (115 : Int32)), (Value.int (101 : Int32)), (Value.int (114 : Int32)), (Value.int (116 : Int32)), (Value.int (0 : Int32))].set (((p2 &&& (2147483647 : Int32)) % (6 : Int32))).toNatClampNeg (Value.int ((p3 &&& (255 : Int32)).toUInt32.toUInt16.toUInt32.toInt32))).set 6 (Value.int ((p4 &&& (255 : Int32)).toUInt32.toUInt16.toUInt32.toInt32))) := own_ok_set hok130 _ (own_b255 rfl).1
              refine own_Go.by (fun tq kq => XS.iload X134.here hx rfl (hb hby at_293) rfl kq) ?_
              refine own_Go.by (fun tq kq => XS.iconst X134.here hx rfl (hb hby at_295) kq) ?_
              refine own_Go.by (fun tq kq => XS.iadd X134.here hx rfl (hb hby at_296) rfl kq) ?_
              show own_Go _ _ _ _ (T134.setTop (mkF m 297 #[sI p1, sI p2, sI p3, sI p4, sI p5, sI (p1 &&& (3 : Int32)), sR ob1, sI (6 : Int32), sI (0 : Int32), .unset, .unset] [(Value.int (7 : Int32))]))
              refine own_Go.by (fun tq kq => XS.istore X134.here hx rfl (hb hby at_297) rfl (l' := #[sI p1, sI p2, sI p3, sI p4, sI p5, sI (p1 &&& (3 : Int32)), sR ob1, sI (7 : Int32), sI (0 : Int32), .unset, .unset]) rfl kq) ?_
              exact g_4 (T134, h134, _, (([(Value.int (105 : Int32)), (Value.int (110 : Int32)), (Value.int (115 : Int32)), (Value.int (101 : Int32)), (Value.int (114 : Int32)), (Value.int (116 : Int32)), (Value.int (0 : Int32))].set (((p2 &&& (2147483647 : Int32)) % (6 : Int32))).toNatClampNeg (Value.int ((p3 &&& (255 : Int32)).toUInt32.toUInt16.toUInt32.toInt32))).set 6 (Value.int ((p4 &&& (255 : Int32)).toUInt32.toUInt16.toUInt32.toInt32))), (7 : Int32), (0 : Int32)) ⟨X134, e134, O135, K135, N134, V134, hok136⟩
          ·
            refine own_Go.by (fun tq kq => XS.ifNo X128.here hx rfl (hb hby at_266) rfl ((if0 _ _).trans (feq hc266_131).1) kq) ?_
            refine own_Go.by (fun tq kq => XS.iload X128.here hx rfl (hb hby at_269) rfl kq) ?_
            refine own_Go.by (fun tq kq => XS.iconst X128.here hx rfl (hb hby at_271) kq) ?_
            refine own_Go.by (fun tq kq => XS.isub X128.here hx rfl (hb hby at_272) rfl kq) ?_
            show own_Go _ _ _ _ (T128.setTop (mkF m 273 #[sI p1, sI p2, sI p3, sI p4, sI p5, sI (p1 &&& (3 : Int32)), sR ob1, sI (6 : Int32), sI (0 : Int32), .unset, .unset] [(Value.int (5 : Int32))]))
            refine own_Go.by (fun tq kq => XS.istore X128.here hx rfl (hb hby at_273) rfl (l' := #[sI p1, sI p2, sI p3, sI p4, sI p5, sI (p1 &&& (3 : Int32)), sR ob1, sI (5 : Int32), sI (0 : Int32), .unset, .unset]) rfl kq) ?_
            refine own_Go.by (fun tq kq => XS.iloadN X128.here hx rfl (hb hby at_275) rfl kq) ?_
            refine own_Go.by (fun tq kq => XS.bipush X128.here hx rfl (hb hby at_276) kq) ?_
            refine own_Go.by (fun tq kq => XS.iand X128.here hx rfl (hb hby at_278) rfl kq) ?_
            show own_Go _ _ _ _ (T128.setTop (mkF m 279 #[sI p1, sI p2, sI p3, sI p4, sI p5, sI (p1 &&& (3 : Int32)), sR ob1, sI (5 : Int32), sI (0 : Int32), .unset, .unset] [(Value.int (p1 &&& (16 : Int32)))]))
            by_cases hc279_137 : (p1 &&& (16 : Int32)) = (0 : Int32)
            ·
              refine own_Go.by (fun tq kq => XS.ifYes X128.here hx rfl (pc0 := 279) (pc' := 299) rfl (hb hby at_279) rfl ((if0 _ _).trans (teq hc279_137).1) (by decide) (by decide) kq) ?_
              exact g_4 (T128, h128, _, ([(Value.int (105 : Int32)), (Value.int (110 : Int32)), (Value.int (115 : Int32)), (Value.int (101 : Int32)), (Value.int (114 : Int32)), (Value.int (116 : Int32)), (Value.int (0 : Int32))].set (((p2 &&& (2147483647 : Int32)) % (6 : Int32))).toNatClampNeg (Value.int ((p3 &&& (255 : Int32)).toUInt32.toUInt16.toUInt32.toInt32))), (5 : Int32), (0 : Int32)) ⟨X128, e128, O129, K129, N128, V128, hok130⟩
            ·
              refine own_Go.by (fun tq kq => XS.ifNo X128.here hx rfl (hb hby at_279) rfl ((if0 _ _).trans (feq hc279_137).1) kq) ?_
              refine own_Go.by (fun tq kq => XS.aload X128.here hx rfl (hb hby at_282) rfl rfl kq) ?_
              refine own_Go.by (fun tq kq => XS.iload X128.here hx rfl (hb hby at_284) rfl kq) ?_
              refine own_Go.by (fun tq kq => XS.iloadN X128.here hx rfl (hb hby at_286) rfl kq) ?_
              show own_Go _ _ _ _ (T128.setTop (mkF m 287 #[sI p1, sI p2, sI p3, sI p4, sI p5, sI (p1 &&& (3 : Int32)), sR ob1, sI (5 : Int32), sI (0 : Int32), .unset, .unset] [(Value.int p4), (Value.int (5 : Int32)), (Value.ref ob1)]))
              refine own_Go.by (fun tq kq => XS.sipush X128.here hx rfl (hb hby at_287) kq) ?_
              refine own_Go.by (fun tq kq => XS.iand X128.here hx rfl (hb hby at_290) rfl kq) ?_
              refine own_Go.by (fun tq kq => XS.i2c X128.here hx rfl (hb hby at_291) rfl kq) ?_
              show own_Go _ _ _ _ (T128.setTop (mkF m 292 #[sI p1, sI p2, sI p3, sI p4, sI p5, sI (p1 &&& (3 : Int32)), sR ob1, sI (5 : Int32), sI (0 : Int32), .unset, .unset] [(Value.int ((p4 &&& (255 : Int32)).toUInt32.toUInt16.toUInt32.toInt32)), (Value.int (5 : Int32)), (Value.ref ob1)]))
              obtain ⟨cl138, Ar138, q138, S138, M138, Hh138, G138⟩ := id V128
              obtain ⟨T139, h139, X139, e139, W139, st139⟩ := stC X128 hx hZ e128 Ar138 (j := (5 : Int32)) (inb_of S138 ⟨(by decide : ¬ ((5 : Int32) < (0 : Int32))), (by decide : (5 : Int32) < (7 : Int32))⟩) (g := (mkF m 292 #[sI p1, sI p2, sI p3, sI p4, sI p5, sI (p1 &&& (3 : Int32)), sR ob1, sI (5 : Int32), sI (0 : Int32), .unset, .unset] [(Value.int ((p4 &&& (255 : Int32)).toUInt32.toUInt16.toUInt32.toInt32)), (Value.int (5 : Int32)), (Value.ref ob1)])) rfl rfl (hb hby at_292)
              refine own_Go.by st139 ?_
              have N139 := Fr.snoc X139 N128 g3
              have O140 := O129.wr W139 g3
              have K140 := K129.wr W139 (Or.inr z3)
              rw [show nar .char ((p4 &&& (255 : Int32)).toUInt32.toUInt16.toUInt32.toInt32) = ((p4 &&& (255 : Int32)).toUInt32.toUInt16.toUInt32.toInt32) from (own_b255 rfl).2] at W139
              have V139 : Arv Z h139 ob1 k1 .char (7 : Int32) (([(Value.int (105 : Int32)), (Value.int (110 : Int32)), (Value.int (115 : Int32)), (Value.int (101 : Int32)), (Value.int (114 : Int32)), (Value.int (116 : Int32)), (Value.int (0 : Int32))].set (((p2 &&& (2147483647 : Int32)) % (6 : Int32))).toNatClampNeg (Value.int ((p3 &&& (255 : Int32)).toUInt32.toUInt16.toUInt32.toInt32))).set 5 (Value.int ((p4 &&& (255 : Int32)).toUInt32.toUInt16.toUInt32.toInt32))) (Value.int (0 : Int32)) := Arv.set Ar138 q138 S138 M138 Hh138 G138 (own_fitC ((own_b255 rfl).2)) W139 5 (rfl) (by simp)
              have hok141 : own_ok (([(Value.int (105 : Int32)), (Value.int (110 : Int32)), (Value.int (115 : Int32)), (Value.int (101 : Int32)), (Value.int (114 : Int32)), (Value.int (116 : Int32)), (Value.int (0 : Int32))].set (((p2 &&& (2147483647 : Int32)) % (6 : Int32))).toNatClampNeg (Value.int ((p3 &&& (255 : Int32)).toUInt32.toUInt16.toUInt32.toInt32))).set 5 (Value.int ((p4 &&& (255 : Int32)).toUInt32.toUInt16.toUInt32.toInt32))) := own_ok_set hok130 _ (own_b255 rfl).1
              refine own_Go.by (fun tq kq => XS.iload X139.here hx rfl (hb hby at_293) rfl kq) ?_
              refine own_Go.by (fun tq kq => XS.iconst X139.here hx rfl (hb hby at_295) kq) ?_
              refine own_Go.by (fun tq kq => XS.iadd X139.here hx rfl (hb hby at_296) rfl kq) ?_
              show own_Go _ _ _ _ (T139.setTop (mkF m 297 #[sI p1, sI p2, sI p3, sI p4, sI p5, sI (p1 &&& (3 : Int32)), sR ob1, sI (5 : Int32), sI (0 : Int32), .unset, .unset] [(Value.int (6 : Int32))]))
              refine own_Go.by (fun tq kq => XS.istore X139.here hx rfl (hb hby at_297) rfl (l' := #[sI p1, sI p2, sI p3, sI p4, sI p5, sI (p1 &&& (3 : Int32)), sR ob1, sI (6 : Int32), sI (0 : Int32), .unset, .unset]) rfl kq) ?_
              exact g_4 (T139, h139, _, (([(Value.int (105 : Int32)), (Value.int (110 : Int32)), (Value.int (115 : Int32)), (Value.int (101 : Int32)), (Value.int (114 : Int32)), (Value.int (116 : Int32)), (Value.int (0 : Int32))].set (((p2 &&& (2147483647 : Int32)) % (6 : Int32))).toNatClampNeg (Value.int ((p3 &&& (255 : Int32)).toUInt32.toUInt16.toUInt32.toInt32))).set 5 (Value.int ((p4 &&& (255 : Int32)).toUInt32.toUInt16.toUInt32.toInt32))), (6 : Int32), (0 : Int32)) ⟨X139, e139, O140, K140, N139, V139, hok141⟩
      ·
        refine own_Go.by (fun tq kq => XS.icmpYes X1.here hx rfl (pc0 := 46) (pc' := 92) rfl (hb hby at_46) rfl (feq hc46_93).2 (by decide) (by decide) kq) ?_
        refine own_Go.by (fun tq kq => XS.iload X1.here hx rfl (hb hby at_92) rfl kq) ?_
        refine own_Go.by (fun tq kq => XS.iconst X1.here hx rfl (hb hby at_94) kq) ?_
        show own_Go _ _ _ _ (T1.setTop (mkF m 95 #[sI p1, sI p2, sI p3, sI p4, sI p5, sI (p1 &&& (3 : Int32)), sR ob1, .unset, sI (0 : Int32), .unset, .unset] [(Value.int (2 : Int32)), (Value.int (p1 &&& (3 : Int32)))]))
        by_cases hc95_142 : (p1 &&& (3 : Int32)) = (2 : Int32)
        ·
          refine own_Go.by (fun tq kq => XS.icmpNo X1.here hx rfl (hb hby at_95) rfl (teq hc95_142).2 kq) ?_
          refine own_Go.by (fun tq kq => XS.aload X1.here hx rfl (hb hby at_98) rfl rfl kq) ?_
          refine own_Go.by (fun tq kq => XS.iconst X1.here hx rfl (hb hby at_100) kq) ?_
          refine own_Go.by (fun tq kq => XS.bipush X1.here hx rfl (hb hby at_101) kq) ?_
          show own_Go _ _ _ _ (T1.setTop (mkF m 103 #[sI p1, sI p2, sI p3, sI p4, sI p5, sI (p1 &&& (3 : Int32)), sR ob1, .unset, sI (0 : Int32), .unset, .unset] [(Value.int (103 : Int32)), (Value.int (0 : Int32)), (Value.ref ob1)]))
          obtain ⟨cl143, Ar143, q143, S143, M143, Hh143, G143⟩ := id V1
          obtain ⟨T144, h144, X144, e144, W144, st144⟩ := stC X1 hx hZ e1 Ar143 (j := (0 : Int32)) (inb_of S143 ⟨(by decide : ¬ ((0 : Int32) < (0 : Int32))), (by decide : (0 : Int32) < (7 : Int32))⟩) (g := (mkF m 103 #[sI p1, sI p2, sI p3, sI p4, sI p5, sI (p1 &&& (3 : Int32)), sR ob1, .unset, sI (0 : Int32), .unset, .unset] [(Value.int (103 : Int32)), (Value.int (0 : Int32)), (Value.ref ob1)])) rfl rfl (hb hby at_103)
          refine own_Go.by st144 ?_
          have N144 := Fr.snoc X144 N0 g3
          have O145 := O2.wr W144 g3
          have K145 := K2.wr W144 (Or.inr z3)
          rw [show nar .char (103 : Int32) = (103 : Int32) from rfl] at W144
          have V144 : Arv Z h144 ob1 k1 .char (7 : Int32) [(Value.int (103 : Int32)), (Value.int (0 : Int32)), (Value.int (0 : Int32)), (Value.int (0 : Int32)), (Value.int (0 : Int32)), (Value.int (0 : Int32)), (Value.int (0 : Int32))] (Value.int (0 : Int32)) := Arv.set Ar143 q143 S143 M143 Hh143 G143 (own_fitC (rfl)) W144 0 rfl (Nat.le_of_ble_eq_true rfl)
          refine own_Go.by (fun tq kq => XS.aload X144.here hx rfl (hb hby at_104) rfl rfl kq) ?_
          refine own_Go.by (fun tq kq => XS.iconst X144.here hx rfl (hb hby at_106) kq) ?_
          refine own_Go.by (fun tq kq => XS.bipush X144.here hx rfl (hb hby at_107) kq) ?_
          show own_Go _ _ _ _ (T144.setTop (mkF m 109 #[sI p1, sI p2, sI p3, sI p4, sI p5, sI (p1 &&& (3 : Int32)), sR ob1, .unset, sI (0 : Int32), .unset, .unset] [(Value.int (101 : Int32)), (Value.int (1 : Int32)), (Value.ref ob1)]))
          obtain ⟨cl146, Ar146, q146, S146, M146, Hh146, G146⟩ := id V144
          obtain ⟨T147, h147, X147, e147, W147, st147⟩ := stC X144 hx hZ e144 Ar146 (j := (1 : Int32)) (inb_of S146 ⟨(by decide : ¬ ((1 : Int32) < (0 : Int32))), (by decide : (1 : Int32) < (7 : Int32))⟩) (g := (mkF m 109 #[sI p1, sI p2, sI p3, sI p4, sI p5, sI (p1 &&& (3 : Int32)), sR ob1, .unset, sI (0 : Int32), .unset, .unset] [(Value.int (101 : Int32)), (Value.int (1 : Int32)), (Value.ref ob1)])) rfl rfl (hb hby at_109)
          refine own_Go.by st147 ?_
          have N147 := Fr.snoc X147 N144 g3
          have O148 := O145.wr W147 g3
          have K148 := K145.wr W147 (Or.inr z3)
          rw [show nar .char (101 : Int32) = (101 : Int32) from rfl] at W147
          have V147 : Arv Z h147 ob1 k1 .char (7 : Int32) [(Value.int (103 : Int32)), (Value.int (101 : Int32)), (Value.int (0 : Int32)), (Value.int (0 : Int32)), (Value.int (0 : Int32)), (Value.int (0 : Int32)), (Value.int (0 : Int32))] (Value.int (0 : Int32)) := Arv.set Ar146 q146 S146 M146 Hh146 G146 (own_fitC (rfl)) W147 1 rfl (Nat.le_of_ble_eq_true rfl)
          refine own_Go.by (fun tq kq => XS.aload X147.here hx rfl (hb hby at_110) rfl rfl kq) ?_
          refine own_Go.by (fun tq kq => XS.iconst X147.here hx rfl (hb hby at_112) kq) ?_
          refine own_Go.by (fun tq kq => XS.bipush X147.here hx rfl (hb hby at_113) kq) ?_
          show own_Go _ _ _ _ (T147.setTop (mkF m 115 #[sI p1, sI p2, sI p3, sI p4, sI p5, sI (p1 &&& (3 : Int32)), sR ob1, .unset, sI (0 : Int32), .unset, .unset] [(Value.int (116 : Int32)), (Value.int (2 : Int32)), (Value.ref ob1)]))
          obtain ⟨cl149, Ar149, q149, S149, M149, Hh149, G149⟩ := id V147
          obtain ⟨T150, h150, X150, e150, W150, st150⟩ := stC X147 hx hZ e147 Ar149 (j := (2 : Int32)) (inb_of S149 ⟨(by decide : ¬ ((2 : Int32) < (0 : Int32))), (by decide : (2 : Int32) < (7 : Int32))⟩) (g := (mkF m 115 #[sI p1, sI p2, sI p3, sI p4, sI p5, sI (p1 &&& (3 : Int32)), sR ob1, .unset, sI (0 : Int32), .unset, .unset] [(Value.int (116 : Int32)), (Value.int (2 : Int32)), (Value.ref ob1)])) rfl rfl (hb hby at_115)
          refine own_Go.by st150 ?_
          have N150 := Fr.snoc X150 N147 g3
          have O151 := O148.wr W150 g3
          have K151 := K148.wr W150 (Or.inr z3)
          rw [show nar .char (116 : Int32) = (116 : Int32) from rfl] at W150
          have V150 : Arv Z h150 ob1 k1 .char (7 : Int32) [(Value.int (103 : Int32)), (Value.int (101 : Int32)), (Value.int (116 : Int32)), (Value.int (0 : Int32)), (Value.int (0 : Int32)), (Value.int (0 : Int32)), (Value.int (0 : Int32))] (Value.int (0 : Int32)) := Arv.set Ar149 q149 S149 M149 Hh149 G149 (own_fitC (rfl)) W150 2 rfl (Nat.le_of_ble_eq_true rfl)
          refine own_Go.by (fun tq kq => XS.iconst X150.here hx rfl (hb hby at_116) kq) ?_
          refine own_Go.by (fun tq kq => XS.istore X150.here hx rfl (hb hby at_117) rfl (l' := #[sI p1, sI p2, sI p3, sI p4, sI p5, sI (p1 &&& (3 : Int32)), sR ob1, sI (3 : Int32), sI (0 : Int32), .unset, .unset]) rfl kq) ?_
          refine own_Go.by (fun tq kq => XS.goto X150.here hx rfl (pc0 := 119) (pc' := 234) rfl (hb hby at_119) (by decide) (by decide) kq) ?_
          show own_Go _ _ _ _ (T150.setTop (mkF m 234 #[sI p1, sI p2, sI p3, sI p4, sI p5, sI (p1 &&& (3 : Int32)), sR ob1, sI (3 : Int32), sI (0 : Int32), .unset, .unset] []))
          refine own_Go.by (fun tq kq => XS.iload X150.here hx rfl (hb hby at_234) rfl kq) ?_
          refine own_Go.by (fun tq kq => XS.iconst X150.here hx rfl (hb hby at_236) kq) ?_
          show own_Go _ _ _ _ (T150.setTop (mkF m 237 #[sI p1, sI p2, sI p3, sI p4, sI p5, sI (p1 &&& (3 : Int32)), sR ob1, sI (3 : Int32), sI (0 : Int32), .unset, .unset] [(Value.int (3 : Int32)), (Value.int (p1 &&& (3 : Int32)))]))
          refine own_Go.by (fun tq kq => XS.icmpNo X150.here hx rfl (hb hby at_237) rfl (tlt (by rw [hc95_142]; decide : (p1 &&& (3 : Int32)) < (3 : Int32))).2.1 kq) ?_
          refine own_Go.by (fun tq kq => XS.iloadN X150.here hx rfl (hb hby at_240) rfl kq) ?_
          refine own_Go.by (fun tq kq => XS.iconst X150.here hx rfl (hb hby at_241) kq) ?_
          refine own_Go.by (fun tq kq => XS.iand X150.here hx rfl (hb hby at_242) rfl kq) ?_
          show own_Go _ _ _ _ (T150.setTop (mkF m 243 #[sI p1, sI p2, sI p3, sI p4, sI p5, sI (p1 &&& (3 : Int32)), sR ob1, sI (3 : Int32), sI (0 : Int32), .unset, .unset] [(Value.int (p1 &&& (4 : Int32)))]))
          by_cases hc243_152 : (p1 &&& (4 : Int32)) = (0 : Int32)
          ·
            refine own_Go.by (fun tq kq => XS.ifYes X150.here hx rfl (pc0 := 243) (pc' := 262) rfl (hb hby at_243) rfl ((if0 _ _).trans (teq hc243_152).1) (by decide) (by decide) kq) ?_
            refine own_Go.by (fun tq kq => XS.iloadN X150.here hx rfl (hb hby at_262) rfl kq) ?_
            refine own_Go.by (fun tq kq => XS.bipush X150.here hx rfl (hb hby at_263) kq) ?_
            refine own_Go.by (fun tq kq => XS.iand X150.here hx rfl (hb hby at_265) rfl kq) ?_
            show own_Go _ _ _ _ (T150.setTop (mkF m 266 #[sI p1, sI p2, sI p3, sI p4, sI p5, sI (p1 &&& (3 : Int32)), sR ob1, sI (3 : Int32), sI (0 : Int32), .unset, .unset] [(Value.int (p1 &&& (8 : Int32)))]))
            by_cases hc266_153 : (p1 &&& (8 : Int32)) = (0 : Int32)
            ·
              refine own_Go.by (fun tq kq => XS.ifYes X150.here hx rfl (pc0 := 266) (pc' := 275) rfl (hb hby at_266) rfl ((if0 _ _).trans (teq hc266_153).1) (by decide) (by decide) kq) ?_
              refine own_Go.by (fun tq kq => XS.iloadN X150.here hx rfl (hb hby at_275) rfl kq) ?_
              refine own_Go.by (fun tq kq => XS.bipush X150.here hx rfl (hb hby at_276) kq) ?_
              refine own_Go.by (fun tq kq => XS.iand X150.here hx rfl (hb hby at_278) rfl kq) ?_
              show own_Go _ _ _ _ (T150.setTop (mkF m 279 #[sI p1, sI p2, sI p3, sI p4, sI p5, sI (p1 &&& (3 : Int32)), sR ob1, sI (3 : Int32), sI (0 : Int32), .unset, .unset] [(Value.int (p1 &&& (16 : Int32)))]))
              by_cases hc279_154 : (p1 &&& (16 : Int32)) = (0 : Int32)
              ·
                refine own_Go.by (fun tq kq => XS.ifYes X150.here hx rfl (pc0 := 279) (pc' := 299) rfl (hb hby at_279) rfl ((if0 _ _).trans (teq hc279_154).1) (by decide) (by decide) kq) ?_
                have hok155 : own_ok [(Value.int (103 : Int32)), (Value.int (101 : Int32)), (Value.int (116 : Int32)), (Value.int (0 : Int32)), (Value.int (0 : Int32)), (Value.int (0 : Int32)), (Value.int (0 : Int32))] := own_okL [(103 : Int32), (101 : Int32), (116 : Int32), (0 : Int32), (0 : Int32), (0 : Int32), (0 : Int32)] rfl (by
                    intro c hc
                    simp only [List.mem_cons, List.not_mem_nil, or_false] at hc
                    rcases hc with rfl | rfl | rfl | rfl | rfl | rfl | rfl
                    · exact by decide
                    · exact by decide
                    · exact by decide
                    · exact by decide
                    · exact by decide
                    · exact by decide
                    · exact by decide)
                exact g_4 (T150, h150, _, [(Value.int (103 : Int32)), (Value.int (101 : Int32)), (Value.int (116 : Int32)), (Value.int (0 : Int32)), (Value.int (0 : Int32)), (Value.int (0 : Int32)), (Value.int (0 : Int32))], (3 : Int32), (0 : Int32)) ⟨X150, e150, O151, K151, N150, V150, hok155⟩
              ·
                refine own_Go.by (fun tq kq => XS.ifNo X150.here hx rfl (hb hby at_279) rfl ((if0 _ _).trans (feq hc279_154).1) kq) ?_
                refine own_Go.by (fun tq kq => XS.aload X150.here hx rfl (hb hby at_282) rfl rfl kq) ?_
                refine own_Go.by (fun tq kq => XS.iload X150.here hx rfl (hb hby at_284) rfl kq) ?_
                refine own_Go.by (fun tq kq => XS.iloadN X150.here hx rfl (hb hby at_286) rfl kq) ?_
                show own_Go _ _ _ _ (T150.setTop (mkF m 287 #[sI p1, sI p2, sI p3, sI p4, sI p5, sI (p1 &&& (3 : Int32)), sR ob1, sI (3 : Int32), sI (0 : Int32), .unset, .unset] [(Value.int p4), (Value.int (3 : Int32)), (Value.ref ob1)]))
                refine own_Go.by (fun tq kq => XS.sipush X150.here hx rfl (hb hby at_287) kq) ?_
                refine own_Go.by (fun tq kq => XS.iand X150.here hx rfl (hb hby at_290) rfl kq) ?_
                refine own_Go.by (fun tq kq => XS.i2c X150.here hx rfl (hb hby at_291) rfl kq) ?_
                show own_Go _ _ _ _ (T150.setTop (mkF m 292 #[sI p1, sI p2, sI p3, sI p4, sI p5, sI (p1 &&& (3 : Int32)), sR ob1, sI (3 : Int32), sI (0 : Int32), .unset, .unset] [(Value.int ((p4 &&& (255 : Int32)).toUInt32.toUInt16.toUInt32.toInt32)), (Value.int (3 : Int32)), (Value.ref ob1)]))
                obtain ⟨cl156, Ar156, q156, S156, M156, Hh156, G156⟩ := id V150
                obtain ⟨T157, h157, X157, e157, W157, st157⟩ := stC X150 hx hZ e150 Ar156 (j := (3 : Int32)) (inb_of S156 ⟨(by decide : ¬ ((3 : Int32) < (0 : Int32))), (by decide : (3 : Int32) < (7 : Int32))⟩) (g := (mkF m 292 #[sI p1, sI p2, sI p3, sI p4, sI p5, sI (p1 &&& (3 : Int32)), sR ob1, sI (3 : Int32), sI (0 : Int32), .unset, .unset] [(Value.int ((p4 &&& (255 : Int32)).toUInt32.toUInt16.toUInt32.toInt32)), (Value.int (3 : Int32)), (Value.ref ob1)])) rfl rfl (hb hby at_292)
                refine own_Go.by st157 ?_
                have N157 := Fr.snoc X157 N150 g3
                have O158 := O151.wr W157 g3
                have K158 := K151.wr W157 (Or.inr z3)
                rw [show nar .char ((p4 &&& (255 : Int32)).toUInt32.toUInt16.toUInt32.toInt32) = ((p4 &&& (255 : Int32)).toUInt32.toUInt16.toUInt32.toInt32) from (own_b255 rfl).2] at W157
                have V157 : Arv Z h157 ob1 k1 .char (7 : Int32) [(Value.int (103 : Int32)), (Value.int (101 : Int32)), (Value.int (116 : Int32)), (Value.int ((p4 &&& (255 : Int32)).toUInt32.toUInt16.toUInt32.toInt32)), (Value.int (0 : Int32)), (Value.int (0 : Int32)), (Value.int (0 : Int32))] (Value.int (0 : Int32)) := Arv.set Ar156 q156 S156 M156 Hh156 G156 (own_fitC ((own_b255 rfl).2)) W157 3 rfl (Nat.le_of_ble_eq_true rfl)
                refine own_Go.by (fun tq kq => XS.iload X157.here hx rfl (hb hby at_293) rfl kq) ?_
                refine own_Go.by (fun tq kq => XS.iconst X157.here hx rfl (hb hby at_295) kq) ?_
                refine own_Go.by (fun tq kq => XS.iadd X157.here hx rfl (hb hby at_296) rfl kq) ?_
                show own_Go _ _ _ _ (T157.setTop (mkF m 297 #[sI p1, sI p2, sI p3, sI p4, sI p5, sI (p1 &&& (3 : Int32)), sR ob1, sI (3 : Int32), sI (0 : Int32), .unset, .unset] [(Value.int (4 : Int32))]))
                refine own_Go.by (fun tq kq => XS.istore X157.here hx rfl (hb hby at_297) rfl (l' := #[sI p1, sI p2, sI p3, sI p4, sI p5, sI (p1 &&& (3 : Int32)), sR ob1, sI (4 : Int32), sI (0 : Int32), .unset, .unset]) rfl kq) ?_
                have hok159 : own_ok [(Value.int (103 : Int32)), (Value.int (101 : Int32)), (Value.int (116 : Int32)), (Value.int ((p4 &&& (255 : Int32)).toUInt32.toUInt16.toUInt32.toInt32)), (Value.int (0 : Int32)), (Value.int (0 : Int32)), (Value.int (0 : Int32))] := own_okL [(103 : Int32), (101 : Int32), (116 : Int32), ((p4 &&& (255 : Int32)).toUInt32.toUInt16.toUInt32.toInt32), (0 : Int32), (0 : Int32), (0 : Int32)] rfl (by
                    intro c hc
                    simp only [List.mem_cons, List.not_mem_nil, or_false] at hc
                    rcases hc with rfl | rfl | rfl | rfl | rfl | rfl | rfl
                    · exact by decide
                    · exact by decide
                    · exact by decide
                    · exact (own_b255 rfl).1
                    · exact by decide
                    · exact by decide
                    · exact by decide)
                exact g_4 (T157, h157, _, [(Value.int (103 : Int32)), (Value.int (101 : Int32)), (Value.int (116 : Int32)), (Value.int ((p4 &&& (255 : Int32)).toUInt32.toUInt16.toUInt32.toInt32)), (Value.int (0 : Int32)), (Value.int (0 : Int32)), (Value.int (0 : Int32))], (4 : Int32), (0 : Int32)) ⟨X157, e157, O158, K158, N157, V157, hok159⟩
            ·
              refine own_Go.by (fun tq kq => XS.ifNo X150.here hx rfl (hb hby at_266) rfl ((if0 _ _).trans (feq hc266_153).1) kq) ?_
              refine own_Go.by (fun tq kq => XS.iload X150.here hx rfl (hb hby at_269) rfl kq) ?_
              refine own_Go.by (fun tq kq => XS.iconst X150.here hx rfl (hb hby at_271) kq) ?_
              refine own_Go.by (fun tq kq => XS.isub X150.here hx rfl (hb hby at_272) rfl kq) ?_
              show own_Go _ _ _ _ (T150.setTop (mkF m 273 #[sI p1, sI p2, sI p3, sI p4, sI p5, sI (p1 &&& (3 : Int32)), sR ob1, sI (3 : Int32), sI (0 : Int32), .unset, .unset] [(Value.int (2 : Int32))]))
              refine own_Go.by (fun tq kq => XS.istore X150.here hx rfl (hb hby at_273) rfl (l' := #[sI p1, sI p2, sI p3, sI p4, sI p5, sI (p1 &&& (3 : Int32)), sR ob1, sI (2 : Int32), sI (0 : Int32), .unset, .unset]) rfl kq) ?_
              refine own_Go.by (fun tq kq => XS.iloadN X150.here hx rfl (hb hby at_275) rfl kq) ?_
              refine own_Go.by (fun tq kq => XS.bipush X150.here hx rfl (hb hby at_276) kq) ?_
              refine own_Go.by (fun tq kq => XS.iand X150.here hx rfl (hb hby at_278) rfl kq) ?_
              show own_Go _ _ _ _ (T150.setTop (mkF m 279 #[sI p1, sI p2, sI p3, sI p4, sI p5, sI (p1 &&& (3 : Int32)), sR ob1, sI (2 : Int32), sI (0 : Int32), .unset, .unset] [(Value.int (p1 &&& (16 : Int32)))]))
              by_cases hc279_160 : (p1 &&& (16 : Int32)) = (0 : Int32)
              ·
                refine own_Go.by (fun tq kq => XS.ifYes X150.here hx rfl (pc0 := 279) (pc' := 299) rfl (hb hby at_279) rfl ((if0 _ _).trans (teq hc279_160).1) (by decide) (by decide) kq) ?_
                have hok161 : own_ok [(Value.int (103 : Int32)), (Value.int (101 : Int32)), (Value.int (116 : Int32)), (Value.int (0 : Int32)), (Value.int (0 : Int32)), (Value.int (0 : Int32)), (Value.int (0 : Int32))] := own_okL [(103 : Int32), (101 : Int32), (116 : Int32), (0 : Int32), (0 : Int32), (0 : Int32), (0 : Int32)] rfl (by
                    intro c hc
                    simp only [List.mem_cons, List.not_mem_nil, or_false] at hc
                    rcases hc with rfl | rfl | rfl | rfl | rfl | rfl | rfl
                    · exact by decide
                    · exact by decide
                    · exact by decide
                    · exact by decide
                    · exact by decide
                    · exact by decide
                    · exact by decide)
                exact g_4 (T150, h150, _, [(Value.int (103 : Int32)), (Value.int (101 : Int32)), (Value.int (116 : Int32)), (Value.int (0 : Int32)), (Value.int (0 : Int32)), (Value.int (0 : Int32)), (Value.int (0 : Int32))], (2 : Int32), (0 : Int32)) ⟨X150, e150, O151, K151, N150, V150, hok161⟩
              ·
                refine own_Go.by (fun tq kq => XS.ifNo X150.here hx rfl (hb hby at_279) rfl ((if0 _ _).trans (feq hc279_160).1) kq) ?_
                refine own_Go.by (fun tq kq => XS.aload X150.here hx rfl (hb hby at_282) rfl rfl kq) ?_
                refine own_Go.by (fun tq kq => XS.iload X150.here hx rfl (hb hby at_284) rfl kq) ?_
                refine own_Go.by (fun tq kq => XS.iloadN X150.here hx rfl (hb hby at_286) rfl kq) ?_
                show own_Go _ _ _ _ (T150.setTop (mkF m 287 #[sI p1, sI p2, sI p3, sI p4, sI p5, sI (p1 &&& (3 : Int32)), sR ob1, sI (2 : Int32), sI (0 : Int32), .unset, .unset] [(Value.int p4), (Value.int (2 : Int32)), (Value.ref ob1)]))
                refine own_Go.by (fun tq kq => XS.sipush X150.here hx rfl (hb hby at_287) kq) ?_
                refine own_Go.by (fun tq kq => XS.iand X150.here hx rfl (hb hby at_290) rfl kq) ?_
                refine own_Go.by (fun tq kq => XS.i2c X150.here hx rfl (hb hby at_291) rfl kq) ?_
                show own_Go _ _ _ _ (T150.setTop (mkF m 292 #[sI p1, sI p2, sI p3, sI p4, sI p5, sI (p1 &&& (3 : Int32)), sR ob1, sI (2 : Int32), sI (0 : Int32), .unset, .unset] [(Value.int ((p4 &&& (255 : Int32)).toUInt32.toUInt16.toUInt32.toInt32)), (Value.int (2 : Int32)), (Value.ref ob1)]))
                obtain ⟨cl162, Ar162, q162, S162, M162, Hh162, G162⟩ := id V150
                obtain ⟨T163, h163, X163, e163, W163, st163⟩ := stC X150 hx hZ e150 Ar162 (j := (2 : Int32)) (inb_of S162 ⟨(by decide : ¬ ((2 : Int32) < (0 : Int32))), (by decide : (2 : Int32) < (7 : Int32))⟩) (g := (mkF m 292 #[sI p1, sI p2, sI p3, sI p4, sI p5, sI (p1 &&& (3 : Int32)), sR ob1, sI (2 : Int32), sI (0 : Int32), .unset, .unset] [(Value.int ((p4 &&& (255 : Int32)).toUInt32.toUInt16.toUInt32.toInt32)), (Value.int (2 : Int32)), (Value.ref ob1)])) rfl rfl (hb hby at_292)
                refine own_Go.by st163 ?_
                have N163 := Fr.snoc X163 N150 g3
                have O164 := O151.wr W163 g3
                have K164 := K151.wr W163 (Or.inr z3)
                rw [show nar .char ((p4 &&& (255 : Int32)).toUInt32.toUInt16.toUInt32.toInt32) = ((p4 &&& (255 : Int32)).toUInt32.toUInt16.toUInt32.toInt32) from (own_b255 rfl).2] at W163
                have V163 : Arv Z h163 ob1 k1 .char (7 : Int32) [(Value.int (103 : Int32)), (Value.int (101 : Int32)), (Value.int ((p4 &&& (255 : Int32)).toUInt32.toUInt16.toUInt32.toInt32)), (Value.int (0 : Int32)), (Value.int (0 : Int32)), (Value.int (0 : Int32)), (Value.int (0 : Int32))] (Value.int (0 : Int32)) := Arv.set Ar162 q162 S162 M162 Hh162 G162 (own_fitC ((own_b255 rfl).2)) W163 2 rfl (Nat.le_of_ble_eq_true rfl)
                refine own_Go.by (fun tq kq => XS.iload X163.here hx rfl (hb hby at_293) rfl kq) ?_
                refine own_Go.by (fun tq kq => XS.iconst X163.here hx rfl (hb hby at_295) kq) ?_
                refine own_Go.by (fun tq kq => XS.iadd X163.here hx rfl (hb hby at_296) rfl kq) ?_
                show own_Go _ _ _ _ (T163.setTop (mkF m 297 #[sI p1, sI p2, sI p3, sI p4, sI p5, sI (p1 &&& (3 : Int32)), sR ob1, sI (2 : Int32), sI (0 : Int32), .unset, .unset] [(Value.int (3 : Int32))]))
                refine own_Go.by (fun tq kq => XS.istore X163.here hx rfl (hb hby at_297) rfl (l' := #[sI p1, sI p2, sI p3, sI p4, sI p5, sI (p1 &&& (3 : Int32)), sR ob1, sI (3 : Int32), sI (0 : Int32), .unset, .unset]) rfl kq) ?_
                have hok165 : own_ok [(Value.int (103 : Int32)), (Value.int (101 : Int32)), (Value.int ((p4 &&& (255 : Int32)).toUInt32.toUInt16.toUInt32.toInt32)), (Value.int (0 : Int32)), (Value.int (0 : Int32)), (Value.int (0 : Int32)), (Value.int (0 : Int32))] := own_okL [(103 : Int32), (101 : Int32), ((p4 &&& (255 : Int32)).toUInt32.toUInt16.toUInt32.toInt32), (0 : Int32), (0 : Int32), (0 : Int32), (0 : Int32)] rfl (by
                    intro c hc
                    simp only [List.mem_cons, List.not_mem_nil, or_false] at hc
                    rcases hc with rfl | rfl | rfl | rfl | rfl | rfl | rfl
                    · exact by decide
                    · exact by decide
                    · exact (own_b255 rfl).1
                    · exact by decide
                    · exact by decide
                    · exact by decide
                    · exact by decide)
                exact g_4 (T163, h163, _, [(Value.int (103 : Int32)), (Value.int (101 : Int32)), (Value.int ((p4 &&& (255 : Int32)).toUInt32.toUInt16.toUInt32.toInt32)), (Value.int (0 : Int32)), (Value.int (0 : Int32)), (Value.int (0 : Int32)), (Value.int (0 : Int32))], (3 : Int32), (0 : Int32)) ⟨X163, e163, O164, K164, N163, V163, hok165⟩
          ·
            refine own_Go.by (fun tq kq => XS.ifNo X150.here hx rfl (hb hby at_243) rfl ((if0 _ _).trans (feq hc243_152).1) kq) ?_
            refine own_Go.by (fun tq kq => XS.aload X150.here hx rfl (hb hby at_246) rfl rfl kq) ?_
            refine own_Go.by (fun tq kq => XS.iloadN X150.here hx rfl (hb hby at_248) rfl kq) ?_
            show own_Go _ _ _ _ (T150.setTop (mkF m 249 #[sI p1, sI p2, sI p3, sI p4, sI p5, sI (p1 &&& (3 : Int32)), sR ob1, sI (3 : Int32), sI (0 : Int32), .unset, .unset] [(Value.int p2), (Value.ref ob1)]))
            refine own_Go.by (fun tq kq => X150.ldcInt hx hown (mvT hZ (hw _ (List.mem_of_getElem? (i := 73) rfl))) (g := (mkF m 249 #[sI p1, sI p2, sI p3, sI p4, sI p5, sI (p1 &&& (3 : Int32)), sR ob1, sI (3 : Int32), sI (0 : Int32), .unset, .unset] [(Value.int p2), (Value.ref ob1)])) rfl (hb hby at_249) _ kq) ?_
            refine own_Go.by (fun tq kq => XS.iand X150.here hx rfl (hb hby at_251) rfl kq) ?_
            refine own_Go.by (fun tq kq => XS.iload X150.here hx rfl (hb hby at_252) rfl kq) ?_
            show own_Go _ _ _ _ (T150.setTop (mkF m 254 #[sI p1, sI p2, sI p3, sI p4, sI p5, sI (p1 &&& (3 : Int32)), sR ob1, sI (3 : Int32), sI (0 : Int32), .unset, .unset] [(Value.int (3 : Int32)), (Value.int (p2 &&& (2147483647 : Int32))), (Value.ref ob1)]))
            refine own_Go.by (fun tq kq => iremM (g := (mkF m 254 #[sI p1, sI p2, sI p3, sI p4, sI p5, sI (p1 &&& (3 : Int32)), sR ob1, sI (3 : Int32), sI (0 : Int32), .unset, .unset] [(Value.int (3 : Int32)), (Value.int (p2 &&& (2147483647 : Int32))), (Value.ref ob1)])) X150 hx rfl (hb hby at_254) rfl (by decide) kq) ?_
            refine own_Go.by (fun tq kq => XS.iloadN X150.here hx rfl (hb hby at_255) rfl kq) ?_
            refine own_Go.by (fun tq kq => XS.sipush X150.here hx rfl (hb hby at_256) kq) ?_
            refine own_Go.by (fun tq kq => XS.iand X150.here hx rfl (hb hby at_259) rfl kq) ?_
            show own_Go _ _ _ _ (T150.setTop (mkF m 260 #[sI p1, sI p2, sI p3, sI p4, sI p5, sI (p1 &&& (3 : Int32)), sR ob1, sI (3 : Int32), sI (0 : Int32), .unset, .unset] [(Value.int (p3 &&& (255 : Int32))), (Value.int ((p2 &&& (2147483647 : Int32)) % (3 : Int32))), (Value.ref ob1)]))
            refine own_Go.by (fun tq kq => XS.i2c X150.here hx rfl (hb hby at_260) rfl kq) ?_
            have hok166 : own_ok [(Value.int (103 : Int32)), (Value.int (101 : Int32)), (Value.int (116 : Int32)), (Value.int (0 : Int32)), (Value.int (0 : Int32)), (Value.int (0 : Int32)), (Value.int (0 : Int32))] := own_okL [(103 : Int32), (101 : Int32), (116 : Int32), (0 : Int32), (0 : Int32), (0 : Int32), (0 : Int32)] rfl (by
                intro c hc
                simp only [List.mem_cons, List.not_mem_nil, or_false] at hc
                rcases hc with rfl | rfl | rfl | rfl | rfl | rfl | rfl
                · exact by decide
                · exact by decide
                · exact by decide
                · exact by decide
                · exact by decide
                · exact by decide
                · exact by decide)
            show own_Go _ _ _ _ (T150.setTop (mkF m 261 #[sI p1, sI p2, sI p3, sI p4, sI p5, sI (p1 &&& (3 : Int32)), sR ob1, sI (3 : Int32), sI (0 : Int32), .unset, .unset] [(Value.int ((p3 &&& (255 : Int32)).toUInt32.toUInt16.toUInt32.toInt32)), (Value.int ((p2 &&& (2147483647 : Int32)) % (3 : Int32))), (Value.ref ob1)]))
            obtain ⟨cl167, Ar167, q167, S167, M167, Hh167, G167⟩ := id V150
            obtain ⟨T168, h168, X168, e168, W168, st168⟩ := stC X150 hx hZ e150 Ar167 (j := ((p2 &&& (2147483647 : Int32)) % (3 : Int32))) (inb_of S167 (own_ix 3 rfl (by decide) (by decide) rfl).1) (g := (mkF m 261 #[sI p1, sI p2, sI p3, sI p4, sI p5, sI (p1 &&& (3 : Int32)), sR ob1, sI (3 : Int32), sI (0 : Int32), .unset, .unset] [(Value.int ((p3 &&& (255 : Int32)).toUInt32.toUInt16.toUInt32.toInt32)), (Value.int ((p2 &&& (2147483647 : Int32)) % (3 : Int32))), (Value.ref ob1)])) rfl rfl (hb hby at_261)
            refine own_Go.by st168 ?_
            have N168 := Fr.snoc X168 N150 g3
            have O169 := O151.wr W168 g3
            have K169 := K151.wr W168 (Or.inr z3)
            rw [show nar .char ((p3 &&& (255 : Int32)).toUInt32.toUInt16.toUInt32.toInt32) = ((p3 &&& (255 : Int32)).toUInt32.toUInt16.toUInt32.toInt32) from (own_b255 rfl).2] at W168
            have V168 : Arv Z h168 ob1 k1 .char (7 : Int32) ([(Value.int (103 : Int32)), (Value.int (101 : Int32)), (Value.int (116 : Int32)), (Value.int (0 : Int32)), (Value.int (0 : Int32)), (Value.int (0 : Int32)), (Value.int (0 : Int32))].set (((p2 &&& (2147483647 : Int32)) % (3 : Int32))).toNatClampNeg (Value.int ((p3 &&& (255 : Int32)).toUInt32.toUInt16.toUInt32.toInt32))) (Value.int (0 : Int32)) := Arv.set Ar167 q167 S167 M167 Hh167 G167 (own_fitC ((own_b255 rfl).2)) W168 (((p2 &&& (2147483647 : Int32)) % (3 : Int32))).toNatClampNeg (rfl) ((own_ix 3 rfl (by decide) (by decide) rfl).2)
            have hok170 : own_ok ([(Value.int (103 : Int32)), (Value.int (101 : Int32)), (Value.int (116 : Int32)), (Value.int (0 : Int32)), (Value.int (0 : Int32)), (Value.int (0 : Int32)), (Value.int (0 : Int32))].set (((p2 &&& (2147483647 : Int32)) % (3 : Int32))).toNatClampNeg (Value.int ((p3 &&& (255 : Int32)).toUInt32.toUInt16.toUInt32.toInt32))) := own_ok_set hok166 _ (own_b255 rfl).1
            refine own_Go.by (fun tq kq => XS.iloadN X168.here hx rfl (hb hby at_262) rfl kq) ?_
            refine own_Go.by (fun tq kq => XS.bipush X168.here hx rfl (hb hby at_263) kq) ?_
            refine own_Go.by (fun tq kq => XS.iand X168.here hx rfl (hb hby at_265) rfl kq) ?_
            show own_Go _ _ _ _ (T168.setTop (mkF m 266 #[sI p1, sI p2, sI p3, sI p4, sI p5, sI (p1 &&& (3 : Int32)), sR ob1, sI (3 : Int32), sI (0 : Int32), .unset, .unset] [(Value.int (p1 &&& (8 : Int32)))]))
            by_cases hc266_171 : (p1 &&& (8 : Int32)) = (0 : Int32)
            ·
              refine own_Go.by (fun tq kq => XS.ifYes X168.here hx rfl (pc0 := 266) (pc' := 275) rfl (hb hby at_266) rfl ((if0 _ _).trans (teq hc266_171).1) (by decide) (by decide) kq) ?_
              refine own_Go.by (fun tq kq => XS.iloadN X168.here hx rfl (hb hby at_275) rfl kq) ?_
              refine own_Go.by (fun tq kq => XS.bipush X168.here hx rfl (hb hby at_276) kq) ?_
              refine own_Go.by (fun tq kq => XS.iand X168.here hx rfl (hb hby at_278) rfl kq) ?_
              show own_Go _ _ _ _ (T168.setTop (mkF m 279 #[sI p1, sI p2, sI p3, sI p4, sI p5, sI (p1 &&& (3 : Int32)), sR ob1, sI (3 : Int32), sI (0 : Int32), .unset, .unset] [(Value.int (p1 &&& (16 : Int32)))]))
              by_cases hc279_172 : (p1 &&& (16 : Int32)) = (0 : Int32)
              ·
                refine own_Go.by (fun tq kq => XS.ifYes X168.here hx rfl (pc0 := 279) (pc' := 299) rfl (hb hby at_279) rfl ((if0 _ _).trans (teq hc279_172).1) (by decide) (by decide) kq) ?_
                exact g_4 (T168, h168, _, ([(Value.int (103 : Int32)), (Value.int (101 : Int32)), (Value.int (116 : Int32)), (Value.int (0 : Int32)), (Value.int (0 : Int32)), (Value.int (0 : Int32)), (Value.int (0 : Int32))].set (((p2 &&& (2147483647 : Int32)) % (3 : Int32))).toNatClampNeg (Value.int ((p3 &&& (255 : Int32)).toUInt32.toUInt16.toUInt32.toInt32))), (3 : Int32), (0 : Int32)) ⟨X168, e168, O169, K169, N168, V168, hok170⟩
              ·
                refine own_Go.by (fun tq kq => XS.ifNo X168.here hx rfl (hb hby at_279) rfl ((if0 _ _).trans (feq hc279_172).1) kq) ?_
                refine own_Go.by (fun tq kq => XS.aload X168.here hx rfl (hb hby at_282) rfl rfl kq) ?_
                refine own_Go.by (fun tq kq => XS.iload X168.here hx rfl (hb hby at_284) rfl kq) ?_
                refine own_Go.by (fun tq kq => XS.iloadN X168.here hx rfl (hb hby at_286) rfl kq) ?_
                show own_Go _ _ _ _ (T168.setTop (mkF m 287 #[sI p1, sI p2, sI p3, sI p4, sI p5, sI (p1 &&& (3 : Int32)), sR ob1, sI (3 : Int32), sI (0 : Int32), .unset, .unset] [(Value.int p4), (Value.int (3 : Int32)), (Value.ref ob1)]))
                refine own_Go.by (fun tq kq => XS.sipush X168.here hx rfl (hb hby at_287) kq) ?_
                refine own_Go.by (fun tq kq => XS.iand X168.here hx rfl (hb hby at_290) rfl kq) ?_
                refine own_Go.by (fun tq kq => XS.i2c X168.here hx rfl (hb hby at_291) rfl kq) ?_
                show own_Go _ _ _ _ (T168.setTop (mkF m 292 #[sI p1, sI p2, sI p3, sI p4, sI p5, sI (p1 &&& (3 : Int32)), sR ob1, sI (3 : Int32), sI (0 : Int32), .unset, .unset] [(Value.int ((p4 &&& (255 : Int32)).toUInt32.toUInt16.toUInt32.toInt32)), (Value.int (3 : Int32)), (Value.ref ob1)]))
                obtain ⟨cl173, Ar173, q173, S173, M173, Hh173, G173⟩ := id V168
                obtain ⟨T174, h174, X174, e174, W174, st174⟩ := stC X168 hx hZ e168 Ar173 (j := (3 : Int32)) (inb_of S173 ⟨(by decide : ¬ ((3 : Int32) < (0 : Int32))), (by decide : (3 : Int32) < (7 : Int32))⟩) (g := (mkF m 292 #[sI p1, sI p2, sI p3, sI p4, sI p5, sI (p1 &&& (3 : Int32)), sR ob1, sI (3 : Int32), sI (0 : Int32), .unset, .unset] [(Value.int ((p4 &&& (255 : Int32)).toUInt32.toUInt16.toUInt32.toInt32)), (Value.int (3 : Int32)), (Value.ref ob1)])) rfl rfl (hb hby at_292)
                refine own_Go.by st174 ?_
                have N174 := Fr.snoc X174 N168 g3
                have O175 := O169.wr W174 g3
                have K175 := K169.wr W174 (Or.inr z3)
                rw [show nar .char ((p4 &&& (255 : Int32)).toUInt32.toUInt16.toUInt32.toInt32) = ((p4 &&& (255 : Int32)).toUInt32.toUInt16.toUInt32.toInt32) from (own_b255 rfl).2] at W174
                have V174 : Arv Z h174 ob1 k1 .char (7 : Int32) (([(Value.int (103 : Int32)), (Value.int (101 : Int32)), (Value.int (116 : Int32)), (Value.int (0 : Int32)), (Value.int (0 : Int32)), (Value.int (0 : Int32)), (Value.int (0 : Int32))].set (((p2 &&& (2147483647 : Int32)) % (3 : Int32))).toNatClampNeg (Value.int ((p3 &&& (255 : Int32)).toUInt32.toUInt16.toUInt32.toInt32))).set 3 (Value.int ((p4 &&& (255 : Int32)).toUInt32.toUInt16.toUInt32.toInt32))) (Value.int (0 : Int32)) := Arv.set Ar173 q173 S173 M173 Hh173 G173 (own_fitC ((own_b255 rfl).2)) W174 3 (rfl) (by simp)
                have hok176 : own_ok (([(Value.int (103 : Int32)), (Value.int (101 : Int32)), (Value.int (116 : Int32)), (Value.int (0 : Int32)), (Value.int (0 : Int32)), (Value.int (0 : Int32)), (Value.int (0 : Int32))].set (((p2 &&& (2147483647 : Int32)) % (3 : Int32))).toNatClampNeg (Value.int ((p3 &&& (255 : Int32)).toUInt32.toUInt16.toUInt32.toInt32))).set 3 (Value.int ((p4 &&& (255 : Int32)).toUInt32.toUInt16.toUInt32.toInt32))) := own_ok_set hok170 _ (own_b255 rfl).1
                refine own_Go.by (fun tq kq => XS.iload X174.here hx rfl (hb hby at_293) rfl kq) ?_
                refine own_Go.by (fun tq kq => XS.iconst X174.here hx rfl (hb hby at_295) kq) ?_
                refine own_Go.by (fun tq kq => XS.iadd X174.here hx rfl (hb hby at_296) rfl kq) ?_
                show own_Go _ _ _ _ (T174.setTop (mkF m 297 #[sI p1, sI p2, sI p3, sI p4, sI p5, sI (p1 &&& (3 : Int32)), sR ob1, sI (3 : Int32), sI (0 : Int32), .unset, .unset] [(Value.int (4 : Int32))]))
                refine own_Go.by (fun tq kq => XS.istore X174.here hx rfl (hb hby at_297) rfl (l' := #[sI p1, sI p2, sI p3, sI p4, sI p5, sI (p1 &&& (3 : Int32)), sR ob1, sI (4 : Int32), sI (0 : Int32), .unset, .unset]) rfl kq) ?_
                exact g_4 (T174, h174, _, (([(Value.int (103 : Int32)), (Value.int (101 : Int32)), (Value.int (116 : Int32)), (Value.int (0 : Int32)), (Value.int (0 : Int32)), (Value.int (0 : Int32)), (Value.int (0 : Int32))].set (((p2 &&& (2147483647 : Int32)) % (3 : Int32))).toNatClampNeg (Value.int ((p3 &&& (255 : Int32)).toUInt32.toUInt16.toUInt32.toInt32))).set 3 (Value.int ((p4 &&& (255 : Int32)).toUInt32.toUInt16.toUInt32.toInt32))), (4 : Int32), (0 : Int32)) ⟨X174, e174, O175, K175, N174, V174, hok176⟩
            ·
              refine own_Go.by (fun tq kq => XS.ifNo X168.here hx rfl (hb hby at_266) rfl ((if0 _ _).trans (feq hc266_171).1) kq) ?_
              refine own_Go.by (fun tq kq => XS.iload X168.here hx rfl (hb hby at_269) rfl kq) ?_
              refine own_Go.by (fun tq kq => XS.iconst X168.here hx rfl (hb hby at_271) kq) ?_
              refine own_Go.by (fun tq kq => XS.isub X168.here hx rfl (hb hby at_272) rfl kq) ?_
              show own_Go _ _ _ _ (T168.setTop (mkF m 273 #[sI p1, sI p2, sI p3, sI p4, sI p5, sI (p1 &&& (3 : Int32)), sR ob1, sI (3 : Int32), sI (0 : Int32), .unset, .unset] [(Value.int (2 : Int32))]))
              refine own_Go.by (fun tq kq => XS.istore X168.here hx rfl (hb hby at_273) rfl (l' := #[sI p1, sI p2, sI p3, sI p4, sI p5, sI (p1 &&& (3 : Int32)), sR ob1, sI (2 : Int32), sI (0 : Int32), .unset, .unset]) rfl kq) ?_
              refine own_Go.by (fun tq kq => XS.iloadN X168.here hx rfl (hb hby at_275) rfl kq) ?_
              refine own_Go.by (fun tq kq => XS.bipush X168.here hx rfl (hb hby at_276) kq) ?_
              refine own_Go.by (fun tq kq => XS.iand X168.here hx rfl (hb hby at_278) rfl kq) ?_
              show own_Go _ _ _ _ (T168.setTop (mkF m 279 #[sI p1, sI p2, sI p3, sI p4, sI p5, sI (p1 &&& (3 : Int32)), sR ob1, sI (2 : Int32), sI (0 : Int32), .unset, .unset] [(Value.int (p1 &&& (16 : Int32)))]))
              by_cases hc279_177 : (p1 &&& (16 : Int32)) = (0 : Int32)
              ·
                refine own_Go.by (fun tq kq => XS.ifYes X168.here hx rfl (pc0 := 279) (pc' := 299) rfl (hb hby at_279) rfl ((if0 _ _).trans (teq hc279_177).1) (by decide) (by decide) kq) ?_
                exact g_4 (T168, h168, _, ([(Value.int (103 : Int32)), (Value.int (101 : Int32)), (Value.int (116 : Int32)), (Value.int (0 : Int32)), (Value.int (0 : Int32)), (Value.int (0 : Int32)), (Value.int (0 : Int32))].set (((p2 &&& (2147483647 : Int32)) % (3 : Int32))).toNatClampNeg (Value.int ((p3 &&& (255 : Int32)).toUInt32.toUInt16.toUInt32.toInt32))), (2 : Int32), (0 : Int32)) ⟨X168, e168, O169, K169, N168, V168, hok170⟩
              ·
                refine own_Go.by (fun tq kq => XS.ifNo X168.here hx rfl (hb hby at_279) rfl ((if0 _ _).trans (feq hc279_177).1) kq) ?_
                refine own_Go.by (fun tq kq => XS.aload X168.here hx rfl (hb hby at_282) rfl rfl kq) ?_
                refine own_Go.by (fun tq kq => XS.iload X168.here hx rfl (hb hby at_284) rfl kq) ?_
                refine own_Go.by (fun tq kq => XS.iloadN X168.here hx rfl (hb hby at_286) rfl kq) ?_
                show own_Go _ _ _ _ (T168.setTop (mkF m 287 #[sI p1, sI p2, sI p3, sI p4, sI p5, sI (p1 &&& (3 : Int32)), sR ob1, sI (2 : Int32), sI (0 : Int32), .unset, .unset] [(Value.int p4), (Value.int (2 : Int32)), (Value.ref ob1)]))
                refine own_Go.by (fun tq kq => XS.sipush X168.here hx rfl (hb hby at_287) kq) ?_
                refine own_Go.by (fun tq kq => XS.iand X168.here hx rfl (hb hby at_290) rfl kq) ?_
                refine own_Go.by (fun tq kq => XS.i2c X168.here hx rfl (hb hby at_291) rfl kq) ?_
                show own_Go _ _ _ _ (T168.setTop (mkF m 292 #[sI p1, sI p2, sI p3, sI p4, sI p5, sI (p1 &&& (3 : Int32)), sR ob1, sI (2 : Int32), sI (0 : Int32), .unset, .unset] [(Value.int ((p4 &&& (255 : Int32)).toUInt32.toUInt16.toUInt32.toInt32)), (Value.int (2 : Int32)), (Value.ref ob1)]))
                obtain ⟨cl178, Ar178, q178, S178, M178, Hh178, G178⟩ := id V168
                obtain ⟨T179, h179, X179, e179, W179, st179⟩ := stC X168 hx hZ e168 Ar178 (j := (2 : Int32)) (inb_of S178 ⟨(by decide : ¬ ((2 : Int32) < (0 : Int32))), (by decide : (2 : Int32) < (7 : Int32))⟩) (g := (mkF m 292 #[sI p1, sI p2, sI p3, sI p4, sI p5, sI (p1 &&& (3 : Int32)), sR ob1, sI (2 : Int32), sI (0 : Int32), .unset, .unset] [(Value.int ((p4 &&& (255 : Int32)).toUInt32.toUInt16.toUInt32.toInt32)), (Value.int (2 : Int32)), (Value.ref ob1)])) rfl rfl (hb hby at_292)
                refine own_Go.by st179 ?_
                have N179 := Fr.snoc X179 N168 g3
                have O180 := O169.wr W179 g3
                have K180 := K169.wr W179 (Or.inr z3)
                rw [show nar .char ((p4 &&& (255 : Int32)).toUInt32.toUInt16.toUInt32.toInt32) = ((p4 &&& (255 : Int32)).toUInt32.toUInt16.toUInt32.toInt32) from (own_b255 rfl).2] at W179
                have V179 : Arv Z h179 ob1 k1 .char (7 : Int32) (([(Value.int (103 : Int32)), (Value.int (101 : Int32)), (Value.int (116 : Int32)), (Value.int (0 : Int32)), (Value.int (0 : Int32)), (Value.int (0 : Int32)), (Value.int (0 : Int32))].set (((p2 &&& (2147483647 : Int32)) % (3 : Int32))).toNatClampNeg (Value.int ((p3 &&& (255 : Int32)).toUInt32.toUInt16.toUInt32.toInt32))).set 2 (Value.int ((p4 &&& (255 : Int32)).toUInt32.toUInt16.toUInt32.toInt32))) (Value.int (0 : Int32)) := Arv.set Ar178 q178 S178 M178 Hh178 G178 (own_fitC ((own_b255 rfl).2)) W179 2 (rfl) (by simp)
                have hok181 : own_ok (([(Value.int (103 : Int32)), (Value.int (101 : Int32)), (Value.int (116 : Int32)), (Value.int (0 : Int32)), (Value.int (0 : Int32)), (Value.int (0 : Int32)), (Value.int (0 : Int32))].set (((p2 &&& (2147483647 : Int32)) % (3 : Int32))).toNatClampNeg (Value.int ((p3 &&& (255 : Int32)).toUInt32.toUInt16.toUInt32.toInt32))).set 2 (Value.int ((p4 &&& (255 : Int32)).toUInt32.toUInt16.toUInt32.toInt32))) := own_ok_set hok170 _ (own_b255 rfl).1
                refine own_Go.by (fun tq kq => XS.iload X179.here hx rfl (hb hby at_293) rfl kq) ?_
                refine own_Go.by (fun tq kq => XS.iconst X179.here hx rfl (hb hby at_295) kq) ?_
                refine own_Go.by (fun tq kq => XS.iadd X179.here hx rfl (hb hby at_296) rfl kq) ?_
                show own_Go _ _ _ _ (T179.setTop (mkF m 297 #[sI p1, sI p2, sI p3, sI p4, sI p5, sI (p1 &&& (3 : Int32)), sR ob1, sI (2 : Int32), sI (0 : Int32), .unset, .unset] [(Value.int (3 : Int32))]))
                refine own_Go.by (fun tq kq => XS.istore X179.here hx rfl (hb hby at_297) rfl (l' := #[sI p1, sI p2, sI p3, sI p4, sI p5, sI (p1 &&& (3 : Int32)), sR ob1, sI (3 : Int32), sI (0 : Int32), .unset, .unset]) rfl kq) ?_
                exact g_4 (T179, h179, _, (([(Value.int (103 : Int32)), (Value.int (101 : Int32)), (Value.int (116 : Int32)), (Value.int (0 : Int32)), (Value.int (0 : Int32)), (Value.int (0 : Int32)), (Value.int (0 : Int32))].set (((p2 &&& (2147483647 : Int32)) % (3 : Int32))).toNatClampNeg (Value.int ((p3 &&& (255 : Int32)).toUInt32.toUInt16.toUInt32.toInt32))).set 2 (Value.int ((p4 &&& (255 : Int32)).toUInt32.toUInt16.toUInt32.toInt32))), (3 : Int32), (0 : Int32)) ⟨X179, e179, O180, K180, N179, V179, hok181⟩
        ·
          refine own_Go.by (fun tq kq => XS.icmpYes X1.here hx rfl (pc0 := 95) (pc' := 122) rfl (hb hby at_95) rfl (feq hc95_142).2 (by decide) (by decide) kq) ?_
          refine own_Go.by (fun tq kq => XS.iload X1.here hx rfl (hb hby at_122) rfl kq) ?_
          show own_Go _ _ _ _ (T1.setTop (mkF m 124 #[sI p1, sI p2, sI p3, sI p4, sI p5, sI (p1 &&& (3 : Int32)), sR ob1, .unset, sI (0 : Int32), .unset, .unset] [(Value.int p5)]))
          refine own_Go.by (fun tq kq => X1.ldcInt hx hown (mvT hZ (hw _ (List.mem_of_getElem? (i := 73) rfl))) (g := (mkF m 124 #[sI p1, sI p2, sI p3, sI p4, sI p5, sI (p1 &&& (3 : Int32)), sR ob1, .unset, sI (0 : Int32), .unset, .unset] [(Value.int p5)])) rfl (hb hby at_124) _ kq) ?_
          refine own_Go.by (fun tq kq => XS.iand X1.here hx rfl (hb hby at_126) rfl kq) ?_
          refine own_Go.by (fun tq kq => XS.bipush X1.here hx rfl (hb hby at_127) kq) ?_
          show own_Go _ _ _ _ (T1.setTop (mkF m 129 #[sI p1, sI p2, sI p3, sI p4, sI p5, sI (p1 &&& (3 : Int32)), sR ob1, .unset, sI (0 : Int32), .unset, .unset] [(Value.int (8 : Int32)), (Value.int (p5 &&& (2147483647 : Int32)))]))
          refine own_Go.by (fun tq kq => iremM (g := (mkF m 129 #[sI p1, sI p2, sI p3, sI p4, sI p5, sI (p1 &&& (3 : Int32)), sR ob1, .unset, sI (0 : Int32), .unset, .unset] [(Value.int (8 : Int32)), (Value.int (p5 &&& (2147483647 : Int32)))])) X1 hx rfl (hb hby at_129) rfl (by decide) kq) ?_
          refine own_Go.by (fun tq kq => XS.istore X1.here hx rfl (hb hby at_130) rfl (l' := #[sI p1, sI p2, sI p3, sI p4, sI p5, sI (p1 &&& (3 : Int32)), sR ob1, sI ((p5 &&& (2147483647 : Int32)) % (8 : Int32)), sI (0 : Int32), .unset, .unset]) rfl kq) ?_
          refine own_Go.by (fun tq kq => XS.aload X1.here hx rfl (hb hby at_132) rfl rfl kq) ?_
          refine own_Go.by (fun tq kq => XS.iconst X1.here hx rfl (hb hby at_134) kq) ?_
          show own_Go _ _ _ _ (T1.setTop (mkF m 135 #[sI p1, sI p2, sI p3, sI p4, sI p5, sI (p1 &&& (3 : Int32)), sR ob1, sI ((p5 &&& (2147483647 : Int32)) % (8 : Int32)), sI (0 : Int32), .unset, .unset] [(Value.int (0 : Int32)), (Value.ref ob1)]))
          refine own_Go.by (fun tq kq => XS.iloadN X1.here hx rfl (hb hby at_135) rfl kq) ?_
          refine own_Go.by (fun tq kq => XS.sipush X1.here hx rfl (hb hby at_136) kq) ?_
          refine own_Go.by (fun tq kq => XS.iand X1.here hx rfl (hb hby at_139) rfl kq) ?_
          refine own_Go.by (fun tq kq => XS.i2c X1.here hx rfl (hb hby at_140) rfl kq) ?_
          show own_Go _ _ _ _ (T1.setTop (mkF m 141 #[sI p1, sI p2, sI p3, sI p4, sI p5, sI (p1 &&& (3 : Int32)), sR ob1, sI ((p5 &&& (2147483647 : Int32)) % (8 : Int32)), sI (0 : Int32), .unset, .unset] [(Value.int ((p3 &&& (255 : Int32)).toUInt32.toUInt16.toUInt32.toInt32)), (Value.int (0 : Int32)), (Value.ref ob1)]))
          obtain ⟨cl182, Ar182, q182, S182, M182, Hh182, G182⟩ := id V1
          obtain ⟨T183, h183, X183, e183, W183, st183⟩ := stC X1 hx hZ e1 Ar182 (j := (0 : Int32)) (inb_of S182 ⟨(by decide : ¬ ((0 : Int32) < (0 : Int32))), (by decide : (0 : Int32) < (7 : Int32))⟩) (g := (mkF m 141 #[sI p1, sI p2, sI p3, sI p4, sI p5, sI (p1 &&& (3 : Int32)), sR ob1, sI ((p5 &&& (2147483647 : Int32)) % (8 : Int32)), sI (0 : Int32), .unset, .unset] [(Value.int ((p3 &&& (255 : Int32)).toUInt32.toUInt16.toUInt32.toInt32)), (Value.int (0 : Int32)), (Value.ref ob1)])) rfl rfl (hb hby at_141)
          refine own_Go.by st183 ?_
          have N183 := Fr.snoc X183 N0 g3
          have O184 := O2.wr W183 g3
          have K184 := K2.wr W183 (Or.inr z3)
          rw [show nar .char ((p3 &&& (255 : Int32)).toUInt32.toUInt16.toUInt32.toInt32) = ((p3 &&& (255 : Int32)).toUInt32.toUInt16.toUInt32.toInt32) from (own_b255 rfl).2] at W183
          have V183 : Arv Z h183 ob1 k1 .char (7 : Int32) [(Value.int ((p3 &&& (255 : Int32)).toUInt32.toUInt16.toUInt32.toInt32)), (Value.int (0 : Int32)), (Value.int (0 : Int32)), (Value.int (0 : Int32)), (Value.int (0 : Int32)), (Value.int (0 : Int32)), (Value.int (0 : Int32))] (Value.int (0 : Int32)) := Arv.set Ar182 q182 S182 M182 Hh182 G182 (own_fitC ((own_b255 rfl).2)) W183 0 rfl (Nat.le_of_ble_eq_true rfl)
          refine own_Go.by (fun tq kq => XS.aload X183.here hx rfl (hb hby at_142) rfl rfl kq) ?_
          refine own_Go.by (fun tq kq => XS.iconst X183.here hx rfl (hb hby at_144) kq) ?_
          refine own_Go.by (fun tq kq => XS.iloadN X183.here hx rfl (hb hby at_145) rfl kq) ?_
          show own_Go _ _ _ _ (T183.setTop (mkF m 146 #[sI p1, sI p2, sI p3, sI p4, sI p5, sI (p1 &&& (3 : Int32)), sR ob1, sI ((p5 &&& (2147483647 : Int32)) % (8 : Int32)), sI (0 : Int32), .unset, .unset] [(Value.int p3), (Value.int (1 : Int32)), (Value.ref ob1)]))
          refine own_Go.by (fun tq kq => XS.bipush X183.here hx rfl (hb hby at_146) kq) ?_
          refine own_Go.by (fun tq kq => XS.iushr X183.here hx rfl (hb hby at_148) rfl kq) ?_
          refine own_Go.by (fun tq kq => XS.sipush X183.here hx rfl (hb hby at_149) kq) ?_
          refine own_Go.by (fun tq kq => XS.iand X183.here hx rfl (hb hby at_152) rfl kq) ?_
          show own_Go _ _ _ _ (T183.setTop (mkF m 153 #[sI p1, sI p2, sI p3, sI p4, sI p5, sI (p1 &&& (3 : Int32)), sR ob1, sI ((p5 &&& (2147483647 : Int32)) % (8 : Int32)), sI (0 : Int32), .unset, .unset] [(Value.int (((p3.toUInt32 >>> ((8 : Int32) &&& 31).toUInt32).toInt32) &&& (255 : Int32))), (Value.int (1 : Int32)), (Value.ref ob1)]))
          refine own_Go.by (fun tq kq => XS.i2c X183.here hx rfl (hb hby at_153) rfl kq) ?_
          show own_Go _ _ _ _ (T183.setTop (mkF m 154 #[sI p1, sI p2, sI p3, sI p4, sI p5, sI (p1 &&& (3 : Int32)), sR ob1, sI ((p5 &&& (2147483647 : Int32)) % (8 : Int32)), sI (0 : Int32), .unset, .unset] [(Value.int ((((p3.toUInt32 >>> ((8 : Int32) &&& 31).toUInt32).toInt32) &&& (255 : Int32)).toUInt32.toUInt16.toUInt32.toInt32)), (Value.int (1 : Int32)), (Value.ref ob1)]))
          obtain ⟨cl185, Ar185, q185, S185, M185, Hh185, G185⟩ := id V183
          obtain ⟨T186, h186, X186, e186, W186, st186⟩ := stC X183 hx hZ e183 Ar185 (j := (1 : Int32)) (inb_of S185 ⟨(by decide : ¬ ((1 : Int32) < (0 : Int32))), (by decide : (1 : Int32) < (7 : Int32))⟩) (g := (mkF m 154 #[sI p1, sI p2, sI p3, sI p4, sI p5, sI (p1 &&& (3 : Int32)), sR ob1, sI ((p5 &&& (2147483647 : Int32)) % (8 : Int32)), sI (0 : Int32), .unset, .unset] [(Value.int ((((p3.toUInt32 >>> ((8 : Int32) &&& 31).toUInt32).toInt32) &&& (255 : Int32)).toUInt32.toUInt16.toUInt32.toInt32)), (Value.int (1 : Int32)), (Value.ref ob1)])) rfl rfl (hb hby at_154)
          refine own_Go.by st186 ?_
          have N186 := Fr.snoc X186 N183 g3
          have O187 := O184.wr W186 g3
          have K187 := K184.wr W186 (Or.inr z3)
          rw [show nar .char ((((p3.toUInt32 >>> ((8 : Int32) &&& 31).toUInt32).toInt32) &&& (255 : Int32)).toUInt32.toUInt16.toUInt32.toInt32) = ((((p3.toUInt32 >>> ((8 : Int32) &&& 31).toUInt32).toInt32) &&& (255 : Int32)).toUInt32.toUInt16.toUInt32.toInt32) from (own_b255 rfl).2] at W186
          have V186 : Arv Z h186 ob1 k1 .char (7 : Int32) [(Value.int ((p3 &&& (255 : Int32)).toUInt32.toUInt16.toUInt32.toInt32)), (Value.int ((((p3.toUInt32 >>> ((8 : Int32) &&& 31).toUInt32).toInt32) &&& (255 : Int32)).toUInt32.toUInt16.toUInt32.toInt32)), (Value.int (0 : Int32)), (Value.int (0 : Int32)), (Value.int (0 : Int32)), (Value.int (0 : Int32)), (Value.int (0 : Int32))] (Value.int (0 : Int32)) := Arv.set Ar185 q185 S185 M185 Hh185 G185 (own_fitC ((own_b255 rfl).2)) W186 1 rfl (Nat.le_of_ble_eq_true rfl)
          refine own_Go.by (fun tq kq => XS.aload X186.here hx rfl (hb hby at_155) rfl rfl kq) ?_
          refine own_Go.by (fun tq kq => XS.iconst X186.here hx rfl (hb hby at_157) kq) ?_
          refine own_Go.by (fun tq kq => XS.iloadN X186.here hx rfl (hb hby at_158) rfl kq) ?_
          show own_Go _ _ _ _ (T186.setTop (mkF m 159 #[sI p1, sI p2, sI p3, sI p4, sI p5, sI (p1 &&& (3 : Int32)), sR ob1, sI ((p5 &&& (2147483647 : Int32)) % (8 : Int32)), sI (0 : Int32), .unset, .unset] [(Value.int p3), (Value.int (2 : Int32)), (Value.ref ob1)]))
          refine own_Go.by (fun tq kq => XS.bipush X186.here hx rfl (hb hby at_159) kq) ?_
          refine own_Go.by (fun tq kq => XS.iushr X186.here hx rfl (hb hby at_161) rfl kq) ?_
          refine own_Go.by (fun tq kq => XS.sipush X186.here hx rfl (hb hby at_162) kq) ?_
          refine own_Go.by (fun tq kq => XS.iand X186.here hx rfl (hb hby at_165) rfl kq) ?_
          show own_Go _ _ _ _ (T186.setTop (mkF m 166 #[sI p1, sI p2, sI p3, sI p4, sI p5, sI (p1 &&& (3 : Int32)), sR ob1, sI ((p5 &&& (2147483647 : Int32)) % (8 : Int32)), sI (0 : Int32), .unset, .unset] [(Value.int (((p3.toUInt32 >>> ((16 : Int32) &&& 31).toUInt32).toInt32) &&& (255 : Int32))), (Value.int (2 : Int32)), (Value.ref ob1)]))
          refine own_Go.by (fun tq kq => XS.i2c X186.here hx rfl (hb hby at_166) rfl kq) ?_
          show own_Go _ _ _ _ (T186.setTop (mkF m 167 #[sI p1, sI p2, sI p3, sI p4, sI p5, sI (p1 &&& (3 : Int32)), sR ob1, sI ((p5 &&& (2147483647 : Int32)) % (8 : Int32)), sI (0 : Int32), .unset, .unset] [(Value.int ((((p3.toUInt32 >>> ((16 : Int32) &&& 31).toUInt32).toInt32) &&& (255 : Int32)).toUInt32.toUInt16.toUInt32.toInt32)), (Value.int (2 : Int32)), (Value.ref ob1)]))
          obtain ⟨cl188, Ar188, q188, S188, M188, Hh188, G188⟩ := id V186
          obtain ⟨T189, h189, X189, e189, W189, st189⟩ := stC X186 hx hZ e186 Ar188 (j := (2 : Int32)) (inb_of S188 ⟨(by decide : ¬ ((2 : Int32) < (0 : Int32))), (by decide : (2 : Int32) < (7 : Int32))⟩) (g := (mkF m 167 #[sI p1, sI p2, sI p3, sI p4, sI p5, sI (p1 &&& (3 : Int32)), sR ob1, sI ((p5 &&& (2147483647 : Int32)) % (8 : Int32)), sI (0 : Int32), .unset, .unset] [(Value.int ((((p3.toUInt32 >>> ((16 : Int32) &&& 31).toUInt32).toInt32) &&& (255 : Int32)).toUInt32.toUInt16.toUInt32.toInt32)), (Value.int (2 : Int32)), (Value.ref ob1)])) rfl rfl (hb hby at_167)
          refine own_Go.by st189 ?_
          have N189 := Fr.snoc X189 N186 g3
          have O190 := O187.wr W189 g3
          have K190 := K187.wr W189 (Or.inr z3)
          rw [show nar .char ((((p3.toUInt32 >>> ((16 : Int32) &&& 31).toUInt32).toInt32) &&& (255 : Int32)).toUInt32.toUInt16.toUInt32.toInt32) = ((((p3.toUInt32 >>> ((16 : Int32) &&& 31).toUInt32).toInt32) &&& (255 : Int32)).toUInt32.toUInt16.toUInt32.toInt32) from (own_b255 rfl).2] at W189
          have V189 : Arv Z h189 ob1 k1 .char (7 : Int32) [(Value.int ((p3 &&& (255 : Int32)).toUInt32.toUInt16.toUInt32.toInt32)), (Value.int ((((p3.toUInt32 >>> ((8 : Int32) &&& 31).toUInt32).toInt32) &&& (255 : Int32)).toUInt32.toUInt16.toUInt32.toInt32)), (Value.int ((((p3.toUInt32 >>> ((16 : Int32) &&& 31).toUInt32).toInt32) &&& (255 : Int32)).toUInt32.toUInt16.toUInt32.toInt32)), (Value.int (0 : Int32)), (Value.int (0 : Int32)), (Value.int (0 : Int32)), (Value.int (0 : Int32))] (Value.int (0 : Int32)) := Arv.set Ar188 q188 S188 M188 Hh188 G188 (own_fitC ((own_b255 rfl).2)) W189 2 rfl (Nat.le_of_ble_eq_true rfl)
          refine own_Go.by (fun tq kq => XS.aload X189.here hx rfl (hb hby at_168) rfl rfl kq) ?_
          refine own_Go.by (fun tq kq => XS.iconst X189.here hx rfl (hb hby at_170) kq) ?_
          refine own_Go.by (fun tq kq => XS.iloadN X189.here hx rfl (hb hby at_171) rfl kq) ?_
          show own_Go _ _ _ _ (T189.setTop (mkF m 172 #[sI p1, sI p2, sI p3, sI p4, sI p5, sI (p1 &&& (3 : Int32)), sR ob1, sI ((p5 &&& (2147483647 : Int32)) % (8 : Int32)), sI (0 : Int32), .unset, .unset] [(Value.int p3), (Value.int (3 : Int32)), (Value.ref ob1)]))
          refine own_Go.by (fun tq kq => XS.bipush X189.here hx rfl (hb hby at_172) kq) ?_
          refine own_Go.by (fun tq kq => XS.iushr X189.here hx rfl (hb hby at_174) rfl kq) ?_
          refine own_Go.by (fun tq kq => XS.sipush X189.here hx rfl (hb hby at_175) kq) ?_
          refine own_Go.by (fun tq kq => XS.iand X189.here hx rfl (hb hby at_178) rfl kq) ?_
          show own_Go _ _ _ _ (T189.setTop (mkF m 179 #[sI p1, sI p2, sI p3, sI p4, sI p5, sI (p1 &&& (3 : Int32)), sR ob1, sI ((p5 &&& (2147483647 : Int32)) % (8 : Int32)), sI (0 : Int32), .unset, .unset] [(Value.int (((p3.toUInt32 >>> ((24 : Int32) &&& 31).toUInt32).toInt32) &&& (255 : Int32))), (Value.int (3 : Int32)), (Value.ref ob1)]))
          refine own_Go.by (fun tq kq => XS.i2c X189.here hx rfl (hb hby at_179) rfl kq) ?_
          show own_Go _ _ _ _ (T189.setTop (mkF m 180 #[sI p1, sI p2, sI p3, sI p4, sI p5, sI (p1 &&& (3 : Int32)), sR ob1, sI ((p5 &&& (2147483647 : Int32)) % (8 : Int32)), sI (0 : Int32), .unset, .unset] [(Value.int ((((p3.toUInt32 >>> ((24 : Int32) &&& 31).toUInt32).toInt32) &&& (255 : Int32)).toUInt32.toUInt16.toUInt32.toInt32)), (Value.int (3 : Int32)), (Value.ref ob1)]))
          obtain ⟨cl191, Ar191, q191, S191, M191, Hh191, G191⟩ := id V189
          obtain ⟨T192, h192, X192, e192, W192, st192⟩ := stC X189 hx hZ e189 Ar191 (j := (3 : Int32)) (inb_of S191 ⟨(by decide : ¬ ((3 : Int32) < (0 : Int32))), (by decide : (3 : Int32) < (7 : Int32))⟩) (g := (mkF m 180 #[sI p1, sI p2, sI p3, sI p4, sI p5, sI (p1 &&& (3 : Int32)), sR ob1, sI ((p5 &&& (2147483647 : Int32)) % (8 : Int32)), sI (0 : Int32), .unset, .unset] [(Value.int ((((p3.toUInt32 >>> ((24 : Int32) &&& 31).toUInt32).toInt32) &&& (255 : Int32)).toUInt32.toUInt16.toUInt32.toInt32)), (Value.int (3 : Int32)), (Value.ref ob1)])) rfl rfl (hb hby at_180)
          refine own_Go.by st192 ?_
          have N192 := Fr.snoc X192 N189 g3
          have O193 := O190.wr W192 g3
          have K193 := K190.wr W192 (Or.inr z3)
          rw [show nar .char ((((p3.toUInt32 >>> ((24 : Int32) &&& 31).toUInt32).toInt32) &&& (255 : Int32)).toUInt32.toUInt16.toUInt32.toInt32) = ((((p3.toUInt32 >>> ((24 : Int32) &&& 31).toUInt32).toInt32) &&& (255 : Int32)).toUInt32.toUInt16.toUInt32.toInt32) from (own_b255 rfl).2] at W192
          have V192 : Arv Z h192 ob1 k1 .char (7 : Int32) [(Value.int ((p3 &&& (255 : Int32)).toUInt32.toUInt16.toUInt32.toInt32)), (Value.int ((((p3.toUInt32 >>> ((8 : Int32) &&& 31).toUInt32).toInt32) &&& (255 : Int32)).toUInt32.toUInt16.toUInt32.toInt32)), (Value.int ((((p3.toUInt32 >>> ((16 : Int32) &&& 31).toUInt32).toInt32) &&& (255 : Int32)).toUInt32.toUInt16.toUInt32.toInt32)), (Value.int ((((p3.toUInt32 >>> ((24 : Int32) &&& 31).toUInt32).toInt32) &&& (255 : Int32)).toUInt32.toUInt16.toUInt32.toInt32)), (Value.int (0 : Int32)), (Value.int (0 : Int32)), (Value.int (0 : Int32))] (Value.int (0 : Int32)) := Arv.set Ar191 q191 S191 M191 Hh191 G191 (own_fitC ((own_b255 rfl).2)) W192 3 rfl (Nat.le_of_ble_eq_true rfl)
          refine own_Go.by (fun tq kq => XS.aload X192.here hx rfl (hb hby at_181) rfl rfl kq) ?_
          refine own_Go.by (fun tq kq => XS.iconst X192.here hx rfl (hb hby at_183) kq) ?_
          refine own_Go.by (fun tq kq => XS.iloadN X192.here hx rfl (hb hby at_184) rfl kq) ?_
          show own_Go _ _ _ _ (T192.setTop (mkF m 185 #[sI p1, sI p2, sI p3, sI p4, sI p5, sI (p1 &&& (3 : Int32)), sR ob1, sI ((p5 &&& (2147483647 : Int32)) % (8 : Int32)), sI (0 : Int32), .unset, .unset] [(Value.int p4), (Value.int (4 : Int32)), (Value.ref ob1)]))
          refine own_Go.by (fun tq kq => XS.sipush X192.here hx rfl (hb hby at_185) kq) ?_
          refine own_Go.by (fun tq kq => XS.iand X192.here hx rfl (hb hby at_188) rfl kq) ?_
          refine own_Go.by (fun tq kq => XS.i2c X192.here hx rfl (hb hby at_189) rfl kq) ?_
          show own_Go _ _ _ _ (T192.setTop (mkF m 190 #[sI p1, sI p2, sI p3, sI p4, sI p5, sI (p1 &&& (3 : Int32)), sR ob1, sI ((p5 &&& (2147483647 : Int32)) % (8 : Int32)), sI (0 : Int32), .unset, .unset] [(Value.int ((p4 &&& (255 : Int32)).toUInt32.toUInt16.toUInt32.toInt32)), (Value.int (4 : Int32)), (Value.ref ob1)]))
          obtain ⟨cl194, Ar194, q194, S194, M194, Hh194, G194⟩ := id V192
          obtain ⟨T195, h195, X195, e195, W195, st195⟩ := stC X192 hx hZ e192 Ar194 (j := (4 : Int32)) (inb_of S194 ⟨(by decide : ¬ ((4 : Int32) < (0 : Int32))), (by decide : (4 : Int32) < (7 : Int32))⟩) (g := (mkF m 190 #[sI p1, sI p2, sI p3, sI p4, sI p5, sI (p1 &&& (3 : Int32)), sR ob1, sI ((p5 &&& (2147483647 : Int32)) % (8 : Int32)), sI (0 : Int32), .unset, .unset] [(Value.int ((p4 &&& (255 : Int32)).toUInt32.toUInt16.toUInt32.toInt32)), (Value.int (4 : Int32)), (Value.ref ob1)])) rfl rfl (hb hby at_190)
          refine own_Go.by st195 ?_
          have N195 := Fr.snoc X195 N192 g3
          have O196 := O193.wr W195 g3
          have K196 := K193.wr W195 (Or.inr z3)
          rw [show nar .char ((p4 &&& (255 : Int32)).toUInt32.toUInt16.toUInt32.toInt32) = ((p4 &&& (255 : Int32)).toUInt32.toUInt16.toUInt32.toInt32) from (own_b255 rfl).2] at W195
          have V195 : Arv Z h195 ob1 k1 .char (7 : Int32) [(Value.int ((p3 &&& (255 : Int32)).toUInt32.toUInt16.toUInt32.toInt32)), (Value.int ((((p3.toUInt32 >>> ((8 : Int32) &&& 31).toUInt32).toInt32) &&& (255 : Int32)).toUInt32.toUInt16.toUInt32.toInt32)), (Value.int ((((p3.toUInt32 >>> ((16 : Int32) &&& 31).toUInt32).toInt32) &&& (255 : Int32)).toUInt32.toUInt16.toUInt32.toInt32)), (Value.int ((((p3.toUInt32 >>> ((24 : Int32) &&& 31).toUInt32).toInt32) &&& (255 : Int32)).toUInt32.toUInt16.toUInt32.toInt32)), (Value.int ((p4 &&& (255 : Int32)).toUInt32.toUInt16.toUInt32.toInt32)), (Value.int (0 : Int32)), (Value.int (0 : Int32))] (Value.int (0 : Int32)) := Arv.set Ar194 q194 S194 M194 Hh194 G194 (own_fitC ((own_b255 rfl).2)) W195 4 rfl (Nat.le_of_ble_eq_true rfl)
          refine own_Go.by (fun tq kq => XS.aload X195.here hx rfl (hb hby at_191) rfl rfl kq) ?_
          refine own_Go.by (fun tq kq => XS.iconst X195.here hx rfl (hb hby at_193) kq) ?_
          refine own_Go.by (fun tq kq => XS.iloadN X195.here hx rfl (hb hby at_194) rfl kq) ?_
          show own_Go _ _ _ _ (T195.setTop (mkF m 195 #[sI p1, sI p2, sI p3, sI p4, sI p5, sI (p1 &&& (3 : Int32)), sR ob1, sI ((p5 &&& (2147483647 : Int32)) % (8 : Int32)), sI (0 : Int32), .unset, .unset] [(Value.int p4), (Value.int (5 : Int32)), (Value.ref ob1)]))
          refine own_Go.by (fun tq kq => XS.bipush X195.here hx rfl (hb hby at_195) kq) ?_
          refine own_Go.by (fun tq kq => XS.iushr X195.here hx rfl (hb hby at_197) rfl kq) ?_
          refine own_Go.by (fun tq kq => XS.sipush X195.here hx rfl (hb hby at_198) kq) ?_
          refine own_Go.by (fun tq kq => XS.iand X195.here hx rfl (hb hby at_201) rfl kq) ?_
          show own_Go _ _ _ _ (T195.setTop (mkF m 202 #[sI p1, sI p2, sI p3, sI p4, sI p5, sI (p1 &&& (3 : Int32)), sR ob1, sI ((p5 &&& (2147483647 : Int32)) % (8 : Int32)), sI (0 : Int32), .unset, .unset] [(Value.int (((p4.toUInt32 >>> ((8 : Int32) &&& 31).toUInt32).toInt32) &&& (255 : Int32))), (Value.int (5 : Int32)), (Value.ref ob1)]))
          refine own_Go.by (fun tq kq => XS.i2c X195.here hx rfl (hb hby at_202) rfl kq) ?_
          show own_Go _ _ _ _ (T195.setTop (mkF m 203 #[sI p1, sI p2, sI p3, sI p4, sI p5, sI (p1 &&& (3 : Int32)), sR ob1, sI ((p5 &&& (2147483647 : Int32)) % (8 : Int32)), sI (0 : Int32), .unset, .unset] [(Value.int ((((p4.toUInt32 >>> ((8 : Int32) &&& 31).toUInt32).toInt32) &&& (255 : Int32)).toUInt32.toUInt16.toUInt32.toInt32)), (Value.int (5 : Int32)), (Value.ref ob1)]))
          obtain ⟨cl197, Ar197, q197, S197, M197, Hh197, G197⟩ := id V195
          obtain ⟨T198, h198, X198, e198, W198, st198⟩ := stC X195 hx hZ e195 Ar197 (j := (5 : Int32)) (inb_of S197 ⟨(by decide : ¬ ((5 : Int32) < (0 : Int32))), (by decide : (5 : Int32) < (7 : Int32))⟩) (g := (mkF m 203 #[sI p1, sI p2, sI p3, sI p4, sI p5, sI (p1 &&& (3 : Int32)), sR ob1, sI ((p5 &&& (2147483647 : Int32)) % (8 : Int32)), sI (0 : Int32), .unset, .unset] [(Value.int ((((p4.toUInt32 >>> ((8 : Int32) &&& 31).toUInt32).toInt32) &&& (255 : Int32)).toUInt32.toUInt16.toUInt32.toInt32)), (Value.int (5 : Int32)), (Value.ref ob1)])) rfl rfl (hb hby at_203)
          refine own_Go.by st198 ?_
          have N198 := Fr.snoc X198 N195 g3
          have O199 := O196.wr W198 g3
          have K199 := K196.wr W198 (Or.inr z3)
          rw [show nar .char ((((p4.toUInt32 >>> ((8 : Int32) &&& 31).toUInt32).toInt32) &&& (255 : Int32)).toUInt32.toUInt16.toUInt32.toInt32) = ((((p4.toUInt32 >>> ((8 : Int32) &&& 31).toUInt32).toInt32) &&& (255 : Int32)).toUInt32.toUInt16.toUInt32.toInt32) from (own_b255 rfl).2] at W198
          have V198 : Arv Z h198 ob1 k1 .char (7 : Int32) [(Value.int ((p3 &&& (255 : Int32)).toUInt32.toUInt16.toUInt32.toInt32)), (Value.int ((((p3.toUInt32 >>> ((8 : Int32) &&& 31).toUInt32).toInt32) &&& (255 : Int32)).toUInt32.toUInt16.toUInt32.toInt32)), (Value.int ((((p3.toUInt32 >>> ((16 : Int32) &&& 31).toUInt32).toInt32) &&& (255 : Int32)).toUInt32.toUInt16.toUInt32.toInt32)), (Value.int ((((p3.toUInt32 >>> ((24 : Int32) &&& 31).toUInt32).toInt32) &&& (255 : Int32)).toUInt32.toUInt16.toUInt32.toInt32)), (Value.int ((p4 &&& (255 : Int32)).toUInt32.toUInt16.toUInt32.toInt32)), (Value.int ((((p4.toUInt32 >>> ((8 : Int32) &&& 31).toUInt32).toInt32) &&& (255 : Int32)).toUInt32.toUInt16.toUInt32.toInt32)), (Value.int (0 : Int32))] (Value.int (0 : Int32)) := Arv.set Ar197 q197 S197 M197 Hh197 G197 (own_fitC ((own_b255 rfl).2)) W198 5 rfl (Nat.le_of_ble_eq_true rfl)
          refine own_Go.by (fun tq kq => XS.aload X198.here hx rfl (hb hby at_204) rfl rfl kq) ?_
          refine own_Go.by (fun tq kq => XS.bipush X198.here hx rfl (hb hby at_206) kq) ?_
          refine own_Go.by (fun tq kq => XS.iloadN X198.here hx rfl (hb hby at_208) rfl kq) ?_
          show own_Go _ _ _ _ (T198.setTop (mkF m 209 #[sI p1, sI p2, sI p3, sI p4, sI p5, sI (p1 &&& (3 : Int32)), sR ob1, sI ((p5 &&& (2147483647 : Int32)) % (8 : Int32)), sI (0 : Int32), .unset, .unset] [(Value.int p4), (Value.int (6 : Int32)), (Value.ref ob1)]))
          refine own_Go.by (fun tq kq => XS.bipush X198.here hx rfl (hb hby at_209) kq) ?_
          refine own_Go.by (fun tq kq => XS.iushr X198.here hx rfl (hb hby at_211) rfl kq) ?_
          refine own_Go.by (fun tq kq => XS.sipush X198.here hx rfl (hb hby at_212) kq) ?_
          refine own_Go.by (fun tq kq => XS.iand X198.here hx rfl (hb hby at_215) rfl kq) ?_
          show own_Go _ _ _ _ (T198.setTop (mkF m 216 #[sI p1, sI p2, sI p3, sI p4, sI p5, sI (p1 &&& (3 : Int32)), sR ob1, sI ((p5 &&& (2147483647 : Int32)) % (8 : Int32)), sI (0 : Int32), .unset, .unset] [(Value.int (((p4.toUInt32 >>> ((16 : Int32) &&& 31).toUInt32).toInt32) &&& (255 : Int32))), (Value.int (6 : Int32)), (Value.ref ob1)]))
          refine own_Go.by (fun tq kq => XS.i2c X198.here hx rfl (hb hby at_216) rfl kq) ?_
          show own_Go _ _ _ _ (T198.setTop (mkF m 217 #[sI p1, sI p2, sI p3, sI p4, sI p5, sI (p1 &&& (3 : Int32)), sR ob1, sI ((p5 &&& (2147483647 : Int32)) % (8 : Int32)), sI (0 : Int32), .unset, .unset] [(Value.int ((((p4.toUInt32 >>> ((16 : Int32) &&& 31).toUInt32).toInt32) &&& (255 : Int32)).toUInt32.toUInt16.toUInt32.toInt32)), (Value.int (6 : Int32)), (Value.ref ob1)]))
          obtain ⟨cl200, Ar200, q200, S200, M200, Hh200, G200⟩ := id V198
          obtain ⟨T201, h201, X201, e201, W201, st201⟩ := stC X198 hx hZ e198 Ar200 (j := (6 : Int32)) (inb_of S200 ⟨(by decide : ¬ ((6 : Int32) < (0 : Int32))), (by decide : (6 : Int32) < (7 : Int32))⟩) (g := (mkF m 217 #[sI p1, sI p2, sI p3, sI p4, sI p5, sI (p1 &&& (3 : Int32)), sR ob1, sI ((p5 &&& (2147483647 : Int32)) % (8 : Int32)), sI (0 : Int32), .unset, .unset] [(Value.int ((((p4.toUInt32 >>> ((16 : Int32) &&& 31).toUInt32).toInt32) &&& (255 : Int32)).toUInt32.toUInt16.toUInt32.toInt32)), (Value.int (6 : Int32)), (Value.ref ob1)])) rfl rfl (hb hby at_217)
          refine own_Go.by st201 ?_
          have N201 := Fr.snoc X201 N198 g3
          have O202 := O199.wr W201 g3
          have K202 := K199.wr W201 (Or.inr z3)
          rw [show nar .char ((((p4.toUInt32 >>> ((16 : Int32) &&& 31).toUInt32).toInt32) &&& (255 : Int32)).toUInt32.toUInt16.toUInt32.toInt32) = ((((p4.toUInt32 >>> ((16 : Int32) &&& 31).toUInt32).toInt32) &&& (255 : Int32)).toUInt32.toUInt16.toUInt32.toInt32) from (own_b255 rfl).2] at W201
          have V201 : Arv Z h201 ob1 k1 .char (7 : Int32) [(Value.int ((p3 &&& (255 : Int32)).toUInt32.toUInt16.toUInt32.toInt32)), (Value.int ((((p3.toUInt32 >>> ((8 : Int32) &&& 31).toUInt32).toInt32) &&& (255 : Int32)).toUInt32.toUInt16.toUInt32.toInt32)), (Value.int ((((p3.toUInt32 >>> ((16 : Int32) &&& 31).toUInt32).toInt32) &&& (255 : Int32)).toUInt32.toUInt16.toUInt32.toInt32)), (Value.int ((((p3.toUInt32 >>> ((24 : Int32) &&& 31).toUInt32).toInt32) &&& (255 : Int32)).toUInt32.toUInt16.toUInt32.toInt32)), (Value.int ((p4 &&& (255 : Int32)).toUInt32.toUInt16.toUInt32.toInt32)), (Value.int ((((p4.toUInt32 >>> ((8 : Int32) &&& 31).toUInt32).toInt32) &&& (255 : Int32)).toUInt32.toUInt16.toUInt32.toInt32)), (Value.int ((((p4.toUInt32 >>> ((16 : Int32) &&& 31).toUInt32).toInt32) &&& (255 : Int32)).toUInt32.toUInt16.toUInt32.toInt32))] (Value.int (0 : Int32)) := Arv.set Ar200 q200 S200 M200 Hh200 G200 (own_fitC ((own_b255 rfl).2)) W201 6 rfl (Nat.le_of_ble_eq_true rfl)
          refine own_Go.by (fun tq kq => XS.iloadN X201.here hx rfl (hb hby at_218) rfl kq) ?_
          refine own_Go.by (fun tq kq => XS.iconst X201.here hx rfl (hb hby at_219) kq) ?_
          refine own_Go.by (fun tq kq => XS.iushr X201.here hx rfl (hb hby at_220) rfl kq) ?_
          show own_Go _ _ _ _ (T201.setTop (mkF m 221 #[sI p1, sI p2, sI p3, sI p4, sI p5, sI (p1 &&& (3 : Int32)), sR ob1, sI ((p5 &&& (2147483647 : Int32)) % (8 : Int32)), sI (0 : Int32), .unset, .unset] [(Value.int ((p1.toUInt32 >>> ((2 : Int32) &&& 31).toUInt32).toInt32))]))
          refine own_Go.by (fun tq kq => XS.iconst X201.here hx rfl (hb hby at_221) kq) ?_
          refine own_Go.by (fun tq kq => XS.iand X201.here hx rfl (hb hby at_222) rfl kq) ?_
          refine own_Go.by (fun tq kq => XS.iconst X201.here hx rfl (hb hby at_223) kq) ?_
          show own_Go _ _ _ _ (T201.setTop (mkF m 224 #[sI p1, sI p2, sI p3, sI p4, sI p5, sI (p1 &&& (3 : Int32)), sR ob1, sI ((p5 &&& (2147483647 : Int32)) % (8 : Int32)), sI (0 : Int32), .unset, .unset] [(Value.int (3 : Int32)), (Value.int (((p1.toUInt32 >>> ((2 : Int32) &&& 31).toUInt32).toInt32) &&& (3 : Int32)))]))
          by_cases hc224_203 : (((p1.toUInt32 >>> ((2 : Int32) &&& 31).toUInt32).toInt32) &&& (3 : Int32)) = (3 : Int32)
          ·
            refine own_Go.by (fun tq kq => XS.icmpNo X201.here hx rfl (hb hby at_224) rfl (teq hc224_203).2 kq) ?_
            refine own_Go.by (fun tq kq => XS.iconst X201.here hx rfl (hb hby at_227) kq) ?_
            refine own_Go.by (fun tq kq => XS.goto X201.here hx rfl (pc0 := 228) (pc' := 232) rfl (hb hby at_228) (by decide) (by decide) kq) ?_
            refine own_Go.by (fun tq kq => XS.istore X201.here hx rfl (hb hby at_232) rfl (l' := #[sI p1, sI p2, sI p3, sI p4, sI p5, sI (p1 &&& (3 : Int32)), sR ob1, sI ((p5 &&& (2147483647 : Int32)) % (8 : Int32)), sI (1 : Int32), .unset, .unset]) rfl kq) ?_
            show own_Go _ _ _ _ (T201.setTop (mkF m 234 #[sI p1, sI p2, sI p3, sI p4, sI p5, sI (p1 &&& (3 : Int32)), sR ob1, sI ((p5 &&& (2147483647 : Int32)) % (8 : Int32)), sI (1 : Int32), .unset, .unset] []))
            refine own_Go.by (fun tq kq => XS.iload X201.here hx rfl (hb hby at_234) rfl kq) ?_
            refine own_Go.by (fun tq kq => XS.iconst X201.here hx rfl (hb hby at_236) kq) ?_
            show own_Go _ _ _ _ (T201.setTop (mkF m 237 #[sI p1, sI p2, sI p3, sI p4, sI p5, sI (p1 &&& (3 : Int32)), sR ob1, sI ((p5 &&& (2147483647 : Int32)) % (8 : Int32)), sI (1 : Int32), .unset, .unset] [(Value.int (3 : Int32)), (Value.int (p1 &&& (3 : Int32)))]))
            refine own_Go.by (fun tq kq => XS.icmpYes X201.here hx rfl (pc0 := 237) (pc' := 299) rfl (hb hby at_237) rfl (flt (own_k3 hc16_53 hc46_93 hc95_142 : ¬ ((p1 &&& (3 : Int32)) < (3 : Int32)))).2.1 (by decide) (by decide) kq) ?_
            have hok204 : own_ok [(Value.int ((p3 &&& (255 : Int32)).toUInt32.toUInt16.toUInt32.toInt32)), (Value.int ((((p3.toUInt32 >>> ((8 : Int32) &&& 31).toUInt32).toInt32) &&& (255 : Int32)).toUInt32.toUInt16.toUInt32.toInt32)), (Value.int ((((p3.toUInt32 >>> ((16 : Int32) &&& 31).toUInt32).toInt32) &&& (255 : Int32)).toUInt32.toUInt16.toUInt32.toInt32)), (Value.int ((((p3.toUInt32 >>> ((24 : Int32) &&& 31).toUInt32).toInt32) &&& (255 : Int32)).toUInt32.toUInt16.toUInt32.toInt32)), (Value.int ((p4 &&& (255 : Int32)).toUInt32.toUInt16.toUInt32.toInt32)), (Value.int ((((p4.toUInt32 >>> ((8 : Int32) &&& 31).toUInt32).toInt32) &&& (255 : Int32)).toUInt32.toUInt16.toUInt32.toInt32)), (Value.int ((((p4.toUInt32 >>> ((16 : Int32) &&& 31).toUInt32).toInt32) &&& (255 : Int32)).toUInt32.toUInt16.toUInt32.toInt32))] := own_okL [((p3 &&& (255 : Int32)).toUInt32.toUInt16.toUInt32.toInt32), ((((p3.toUInt32 >>> ((8 : Int32) &&& 31).toUInt32).toInt32) &&& (255 : Int32)).toUInt32.toUInt16.toUInt32.toInt32), ((((p3.toUInt32 >>> ((16 : Int32) &&& 31).toUInt32).toInt32) &&& (255 : Int32)).toUInt32.toUInt16.toUInt32.toInt32), ((((p3.toUInt32 >>> ((24 : Int32) &&& 31).toUInt32).toInt32) &&& (255 : Int32)).toUInt32.toUInt16.toUInt32.toInt32), ((p4 &&& (255 : Int32)).toUInt32.toUInt16.toUInt32.toInt32), ((((p4.toUInt32 >>> ((8 : Int32) &&& 31).toUInt32).toInt32) &&& (255 : Int32)).toUInt32.toUInt16.toUInt32.toInt32), ((((p4.toUInt32 >>> ((16 : Int32) &&& 31).toUInt32).toInt32) &&& (255 : Int32)).toUInt32.toUInt16.toUInt32.toInt32)] rfl (by
                intro c hc
                simp only [List.mem_cons, List.not_mem_nil, or_false] at hc
                rcases hc with rfl | rfl | rfl | rfl | rfl | rfl | rfl
                · exact (own_b255 rfl).1
                · exact (own_b255 rfl).1
                · exact (own_b255 rfl).1
                · exact (own_b255 rfl).1
                · exact (own_b255 rfl).1
                · exact (own_b255 rfl).1
                · exact (own_b255 rfl).1)
            exact g_4 (T201, h201, _, [(Value.int ((p3 &&& (255 : Int32)).toUInt32.toUInt16.toUInt32.toInt32)), (Value.int ((((p3.toUInt32 >>> ((8 : Int32) &&& 31).toUInt32).toInt32) &&& (255 : Int32)).toUInt32.toUInt16.toUInt32.toInt32)), (Value.int ((((p3.toUInt32 >>> ((16 : Int32) &&& 31).toUInt32).toInt32) &&& (255 : Int32)).toUInt32.toUInt16.toUInt32.toInt32)), (Value.int ((((p3.toUInt32 >>> ((24 : Int32) &&& 31).toUInt32).toInt32) &&& (255 : Int32)).toUInt32.toUInt16.toUInt32.toInt32)), (Value.int ((p4 &&& (255 : Int32)).toUInt32.toUInt16.toUInt32.toInt32)), (Value.int ((((p4.toUInt32 >>> ((8 : Int32) &&& 31).toUInt32).toInt32) &&& (255 : Int32)).toUInt32.toUInt16.toUInt32.toInt32)), (Value.int ((((p4.toUInt32 >>> ((16 : Int32) &&& 31).toUInt32).toInt32) &&& (255 : Int32)).toUInt32.toUInt16.toUInt32.toInt32))], ((p5 &&& (2147483647 : Int32)) % (8 : Int32)), (1 : Int32)) ⟨X201, e201, O202, K202, N201, V201, hok204⟩
          ·
            refine own_Go.by (fun tq kq => XS.icmpYes X201.here hx rfl (pc0 := 224) (pc' := 231) rfl (hb hby at_224) rfl (feq hc224_203).2 (by decide) (by decide) kq) ?_
            refine own_Go.by (fun tq kq => XS.iconst X201.here hx rfl (hb hby at_231) kq) ?_
            refine own_Go.by (fun tq kq => XS.istore X201.here hx rfl (hb hby at_232) rfl (l' := #[sI p1, sI p2, sI p3, sI p4, sI p5, sI (p1 &&& (3 : Int32)), sR ob1, sI ((p5 &&& (2147483647 : Int32)) % (8 : Int32)), sI (0 : Int32), .unset, .unset]) rfl kq) ?_
            refine own_Go.by (fun tq kq => XS.iload X201.here hx rfl (hb hby at_234) rfl kq) ?_
            show own_Go _ _ _ _ (T201.setTop (mkF m 236 #[sI p1, sI p2, sI p3, sI p4, sI p5, sI (p1 &&& (3 : Int32)), sR ob1, sI ((p5 &&& (2147483647 : Int32)) % (8 : Int32)), sI (0 : Int32), .unset, .unset] [(Value.int (p1 &&& (3 : Int32)))]))
            refine own_Go.by (fun tq kq => XS.iconst X201.here hx rfl (hb hby at_236) kq) ?_
            show own_Go _ _ _ _ (T201.setTop (mkF m 237 #[sI p1, sI p2, sI p3, sI p4, sI p5, sI (p1 &&& (3 : Int32)), sR ob1, sI ((p5 &&& (2147483647 : Int32)) % (8 : Int32)), sI (0 : Int32), .unset, .unset] [(Value.int (3 : Int32)), (Value.int (p1 &&& (3 : Int32)))]))
            refine own_Go.by (fun tq kq => XS.icmpYes X201.here hx rfl (pc0 := 237) (pc' := 299) rfl (hb hby at_237) rfl (flt (own_k3 hc16_53 hc46_93 hc95_142 : ¬ ((p1 &&& (3 : Int32)) < (3 : Int32)))).2.1 (by decide) (by decide) kq) ?_
            have hok205 : own_ok [(Value.int ((p3 &&& (255 : Int32)).toUInt32.toUInt16.toUInt32.toInt32)), (Value.int ((((p3.toUInt32 >>> ((8 : Int32) &&& 31).toUInt32).toInt32) &&& (255 : Int32)).toUInt32.toUInt16.toUInt32.toInt32)), (Value.int ((((p3.toUInt32 >>> ((16 : Int32) &&& 31).toUInt32).toInt32) &&& (255 : Int32)).toUInt32.toUInt16.toUInt32.toInt32)), (Value.int ((((p3.toUInt32 >>> ((24 : Int32) &&& 31).toUInt32).toInt32) &&& (255 : Int32)).toUInt32.toUInt16.toUInt32.toInt32)), (Value.int ((p4 &&& (255 : Int32)).toUInt32.toUInt16.toUInt32.toInt32)), (Value.int ((((p4.toUInt32 >>> ((8 : Int32) &&& 31).toUInt32).toInt32) &&& (255 : Int32)).toUInt32.toUInt16.toUInt32.toInt32)), (Value.int ((((p4.toUInt32 >>> ((16 : Int32) &&& 31).toUInt32).toInt32) &&& (255 : Int32)).toUInt32.toUInt16.toUInt32.toInt32))] := own_okL [((p3 &&& (255 : Int32)).toUInt32.toUInt16.toUInt32.toInt32), ((((p3.toUInt32 >>> ((8 : Int32) &&& 31).toUInt32).toInt32) &&& (255 : Int32)).toUInt32.toUInt16.toUInt32.toInt32), ((((p3.toUInt32 >>> ((16 : Int32) &&& 31).toUInt32).toInt32) &&& (255 : Int32)).toUInt32.toUInt16.toUInt32.toInt32), ((((p3.toUInt32 >>> ((24 : Int32) &&& 31).toUInt32).toInt32) &&& (255 : Int32)).toUInt32.toUInt16.toUInt32.toInt32), ((p4 &&& (255 : Int32)).toUInt32.toUInt16.toUInt32.toInt32), ((((p4.toUInt32 >>> ((8 : Int32) &&& 31).toUInt32).toInt32) &&& (255 : Int32)).toUInt32.toUInt16.toUInt32.toInt32), ((((p4.toUInt32 >>> ((16 : Int32) &&& 31).toUInt32).toInt32) &&& (255 : Int32)).toUInt32.toUInt16.toUInt32.toInt32)] rfl (by
                intro c hc
                simp only [List.mem_cons, List.not_mem_nil, or_false] at hc
                rcases hc with rfl | rfl | rfl | rfl | rfl | rfl | rfl
                · exact (own_b255 rfl).1
                · exact (own_b255 rfl).1
                · exact (own_b255 rfl).1
                · exact (own_b255 rfl).1
                · exact (own_b255 rfl).1
                · exact (own_b255 rfl).1
                · exact (own_b255 rfl).1)
            exact g_4 (T201, h201, _, [(Value.int ((p3 &&& (255 : Int32)).toUInt32.toUInt16.toUInt32.toInt32)), (Value.int ((((p3.toUInt32 >>> ((8 : Int32) &&& 31).toUInt32).toInt32) &&& (255 : Int32)).toUInt32.toUInt16.toUInt32.toInt32)), (Value.int ((((p3.toUInt32 >>> ((16 : Int32) &&& 31).toUInt32).toInt32) &&& (255 : Int32)).toUInt32.toUInt16.toUInt32.toInt32)), (Value.int ((((p3.toUInt32 >>> ((24 : Int32) &&& 31).toUInt32).toInt32) &&& (255 : Int32)).toUInt32.toUInt16.toUInt32.toInt32)), (Value.int ((p4 &&& (255 : Int32)).toUInt32.toUInt16.toUInt32.toInt32)), (Value.int ((((p4.toUInt32 >>> ((8 : Int32) &&& 31).toUInt32).toInt32) &&& (255 : Int32)).toUInt32.toUInt16.toUInt32.toInt32)), (Value.int ((((p4.toUInt32 >>> ((16 : Int32) &&& 31).toUInt32).toInt32) &&& (255 : Int32)).toUInt32.toUInt16.toUInt32.toInt32))], ((p5 &&& (2147483647 : Int32)) % (8 : Int32)), (0 : Int32)) ⟨X201, e201, O202, K202, N201, V201, hok205⟩

theorem own_fldInt {args : Array Value} {s : State} {t : Term} {C n dd : String} {a : Addr} {v : Int32} (ht : t.eval args s none [] s = some (.ref a)) (h : (Jvm.Cond.eq (Term.field t C n dd) (Term.int v)).value args s none s [] = some true) : Fld s s.heap a C n dd (.int v) := by
  refine Fld.start ?_
  obtain ⟨x, y, e1, e2, k1, k2⟩ := cmp_v (Or.inl h)
  obtain rfl : Value.int v = y := Option.some.inj e2
  obtain ⟨z, rfl⟩ := k2
  have q := gotT (Cond.eq_ints e1 e2) h
  subst q
  rw [← fld_at ht]
  exact e1
theorem own_fldRef {args : Array Value} {s : State} {t : Term} {C n dd : String} {a b : Addr} (ht : t.eval args s none [] s = some (.ref a)) (h : (Term.field t C n dd).eval args s none [] s = some (.ref b)) : Fld s s.heap a C n dd (.ref b) := by
  refine Fld.start ?_
  rw [← fld_at ht]
  exact h
theorem own_el {args : Array Value} {s : State} {t : Term} {a : Addr} {cl : Cell} {k v : Int32} (ht : t.eval args s none [] s = some (.ref a)) (hc : s.heap[a]? = some cl) (h : (Jvm.Cond.eq (Term.elem t (Term.int k)) (Term.int v)).value args s none s [] = some true) : cl.slots[k.toNatClampNeg]? = some (.int v) := by
  obtain ⟨x, y, e1, e2, k1, k2⟩ := cmp_v (Or.inl h)
  obtain rfl : Value.int v = y := Option.some.inj e2
  obtain ⟨z, rfl⟩ := k2
  have q := gotT (Cond.eq_ints e1 e2) h
  subst q
  exact (elem_in e1 ht rfl hc).2
theorem own_elR {args : Array Value} {s : State} {t u : Term} {a b : Addr} {cl : Cell} {k : Int32} (ht : t.eval args s none [] s = some (.ref a)) (hu : u.eval args s none [] s = some (.ref b)) (hc : s.heap[a]? = some cl) (h : (Jvm.Cond.eq (Term.elem t (Term.int k)) u).value args s none s [] = some true) : cl.slots[k.toNatClampNeg]? = some (.ref b) :=
  (elem_in (Cond.eq_refs (a := Term.elem t (Term.int k)) (b := u) (by simp [Cond.holds, h]) hu rfl) ht rfl hc).2
theorem own_lenk {args : Array Value} {s : State} {t : Term} {a : Addr} {cl : Cell} {z : Int32} (ht : t.eval args s none [] s = some (.ref a)) (ha : s.arrayAt? a = some cl) (h : (Jvm.Cond.eq (Term.length t) (Term.int z)).value args s none s [] = some true) : cl.slots.size < 2 ^ 31 ∧ cl.slots.size.toInt32 = z := by
  by_cases q : cl.slots.size < 2 ^ 31
  · exact ⟨q, gotT (Cond.eq_ints (len_f ht ha q) rfl) h⟩
  · exfalso
    simp [Cond.value, Term.eval, ht, ha, q] at h

set_option maxRecDepth 65536 in
set_option maxHeartbeats 40000000 in
theorem comes_1 {Post : Tables → Env → Array Value → State → Outcome → State → Prop} (hpost : ∀ tb e args s v u, (limb_1_1.after args s (.returned v) u = true ∧ limb_1_2.after args s (.returned v) u = true ∧ True) → ReturnedEndW s (.returned v) u (Jvm.fieldLocs frame_1_writes args s ++ Jvm.arrayLocs frame_1_arrays args s ++ Jvm.staticLocs frame_1_statics s) 32 4288 → Post tb e args s (.returned v) u) :
    ArmFor flags0 classFile x code maxLocals ret World_1 tables_1 room_1 Calls_1 rest_1 Pre_1 Post := by
  intro l hfl _ _ p e ha hc hk s m args below hf hA hF happ hP
  obtain ⟨hcalls, hrest, hpre⟩ := hP
  obtain ⟨-, -, -, hnamed, -, -, -, hat⟩ := (Spec.applies_iff hf).mp happ
  obtain ⟨hg, hn⟩ := and_e (Cond.before_iff.mp (show (Jvm.Cond.and given_1 narrow_1).before args s = true from hpre))
  obtain ⟨hcount, hg⟩ := and_e hg
  obtain ⟨hg0, hg⟩ := and_e hg
  obtain ⟨hg1, hg⟩ := and_e hg
  obtain ⟨hg2, hg⟩ := and_e hg
  obtain ⟨hg3, hg⟩ := and_e hg
  have hg4 := hg
  obtain ⟨w0, w1, w2, w3, w4, rfl⟩ : ∃ w0 w1 w2 w3 w4 : Value, args = #[w0, w1, w2, w3, w4] := by
    have hs : args.size = 5 := by simpa [Cond.value, given_1] using hcount
    obtain ⟨L⟩ := args
    match L, hs with
    | [w0, w1, w2, w3, w4], _ => exact ⟨w0, w1, w2, w3, w4, rfl⟩
  have hw := fun d (hd : d ∈ tables_1) => atoms_spec (ws := Jvm.Cond.code x code maxLocals ret :: tables_1) hat d (List.mem_cons_of_mem _ hd)
  have hfit : Fit s := fun {y c} hc i hi => by
    obtain ⟨ha, rfl⟩ := Array.getElem?_eq_some_iff.mp hc
    have q := List.all_eq_true.mp ((Array.all_eq_true_iff_forall_mem.mp hF) _ (Array.getElem_mem ha)) i (List.mem_range.mpr hi)
    simpa [Array.getElem?_eq_getElem hi] using q
  obtain ⟨i0, ei0⟩ := is_v hg0
  obtain rfl : w0 = (.int i0) := Option.some.inj ei0
  obtain ⟨i1, ei1⟩ := is_v hg1
  obtain rfl : w1 = (.int i1) := Option.some.inj ei1
  obtain ⟨i2, ei2⟩ := is_v hg2
  obtain rfl : w2 = (.int i2) := Option.some.inj ei2
  obtain ⟨i3, ei3⟩ := is_v hg3
  obtain rfl : w3 = (.int i3) := Option.some.inj ei3
  obtain ⟨i4, ei4⟩ := is_v hg4
  obtain rfl : w4 = (.int i4) := Option.some.inj ei4
  obtain ⟨hsets, hown0⟩ := atoms_of _ (rest_1_c_eq ▸ (show rest_1_c.before _ s = true from hrest))
  have hcs0 := not_v (Cond.before_iff.mp (hsets _ (List.mem_of_getElem? (i := 2) rfl)))
  obtain ⟨zc, ezc⟩ := is_v (Cond.before_iff.mp (hsets _ (List.mem_of_getElem? (i := 1) rfl)))
  have SC : Sta s s.heap "java/lang/String" "COMPACT_STRINGS" "Z" (.int zc) := Sta.start ezc (Or.inl (hsets _ (List.mem_of_getElem? (i := 0) rfl)))
  have hzc : ¬ (zc = (0 : Int32)) := gotF (Cond.eq_ints ezc (Term.int_eval (0))) hcs0
  have hCH : CHv s consts_1 s.vm s.heap := CHv.start (own_hEL hw) (fun q hq => hcalls.1 q hq) (show Jvm.Lit.compactW.before _ s = true from hsets _ (List.mem_of_getElem? (i := 2) rfl)) (hw _ (List.mem_of_getElem? (i := 23) rfl)) (hw _ (List.mem_of_getElem? (i := 6) rfl))
  obtain ⟨hnP, hn⟩ := and_e hn
  obtain ⟨hnVa, hn⟩ := and_e hn
  obtain ⟨hnVx, hn⟩ := and_e hn
  obtain ⟨hnVl, hn⟩ := and_e hn
  obtain ⟨hnV0, hn⟩ := and_e hn
  obtain ⟨hnI, hn⟩ := and_e hn
  obtain ⟨hnV1, hn⟩ := and_e hn
  obtain ⟨hnG, hn⟩ := and_e hn
  obtain ⟨hnV2, hn⟩ := and_e hn
  obtain ⟨hnPu, hn⟩ := and_e hn
  obtain ⟨hnPc, hn⟩ := and_e hn
  obtain ⟨hnPa, hn⟩ := and_e hn
  obtain ⟨hnPl, hn⟩ := and_e hn
  obtain ⟨hnP0, hn⟩ := and_e hn
  obtain ⟨hnP1, hn⟩ := and_e hn
  obtain ⟨hnP2, hn⟩ := and_e hn
  obtain ⟨hnIu, hn⟩ := and_e hn
  obtain ⟨hnIc, hn⟩ := and_e hn
  obtain ⟨hnIa, hn⟩ := and_e hn
  obtain ⟨hnIl, hn⟩ := and_e hn
  obtain ⟨hnGu, hn⟩ := and_e hn
  obtain ⟨hnGc, hn⟩ := and_e hn
  obtain ⟨hnGa, hn⟩ := and_e hn
  obtain ⟨hnGl, hn⟩ := and_e hn
  obtain ⟨hnG0, hn⟩ := and_e hn
  obtain ⟨hnG1, hn⟩ := and_e hn
  obtain ⟨hnG2, hn⟩ := and_e hn
  obtain ⟨hnI0, hn⟩ := and_e hn
  obtain ⟨hnI1, hn⟩ := and_e hn
  obtain ⟨hnI2, hn⟩ := and_e hn
  obtain ⟨hnI3, hn⟩ := and_e hn
  obtain ⟨hnI4, hn⟩ := and_e hn
  have hnI5 := hn
  obtain ⟨aP, eP⟩ := exa_v hnP
  have SP := Sta.start eP (Or.inr ⟨(hw _ (List.mem_of_getElem? (i := 48) rfl)), (hw _ (List.mem_of_getElem? (i := 49) rfl))⟩)
  have EP := Exa.start eP hnP
  obtain ⟨aI, eI⟩ := exa_v hnI
  have SI := Sta.start eI (Or.inr ⟨(hw _ (List.mem_of_getElem? (i := 48) rfl)), (hw _ (List.mem_of_getElem? (i := 65) rfl))⟩)
  have EI := Exa.start eI hnI
  obtain ⟨aG, eG⟩ := exa_v hnG
  have SG := Sta.start eG (Or.inr ⟨(hw _ (List.mem_of_getElem? (i := 48) rfl)), (hw _ (List.mem_of_getElem? (i := 66) rfl))⟩)
  have EG := Exa.start eG hnG
  obtain ⟨aV, eV⟩ := exa_v hnVx
  have SV := Sta.start eV (Or.inr ⟨(hw _ (List.mem_of_getElem? (i := 48) rfl)), (hw _ (List.mem_of_getElem? (i := 57) rfl))⟩)
  have EV := Exa.start eV hnVx
  obtain ⟨clV, ArV⟩ := Arr.start eV hnVa
  obtain ⟨hVs, hVz⟩ := own_lenk eV (ArV.fin (Vm.Alike.refl _)) hnVl
  have VV : Arv s s.heap aV clV.cls (.object "com/example/concordat/concordat/server/Operation$Kind") (3 : Int32) [.ref aP, .ref aI, .ref aG] .null := Arv.start hfit ArV hVs hVz (by decide) rfl ⟨own_elR eV eP ArV.1 hnV0, own_elR eV eI ArV.1 hnV1, own_elR eV eG ArV.1 hnV2, trivial⟩
  obtain ⟨uP, euP⟩ := exa_v hnPu
  have FkP := own_fldRef eP euP
  have EuP := Exa.start euP hnPu
  have FcP := own_fldInt euP hnPc
  obtain ⟨tP, etP⟩ := arr_v hnPa
  have FvP := own_fldRef euP etP
  obtain ⟨clP, ArP⟩ := Arr.start etP hnPa
  obtain ⟨hsP, hzP⟩ := own_lenk etP (ArP.fin (Vm.Alike.refl _)) hnPl
  have VP' : Arv s s.heap tP clP.cls .byte (3 : Int32) [(.int (112 : Int32)), (.int (117 : Int32)), (.int (116 : Int32))] (.int (0 : Int32)) := Arv.start hfit ArP hsP hzP (by decide) rfl ⟨own_el etP ArP.1 hnP0, own_el etP ArP.1 hnP1, own_el etP ArP.1 hnP2, trivial⟩
  obtain ⟨uI, euI⟩ := exa_v hnIu
  have FkI := own_fldRef eI euI
  have EuI := Exa.start euI hnIu
  have FcI := own_fldInt euI hnIc
  obtain ⟨tI, etI⟩ := arr_v hnIa
  have FvI := own_fldRef euI etI
  obtain ⟨clI, ArI⟩ := Arr.start etI hnIa
  obtain ⟨hsI, hzI⟩ := own_lenk etI (ArI.fin (Vm.Alike.refl _)) hnIl
  have VI' : Arv s s.heap tI clI.cls .byte (6 : Int32) [(.int (105 : Int32)), (.int (110 : Int32)), (.int (115 : Int32)), (.int (101 : Int32)), (.int (114 : Int32)), (.int (116 : Int32))] (.int (0 : Int32)) := Arv.start hfit ArI hsI hzI (by decide) rfl ⟨own_el etI ArI.1 hnI0, own_el etI ArI.1 hnI1, own_el etI ArI.1 hnI2, own_el etI ArI.1 hnI3, own_el etI ArI.1 hnI4, own_el etI ArI.1 hnI5, trivial⟩
  obtain ⟨uG, euG⟩ := exa_v hnGu
  have FkG := own_fldRef eG euG
  have EuG := Exa.start euG hnGu
  have FcG := own_fldInt euG hnGc
  obtain ⟨tG, etG⟩ := arr_v hnGa
  have FvG := own_fldRef euG etG
  obtain ⟨clG, ArG⟩ := Arr.start etG hnGa
  obtain ⟨hsG, hzG⟩ := own_lenk etG (ArG.fin (Vm.Alike.refl _)) hnGl
  have VG' : Arv s s.heap tG clG.cls .byte (3 : Int32) [(.int (103 : Int32)), (.int (101 : Int32)), (.int (116 : Int32))] (.int (0 : Int32)) := Arv.start hfit ArG hsG hzG (by decide) rfl ⟨own_el etG ArG.1 hnG0, own_el etG ArG.1 hnG1, own_el etG ArG.1 hnG2, trivial⟩
  obtain ⟨n, o, h1, h2, h3, _, L, rfl, ⟨rfl, N, -⟩, -, hq⟩ := rm0 l s _ hw tables_1 i0 i1 i2 i3 i4 zc aV aP aI aG clV.cls uP tP clP.cls uI tI clI.cls uG tG clG.cls s.heap s.heap.size (Old.start s) SC hzc SP SI SG SV VV EV EP FkP EuP FcP FvP VP' EI FkI EuI FcI FvI VI' EG FkG EuG FcG FvG VG' p e ha hc hk s m _ below hf ((Spec.applies_iff_loose hf).mp happ).1 ⟨rfl, State.Warmed39.refl s, rfl, hCH⟩ trivial
  refine ⟨n, _, h1, h2, h3, hpost _ _ _ _ _ _ ⟨Cond.after_iff.mpr rfl, Cond.after_iff.mpr (eq_i res_at (Term.int_eval (1)) rfl), trivial⟩ ⟨hq.1, hq.2.1, hq.2.2.1, (hq.2.2.2.sift fun y hy => Or.inr (N y hy)).mono (by decide) (by decide)⟩⟩
theorem main_1_1 : Claimed_1_1 := comes_1 fun _ _ _ _ _ _ h hF => ⟨h.1, hF⟩
theorem main_1_2 : Claimed_1_2 := comes_1 fun _ _ _ _ _ _ h hF => ⟨h.2.1, hF⟩
end Jvm.Pilot.@@N@@
namespace Jvm.Pilot.@@N@@
open Jvm Jvm.ClassFile Sem Op Lib Jvm.Free Jvm.Stand Jvm.Pilot.@@N@@.Jvm.D
/-! MADE BY PROGRAM (witnessworld.py) out of the Statement's table words and the real class files: 22 classes; the members and pool entries that the words name. The judged class is class 1, her method 1. -/
namespace start1
open Jvm.ClassFile
def u (s : String) : CpInfo := .utf8 (stringToUtf16 s)
/-- a pool by its gaps: so many unusable entries, then the entry; so many at the end -/
def gap : Nat → List CpInfo → List CpInfo
  | 0, r => r
  | n + 1, r => .unusable :: gap n r
def poolList (es : List (Nat × CpInfo)) (last : Nat) : List CpInfo := es.foldr (fun e r => gap e.1 (e.2 :: r)) (gap last [])
def pool (es : List (Nat × CpInfo)) (last : Nat) : Array CpInfo := ⟨poolList es last⟩
def fileOf (pool : Array CpInfo) (this : Nat) (attrs : Array Attribute := #[]) (ms : Array MethodInfo := #[]) (fl : Nat := 33) (sup : Nat := 0) (ifs : Array Nat := #[]) (fds : Array FieldInfo := #[]) : ClassFile where
  minorVersion := 0
  majorVersion := 65
  constantPool := pool
  accessFlags := fl
  thisClass := this
  superClass := sup
  interfaces := ifs
  fields := fds
  methods := ms
  attributes := attrs
def plain (name : String) (sup : Option ClassId) : Class where
  name := name
  kind := .ordinary
  loader := none
  accessFlags := 33
  super := sup
  interfaces := #[]
  cf := none
  fields := #[]
  methods := #[]
  instanceTypes := #[]
  staticTypes := #[]
  resolved := #[]
  callSites := []
  init := .initialized
  statics := none
  mirror := none

def pool0 : Array CpInfo := pool [(5, u "<init>"), (0, u "()V"), (1, .class_ 10), (1, u "java/lang/Object"), (85, u "clone"), (0, u "()Ljava/lang/Object;")] 26

def k0c0 : Code := { maxStack := 0, maxLocals := 1, code := object_method_1_code, exceptionTable := #[], attributes := #[] }
def k0m0 : Method := { name := "<init>", desc := "()V", sig := { parameters := [], returnType := none }, accessFlags := 1, code := some k0c0 }
def k0m1 : Method := { name := "clone", desc := "()Ljava/lang/Object;", sig := { parameters := [], returnType := some (.object "java/lang/Object") }, accessFlags := 260, code := none }
/-- java/lang/Object -/
def k0 : Class := { plain "java/lang/Object" none with
  accessFlags := 33
  interfaces := #[]
  cf := some (fileOf pool0 8 #[] #[{ accessFlags := 1, nameIndex := 5, descriptorIndex := 6, attributes := #[] }, { accessFlags := 260, nameIndex := 96, descriptorIndex := 97, attributes := #[] }] 33 0 #[] #[])
  fields := #[]
  methods := #[k0m0, k0m1]
  instanceTypes := #[]
  staticTypes := #[]
  resolved := Array.replicate 124 none
  statics := none }

def pool1 : Array CpInfo := pool [(2, .class_ 4), (1, u "java/lang/Object"), (0, u "<init>"), (0, u "()V"), (0, .integer 2147483647), (0, .methodref 9 10), (0, .class_ 11), (0, .nameAndType 12 13), (0, u "com/example/concordat/concordat/server/KindByNamePinLaw"), (0, u "make"), (0, u "([CI)Ljava/lang/String;"), (0, .string 15), (0, u "put"), (0, .methodref 17 18), (0, .class_ 19), (0, .nameAndType 20 21), (0, u "java/lang/String"), (0, u "equals"), (0, u "(Ljava/lang/Object;)Z"), (0, .fieldref 23 24), (0, .class_ 25), (0, .nameAndType 26 27), (0, u "com/example/concordat/concordat/server/Operation$Kind"), (0, u "PUT"), (0, u "Lcom/example/concordat/concordat/server/Operation$Kind;"), (0, .string 29), (0, u "insert"), (0, .fieldref 23 31), (0, .nameAndType 32 27), (0, u "INSERT"), (0, .string 34), (0, u "get"), (0, .fieldref 23 36), (0, .nameAndType 37 27), (0, u "GET"), (0, .methodref 23 39), (0, .nameAndType 40 41), (0, u "byName"), (0, u "(Ljava/lang/String;)Lcom/example/concordat/concordat/server/Operation$Kind;"), (0, .methodref 17 43), (0, .nameAndType 5 44), (0, u "([C)V"), (2, u "law"), (0, u "(IIIII)Z")] 9

def k1m0 : Method := { name := "<init>", desc := "()V", sig := { parameters := [], returnType := none }, accessFlags := 1, code := none }
def k1c1 : Code := { maxStack := 4, maxLocals := 11, code := code, exceptionTable := #[], attributes := #[] }
def k1m1 : Method := { name := "law", desc := "(IIIII)Z", sig := { parameters := [.int, .int, .int, .int, .int], returnType := some .boolean }, accessFlags := 9, code := some k1c1 }
def k1c2 : Code := { maxStack := 7, maxLocals := 2, code := method_3_code, exceptionTable := #[], attributes := #[] }
def k1m2 : Method := { name := "make", desc := "([CI)Ljava/lang/String;", sig := { parameters := [(.array .char), .int], returnType := some (.object "java/lang/String") }, accessFlags := 10, code := some k1c2 }
/-- com/example/concordat/concordat/server/KindByNamePinLaw -/
def k1 : Class := { plain "com/example/concordat/concordat/server/KindByNamePinLaw" (some 0) with
  accessFlags := 49
  interfaces := #[]
  cf := some (fileOf pool1 9 #[] #[{ accessFlags := 1, nameIndex := 5, descriptorIndex := 6, attributes := #[] }, { accessFlags := 9, nameIndex := 47, descriptorIndex := 48, attributes := #[] }, { accessFlags := 10, nameIndex := 12, descriptorIndex := 13, attributes := #[] }] 49 2 #[] #[])
  fields := #[]
  methods := #[k1m0, k1m1, k1m2]
  instanceTypes := #[]
  staticTypes := #[]
  resolved := Array.replicate 58 none
  statics := none }

def pool2 : Array CpInfo := pool [(1, .class_ 2), (0, u "java/io/Serializable"), (0, .class_ 4), (0, u "java/lang/Object")] 2

/-- java/io/Serializable -/
def k2 : Class := { plain "java/io/Serializable" (some 0) with
  accessFlags := 1537
  interfaces := #[]
  cf := some (fileOf pool2 1 #[] #[] 1537 3 #[] #[])
  fields := #[]
  methods := #[]
  instanceTypes := #[]
  staticTypes := #[]
  resolved := Array.replicate 7 none
  statics := none }

def pool3 : Array CpInfo := pool [(1, .class_ 2), (0, u "java/lang/Comparable"), (0, .class_ 4), (0, u "java/lang/Object")] 7

/-- java/lang/Comparable -/
def k3 : Class := { plain "java/lang/Comparable" (some 0) with
  accessFlags := 1537
  interfaces := #[]
  cf := some (fileOf pool3 1 #[] #[] 1537 3 #[] #[])
  fields := #[]
  methods := #[]
  instanceTypes := #[]
  staticTypes := #[]
  resolved := Array.replicate 12 none
  statics := none }

def pool4 : Array CpInfo := pool [(2, .class_ 4), (1, u "java/lang/CharSequence"), (42, .class_ 48), (0, u "java/lang/CharSequence$1CodePointIterator"), (10, .class_ 60), (0, u "java/lang/CharSequence$1CharIterator"), (5, .class_ 67), (0, u "java/lang/Object")] 63

/-- java/lang/CharSequence -/
def k4 : Class := { plain "java/lang/CharSequence" (some 0) with
  accessFlags := 1537
  interfaces := #[]
  cf := some (fileOf pool4 2 #[.nestMembers #[47, 59]] #[] 1537 66 #[] #[])
  fields := #[]
  methods := #[]
  instanceTypes := #[]
  staticTypes := #[]
  resolved := Array.replicate 131 none
  statics := none }

def pool5 : Array CpInfo := pool [(1, .class_ 2), (0, u "java/lang/constant/Constable"), (0, .class_ 4), (0, u "java/lang/Object")] 6

/-- java/lang/constant/Constable -/
def k5 : Class := { plain "java/lang/constant/Constable" (some 0) with
  accessFlags := 1537
  interfaces := #[]
  cf := some (fileOf pool5 1 #[] #[] 1537 3 #[] #[])
  fields := #[]
  methods := #[]
  instanceTypes := #[]
  staticTypes := #[]
  resolved := Array.replicate 11 none
  statics := none }

def pool6 : Array CpInfo := pool [(1, .class_ 2), (0, u "java/lang/constant/ConstantDesc"), (0, .class_ 4), (0, u "java/lang/Object")] 32

/-- java/lang/constant/ConstantDesc -/
def k6 : Class := { plain "java/lang/constant/ConstantDesc" (some 0) with
  accessFlags := 1537
  interfaces := #[]
  cf := some (fileOf pool6 1 #[] #[] 1537 3 #[] #[])
  fields := #[]
  methods := #[]
  instanceTypes := #[]
  staticTypes := #[]
  resolved := Array.replicate 37 none
  statics := none }

def pool7 : Array CpInfo := pool [(1, .methodref 2 3), (0, .class_ 4), (0, .nameAndType 5 6), (0, u "java/lang/Object"), (0, u "<init>"), (0, u "()V"), (0, .string 8), (0, u ""), (0, .fieldref 10 11), (0, .class_ 12), (0, .nameAndType 13 14), (0, u "java/lang/String"), (0, u "value"), (0, u "[B"), (0, .fieldref 10 16), (0, .nameAndType 17 18), (0, u "coder"), (0, u "B"), (2, u "hash"), (0, u "I"), (2, u "hashIsZero"), (0, u "Z"), (0, .methodref 10 28), (0, .nameAndType 5 29), (0, u "([CIILjava/lang/Void;)V"), (8, .fieldref 10 39), (0, .nameAndType 40 26), (0, u "COMPACT_STRINGS"), (1, .class_ 44), (1, u "java/lang/StringUTF16"), (0, u "compress"), (1, .methodref 42 48), (0, .nameAndType 49 50), (0, u "coderFromArrayLen"), (0, u "([BI)B"), (56, .class_ 109), (1, u "java/lang/StringLatin1"), (67, .methodref 42 178), (0, .nameAndType 45 179), (0, u "([CII)[B"), (361, .methodref 107 542), (0, .nameAndType 543 544), (0, u "equals"), (0, u "([B[B)Z"), (28, u "(Ljava/lang/Object;)Z"), (1, .class_ 576), (0, u "java/lang/CharSequence"), (22, u "CASE_INSENSITIVE_ORDER"), (0, u "Ljava/util/Comparator;"), (409, u "([C)V"), (90, u "serialPersistentFields"), (0, u "[Ljava/io/ObjectStreamField;"), (0, .class_ 1104), (0, u "java/lang/String$CaseInsensitiveComparator"), (1, .class_ 1107), (0, u "java/io/Serializable"), (0, .class_ 1109), (0, u "java/lang/Comparable"), (0, .class_ 1111), (0, u "java/lang/constant/Constable"), (0, .class_ 1113), (0, u "java/lang/constant/ConstantDesc"), (2, u "serialVersionUID"), (0, u "J"), (3, u "REPL"), (0, u "C"), (2, u "LATIN1"), (1, u "UTF16")] 323

def k7m0 : Method := { name := "<init>", desc := "()V", sig := { parameters := [], returnType := none }, accessFlags := 1, code := none }
def k7c1 : Code := { maxStack := 5, maxLocals := 2, code := jdk_42_method_3_code, exceptionTable := #[], attributes := #[] }
def k7m1 : Method := { name := "<init>", desc := "([C)V", sig := { parameters := [(.array .char)], returnType := none }, accessFlags := 1, code := some k7c1 }
def k7c2 : Code := { maxStack := 2, maxLocals := 3, code := jdk_42_method_66_code, exceptionTable := #[], attributes := #[] }
def k7m2 : Method := { name := "equals", desc := "(Ljava/lang/Object;)Z", sig := { parameters := [(.object "java/lang/Object")], returnType := some .boolean }, accessFlags := 1, code := some k7c2 }
def k7c3 : Code := { maxStack := 4, maxLocals := 6, code := jdk_42_method_149_code, exceptionTable := #[], attributes := #[] }
def k7m3 : Method := { name := "<init>", desc := "([CIILjava/lang/Void;)V", sig := { parameters := [(.array .char), .int, .int, (.object "java/lang/Void")], returnType := none }, accessFlags := 2, code := some k7c3 }
/-- java/lang/String -/
def k7 : Class := { plain "java/lang/String" (some 0) with
  accessFlags := 49
  interfaces := #[2, 3, 4, 5, 6]
  cf := some (fileOf pool7 10 #[.nestMembers #[1103]] #[{ accessFlags := 1, nameIndex := 5, descriptorIndex := 6, attributes := #[] }, { accessFlags := 1, nameIndex := 5, descriptorIndex := 1010, attributes := #[] }, { accessFlags := 1, nameIndex := 543, descriptorIndex := 573, attributes := #[] }, { accessFlags := 2, nameIndex := 5, descriptorIndex := 29, attributes := #[] }] 49 2 #[1106, 1108, 575, 1110, 1112] #[{ accessFlags := 18, nameIndex := 13, descriptorIndex := 14, attributes := #[] }, { accessFlags := 18, nameIndex := 17, descriptorIndex := 18, attributes := #[] }, { accessFlags := 2, nameIndex := 21, descriptorIndex := 22, attributes := #[] }, { accessFlags := 2, nameIndex := 25, descriptorIndex := 26, attributes := #[] }, { accessFlags := 26, nameIndex := 1116, descriptorIndex := 1117, attributes := #[] }, { accessFlags := 24, nameIndex := 40, descriptorIndex := 26, attributes := #[] }, { accessFlags := 26, nameIndex := 1101, descriptorIndex := 1102, attributes := #[] }, { accessFlags := 26, nameIndex := 1121, descriptorIndex := 1122, attributes := #[] }, { accessFlags := 25, nameIndex := 599, descriptorIndex := 600, attributes := #[] }, { accessFlags := 24, nameIndex := 1125, descriptorIndex := 18, attributes := #[] }, { accessFlags := 24, nameIndex := 1127, descriptorIndex := 18, attributes := #[] }])
  fields := #[{ name := "value", type := (.array .byte), accessFlags := 18, slot := 0, constantValue := 0 }, { name := "coder", type := .byte, accessFlags := 18, slot := 1, constantValue := 0 }, { name := "hash", type := .int, accessFlags := 2, slot := 2, constantValue := 0 }, { name := "hashIsZero", type := .boolean, accessFlags := 2, slot := 3, constantValue := 0 }, { name := "serialVersionUID", type := .long, accessFlags := 26, slot := 0, constantValue := 0 }, { name := "COMPACT_STRINGS", type := .boolean, accessFlags := 24, slot := 1, constantValue := 0 }, { name := "serialPersistentFields", type := (.array (.object "java/io/ObjectStreamField")), accessFlags := 26, slot := 2, constantValue := 0 }, { name := "REPL", type := .char, accessFlags := 26, slot := 3, constantValue := 0 }, { name := "CASE_INSENSITIVE_ORDER", type := (.object "java/util/Comparator"), accessFlags := 25, slot := 4, constantValue := 0 }, { name := "LATIN1", type := .byte, accessFlags := 24, slot := 5, constantValue := 0 }, { name := "UTF16", type := .byte, accessFlags := 24, slot := 6, constantValue := 0 }]
  methods := #[k7m0, k7m1, k7m2, k7m3]
  instanceTypes := #[(.array .byte), .byte, .int, .boolean]
  staticTypes := #[.long, .boolean, (.array (.object "java/io/ObjectStreamField")), .char, (.object "java/util/Comparator"), .byte, .byte]
  resolved := Array.replicate 1451 none
  statics := some 0 }

def pool8 : Array CpInfo := pool [(6, .class_ 8), (1, u "java/lang/Object"), (0, u "<init>"), (0, u "()V"), (1, .class_ 14), (1, u "java/lang/StringUTF16"), (31, u "$assertionsDisabled"), (0, u "Z"), (13, u "HI_BYTE_SHIFT"), (0, u "I"), (2, u "LO_BYTE_SHIFT"), (49, .methodref 12 116), (0, .nameAndType 117 118), (0, u "compress"), (0, u "([CI[BII)I"), (3, u "([CII)[B"), (138, u "coderFromArrayLen"), (0, u "([BI)B"), (106, .class_ 371), (1, u "java/lang/StringUTF16$LinesSpliterator"), (58, u "MAX_LENGTH"), (196, .class_ 628), (0, u "java/lang/StringUTF16$CodePointsSpliterator"), (0, .class_ 630), (0, u "java/lang/StringUTF16$CharsSpliterator")] 4

def k8m0 : Method := { name := "<init>", desc := "()V", sig := { parameters := [], returnType := none }, accessFlags := 0, code := none }
def k8c1 : Code := { maxStack := 2, maxLocals := 2, code := jdk_52_method_15_code, exceptionTable := #[], attributes := #[] }
def k8m1 : Method := { name := "coderFromArrayLen", desc := "([BI)B", sig := { parameters := [(.array .byte), .int], returnType := some .byte }, accessFlags := 8, code := some k8c1 }
def k8c2 : Code := { maxStack := 5, maxLocals := 6, code := jdk_52_method_16_code, exceptionTable := #[], attributes := #[] }
def k8m2 : Method := { name := "compress", desc := "([CII)[B", sig := { parameters := [(.array .char), .int, .int], returnType := some (.array .byte) }, accessFlags := 9, code := some k8c2 }
def k8c3 : Code := { maxStack := 3, maxLocals := 7, code := jdk_52_method_21_code, exceptionTable := #[], attributes := #[] }
def k8m3 : Method := { name := "compress", desc := "([CI[BII)I", sig := { parameters := [(.array .char), .int, (.array .byte), .int, .int], returnType := some .int }, accessFlags := 9, code := some k8c3 }
/-- java/lang/StringUTF16 -/
def k8 : Class := { plain "java/lang/StringUTF16" (some 0) with
  accessFlags := 48
  interfaces := #[]
  cf := some (fileOf pool8 12 #[.nestMembers #[627, 629, 369]] #[{ accessFlags := 0, nameIndex := 9, descriptorIndex := 10, attributes := #[] }, { accessFlags := 8, nameIndex := 261, descriptorIndex := 262, attributes := #[] }, { accessFlags := 9, nameIndex := 117, descriptorIndex := 122, attributes := #[] }, { accessFlags := 9, nameIndex := 117, descriptorIndex := 118, attributes := #[] }] 48 6 #[] #[{ accessFlags := 26, nameIndex := 61, descriptorIndex := 62, attributes := #[] }, { accessFlags := 26, nameIndex := 65, descriptorIndex := 62, attributes := #[] }, { accessFlags := 24, nameIndex := 430, descriptorIndex := 62, attributes := #[] }, { accessFlags := 4120, nameIndex := 46, descriptorIndex := 47, attributes := #[] }])
  fields := #[{ name := "HI_BYTE_SHIFT", type := .int, accessFlags := 26, slot := 0, constantValue := 0 }, { name := "LO_BYTE_SHIFT", type := .int, accessFlags := 26, slot := 1, constantValue := 0 }, { name := "MAX_LENGTH", type := .int, accessFlags := 24, slot := 2, constantValue := 0 }, { name := "$assertionsDisabled", type := .boolean, accessFlags := 4120, slot := 3, constantValue := 0 }]
  methods := #[k8m0, k8m1, k8m2, k8m3]
  instanceTypes := #[]
  staticTypes := #[.int, .int, .int, .boolean]
  resolved := Array.replicate 635 none
  statics := none }

def pool9 : Array CpInfo := pool [(4, .class_ 6), (1, u "java/lang/Object"), (0, u "<init>"), (0, u "()V"), (5, .class_ 16), (1, u "java/lang/StringLatin1"), (104, u "$assertionsDisabled"), (0, u "Z"), (98, .class_ 223), (1, u "java/lang/StringLatin1$LinesSpliterator"), (57, u "equals"), (0, u "([B[B)Z"), (107, .class_ 391), (0, u "java/lang/StringLatin1$CharsSpliterator")] 3

def k9m0 : Method := { name := "<init>", desc := "()V", sig := { parameters := [], returnType := none }, accessFlags := 0, code := none }
def k9c1 : Code := { maxStack := 3, maxLocals := 3, code := jdk_43_method_13_code, exceptionTable := #[], attributes := #[] }
def k9m1 : Method := { name := "equals", desc := "([B[B)Z", sig := { parameters := [(.array .byte), (.array .byte)], returnType := some .boolean }, accessFlags := 9, code := some k9c1 }
/-- java/lang/StringLatin1 -/
def k9 : Class := { plain "java/lang/StringLatin1" (some 0) with
  accessFlags := 48
  interfaces := #[]
  cf := some (fileOf pool9 14 #[.nestMembers #[390, 221]] #[{ accessFlags := 0, nameIndex := 7, descriptorIndex := 8, attributes := #[] }, { accessFlags := 9, nameIndex := 281, descriptorIndex := 282, attributes := #[] }] 48 4 #[] #[{ accessFlags := 4120, nameIndex := 121, descriptorIndex := 122, attributes := #[] }])
  fields := #[{ name := "$assertionsDisabled", type := .boolean, accessFlags := 4120, slot := 0, constantValue := 0 }]
  methods := #[k9m0, k9m1]
  instanceTypes := #[]
  staticTypes := #[.boolean]
  resolved := Array.replicate 395 none
  statics := none }

def pool10 : Array CpInfo := pool [(2, .class_ 4), (1, u "java/lang/Enum"), (0, u "name"), (0, u "Ljava/lang/String;"), (2, u "ordinal"), (0, u "I"), (1, .class_ 14), (1, u "java/lang/Object"), (4, u "hash"), (86, .class_ 108), (1, u "java/lang/Enum$EnumDesc"), (2, .class_ 112), (0, u "java/lang/constant/Constable"), (0, .class_ 114), (0, u "java/lang/Comparable"), (0, .class_ 116), (0, u "java/io/Serializable")] 87

/-- java/lang/Enum -/
def k10 : Class := { plain "java/lang/Enum" (some 0) with
  accessFlags := 1057
  interfaces := #[5, 3, 2]
  cf := some (fileOf pool10 2 #[.nestMembers #[106]] #[] 1057 12 #[111, 113, 115] #[{ accessFlags := 18, nameIndex := 5, descriptorIndex := 6, attributes := #[] }, { accessFlags := 18, nameIndex := 9, descriptorIndex := 10, attributes := #[] }, { accessFlags := 2, nameIndex := 19, descriptorIndex := 10, attributes := #[] }])
  fields := #[{ name := "name", type := (.object "java/lang/String"), accessFlags := 18, slot := 0, constantValue := 0 }, { name := "ordinal", type := .int, accessFlags := 18, slot := 1, constantValue := 0 }, { name := "hash", type := .int, accessFlags := 2, slot := 2, constantValue := 0 }]
  methods := #[]
  instanceTypes := #[(.object "java/lang/String"), .int, .int]
  staticTypes := #[]
  resolved := Array.replicate 204 none
  statics := none }

def pool11 : Array CpInfo := pool [(1, .class_ 2), (0, u "com/example/concordat/concordat/server/Operation$Kind"), (2, u "PUT"), (0, u "Lcom/example/concordat/concordat/server/Operation$Kind;"), (2, u "INSERT"), (2, u "GET"), (0, .fieldref 1 14), (0, .nameAndType 15 16), (0, u "$VALUES"), (0, u "[Lcom/example/concordat/concordat/server/Operation$Kind;"), (0, .methodref 18 19), (0, .class_ 16), (0, .nameAndType 20 21), (0, u "clone"), (0, u "()Ljava/lang/Object;"), (1, .class_ 25), (1, u "java/lang/Enum"), (6, .fieldref 1 33), (0, .nameAndType 34 35), (0, u "kindName"), (0, u "Ljava/lang/String;"), (0, .methodref 1 37), (0, .nameAndType 38 39), (0, u "values"), (0, u "()[Lcom/example/concordat/concordat/server/Operation$Kind;"), (0, .methodref 41 42), (0, .class_ 43), (0, .nameAndType 44 45), (0, u "java/lang/String"), (0, u "equals"), (0, u "(Ljava/lang/Object;)Z"), (17, u "(Ljava/lang/String;)Lcom/example/concordat/concordat/server/Operation$Kind;"), (3, u "byName"), (7, .class_ 76), (0, u "com/example/concordat/concordat/server/Operation")] 2

def k11c0 : Code := { maxStack := 1, maxLocals := 0, code := prog_48_method_1_code, exceptionTable := #[], attributes := #[] }
def k11m0 : Method := { name := "values", desc := "()[Lcom/example/concordat/concordat/server/Operation$Kind;", sig := { parameters := [], returnType := some (.array (.object "com/example/concordat/concordat/server/Operation$Kind")) }, accessFlags := 9, code := some k11c0 }
def k11c1 : Code := { maxStack := 2, maxLocals := 5, code := prog_48_method_4_code, exceptionTable := #[], attributes := #[] }
def k11m1 : Method := { name := "byName", desc := "(Ljava/lang/String;)Lcom/example/concordat/concordat/server/Operation$Kind;", sig := { parameters := [(.object "java/lang/String")], returnType := some (.object "com/example/concordat/concordat/server/Operation$Kind") }, accessFlags := 8, code := some k11c1 }
/-- com/example/concordat/concordat/server/Operation$Kind -/
def k11 : Class := { plain "com/example/concordat/concordat/server/Operation$Kind" (some 10) with
  accessFlags := 16432
  interfaces := #[]
  cf := some (fileOf pool11 1 #[.nestHost 75] #[{ accessFlags := 9, nameIndex := 38, descriptorIndex := 39, attributes := #[] }, { accessFlags := 8, nameIndex := 67, descriptorIndex := 63, attributes := #[] }] 16432 23 #[] #[{ accessFlags := 16409, nameIndex := 5, descriptorIndex := 6, attributes := #[] }, { accessFlags := 16409, nameIndex := 9, descriptorIndex := 6, attributes := #[] }, { accessFlags := 16409, nameIndex := 12, descriptorIndex := 6, attributes := #[] }, { accessFlags := 18, nameIndex := 34, descriptorIndex := 35, attributes := #[] }, { accessFlags := 4122, nameIndex := 15, descriptorIndex := 16, attributes := #[] }])
  fields := #[{ name := "PUT", type := (.object "com/example/concordat/concordat/server/Operation$Kind"), accessFlags := 16409, slot := 0, constantValue := 0 }, { name := "INSERT", type := (.object "com/example/concordat/concordat/server/Operation$Kind"), accessFlags := 16409, slot := 1, constantValue := 0 }, { name := "GET", type := (.object "com/example/concordat/concordat/server/Operation$Kind"), accessFlags := 16409, slot := 2, constantValue := 0 }, { name := "kindName", type := (.object "java/lang/String"), accessFlags := 18, slot := 3, constantValue := 0 }, { name := "$VALUES", type := (.array (.object "com/example/concordat/concordat/server/Operation$Kind")), accessFlags := 4122, slot := 3, constantValue := 0 }]
  methods := #[k11m0, k11m1]
  instanceTypes := #[(.object "java/lang/String"), .int, .int, (.object "java/lang/String")]
  staticTypes := #[(.object "com/example/concordat/concordat/server/Operation$Kind"), (.object "com/example/concordat/concordat/server/Operation$Kind"), (.object "com/example/concordat/concordat/server/Operation$Kind"), (.array (.object "com/example/concordat/concordat/server/Operation$Kind"))]
  resolved := Array.replicate 79 none
  statics := some 1 }

def pool12 : Array CpInfo := pool [(1, .class_ 2), (0, u "java/lang/Cloneable"), (0, .class_ 4), (0, u "java/lang/Object")] 2

/-- java/lang/Cloneable -/
def k12 : Class := { plain "java/lang/Cloneable" (some 0) with
  accessFlags := 1537
  interfaces := #[]
  cf := some (fileOf pool12 1 #[] #[] 1537 3 #[] #[])
  fields := #[]
  methods := #[]
  instanceTypes := #[]
  staticTypes := #[]
  resolved := Array.replicate 7 none
  statics := none }

def pool13 : Array CpInfo := pool [(2, .class_ 4), (1, u "java/lang/Object"), (0, u "<init>"), (0, u "()V"), (17, .class_ 26), (1, u "jdk/internal/util/Preconditions"), (28, .class_ 56), (0, u "jdk/internal/util/Preconditions$4"), (57, .class_ 115), (0, u "jdk/internal/util/Preconditions$1"), (7, u "SIOOBE_FORMATTER"), (0, u "Ljava/util/function/BiFunction;"), (0, .class_ 126), (0, u "jdk/internal/util/Preconditions$2"), (3, u "AIOOBE_FORMATTER"), (0, .class_ 132), (0, u "jdk/internal/util/Preconditions$3"), (3, u "IOOBE_FORMATTER")] 57

def k13m0 : Method := { name := "<init>", desc := "()V", sig := { parameters := [], returnType := none }, accessFlags := 1, code := none }
/-- jdk/internal/util/Preconditions -/
def k13 : Class := { plain "jdk/internal/util/Preconditions" (some 0) with
  accessFlags := 33
  interfaces := #[]
  cf := some (fileOf pool13 24 #[.nestMembers #[55, 131, 125, 114]] #[{ accessFlags := 1, nameIndex := 5, descriptorIndex := 6, attributes := #[] }] 33 2 #[] #[{ accessFlags := 25, nameIndex := 123, descriptorIndex := 124, attributes := #[] }, { accessFlags := 25, nameIndex := 130, descriptorIndex := 124, attributes := #[] }, { accessFlags := 25, nameIndex := 136, descriptorIndex := 124, attributes := #[] }])
  fields := #[{ name := "SIOOBE_FORMATTER", type := (.object "java/util/function/BiFunction"), accessFlags := 25, slot := 0, constantValue := 0 }, { name := "AIOOBE_FORMATTER", type := (.object "java/util/function/BiFunction"), accessFlags := 25, slot := 1, constantValue := 0 }, { name := "IOOBE_FORMATTER", type := (.object "java/util/function/BiFunction"), accessFlags := 25, slot := 2, constantValue := 0 }]
  methods := #[k13m0]
  instanceTypes := #[]
  staticTypes := #[(.object "java/util/function/BiFunction"), (.object "java/util/function/BiFunction"), (.object "java/util/function/BiFunction")]
  resolved := Array.replicate 194 none
  statics := some 2 }

def pool14 : Array CpInfo := pool [(9, u "<init>"), (6, .class_ 18), (1, u "java/lang/Object"), (0, u "()V"), (1, .class_ 23), (1, u "jdk/internal/util/ArraysSupport"), (0, u "LOG2_ARRAY_LONG_INDEX_SCALE"), (0, u "I"), (2, u "U"), (0, u "Ljdk/internal/misc/Unsafe;"), (8, u "BIG_ENDIAN"), (0, u "Z"), (8, u "LOG2_BYTE_BIT_SIZE"), (4, u "LOG2_ARRAY_INT_INDEX_SCALE"), (54, u "JLA"), (0, u "Ljdk/internal/access/JavaLangAccess;"), (11, u "LOG2_ARRAY_BOOLEAN_INDEX_SCALE"), (9, u "LOG2_ARRAY_BYTE_INDEX_SCALE"), (5, u "LOG2_ARRAY_CHAR_INDEX_SCALE"), (5, u "LOG2_ARRAY_SHORT_INDEX_SCALE"), (18, u "LOG2_ARRAY_FLOAT_INDEX_SCALE"), (24, u "LOG2_ARRAY_DOUBLE_INDEX_SCALE"), (89, u "T_BOOLEAN"), (2, u "T_CHAR"), (1, u "T_FLOAT"), (1, u "T_DOUBLE"), (1, u "T_BYTE"), (1, u "T_SHORT"), (1, u "T_INT"), (1, u "T_LONG"), (1, u "SOFT_MAX_ARRAY_LENGTH")] 83

def k14m0 : Method := { name := "<init>", desc := "()V", sig := { parameters := [], returnType := none }, accessFlags := 2, code := none }
/-- jdk/internal/util/ArraysSupport -/
def k14 : Class := { plain "jdk/internal/util/ArraysSupport" (some 0) with
  accessFlags := 33
  interfaces := #[]
  cf := some (fileOf pool14 21 #[] #[{ accessFlags := 2, nameIndex := 9, descriptorIndex := 19, attributes := #[] }] 33 16 #[] #[{ accessFlags := 24, nameIndex := 28, descriptorIndex := 29, attributes := #[] }, { accessFlags := 26, nameIndex := 38, descriptorIndex := 39, attributes := #[] }, { accessFlags := 25, nameIndex := 121, descriptorIndex := 25, attributes := #[] }, { accessFlags := 25, nameIndex := 131, descriptorIndex := 25, attributes := #[] }, { accessFlags := 25, nameIndex := 137, descriptorIndex := 25, attributes := #[] }, { accessFlags := 25, nameIndex := 143, descriptorIndex := 25, attributes := #[] }, { accessFlags := 25, nameIndex := 53, descriptorIndex := 25, attributes := #[] }, { accessFlags := 25, nameIndex := 24, descriptorIndex := 25, attributes := #[] }, { accessFlags := 25, nameIndex := 162, descriptorIndex := 25, attributes := #[] }, { accessFlags := 25, nameIndex := 187, descriptorIndex := 25, attributes := #[] }, { accessFlags := 26, nameIndex := 48, descriptorIndex := 25, attributes := #[] }, { accessFlags := 25, nameIndex := 277, descriptorIndex := 25, attributes := #[] }, { accessFlags := 25, nameIndex := 280, descriptorIndex := 25, attributes := #[] }, { accessFlags := 25, nameIndex := 282, descriptorIndex := 25, attributes := #[] }, { accessFlags := 25, nameIndex := 284, descriptorIndex := 25, attributes := #[] }, { accessFlags := 25, nameIndex := 286, descriptorIndex := 25, attributes := #[] }, { accessFlags := 25, nameIndex := 288, descriptorIndex := 25, attributes := #[] }, { accessFlags := 25, nameIndex := 290, descriptorIndex := 25, attributes := #[] }, { accessFlags := 25, nameIndex := 292, descriptorIndex := 25, attributes := #[] }, { accessFlags := 26, nameIndex := 108, descriptorIndex := 109, attributes := #[] }, { accessFlags := 25, nameIndex := 294, descriptorIndex := 25, attributes := #[] }])
  fields := #[{ name := "U", type := (.object "jdk/internal/misc/Unsafe"), accessFlags := 24, slot := 0, constantValue := 0 }, { name := "BIG_ENDIAN", type := .boolean, accessFlags := 26, slot := 1, constantValue := 0 }, { name := "LOG2_ARRAY_BOOLEAN_INDEX_SCALE", type := .int, accessFlags := 25, slot := 2, constantValue := 0 }, { name := "LOG2_ARRAY_BYTE_INDEX_SCALE", type := .int, accessFlags := 25, slot := 3, constantValue := 0 }, { name := "LOG2_ARRAY_CHAR_INDEX_SCALE", type := .int, accessFlags := 25, slot := 4, constantValue := 0 }, { name := "LOG2_ARRAY_SHORT_INDEX_SCALE", type := .int, accessFlags := 25, slot := 5, constantValue := 0 }, { name := "LOG2_ARRAY_INT_INDEX_SCALE", type := .int, accessFlags := 25, slot := 6, constantValue := 0 }, { name := "LOG2_ARRAY_LONG_INDEX_SCALE", type := .int, accessFlags := 25, slot := 7, constantValue := 0 }, { name := "LOG2_ARRAY_FLOAT_INDEX_SCALE", type := .int, accessFlags := 25, slot := 8, constantValue := 0 }, { name := "LOG2_ARRAY_DOUBLE_INDEX_SCALE", type := .int, accessFlags := 25, slot := 9, constantValue := 0 }, { name := "LOG2_BYTE_BIT_SIZE", type := .int, accessFlags := 26, slot := 10, constantValue := 0 }, { name := "T_BOOLEAN", type := .int, accessFlags := 25, slot := 11, constantValue := 0 }, { name := "T_CHAR", type := .int, accessFlags := 25, slot := 12, constantValue := 0 }, { name := "T_FLOAT", type := .int, accessFlags := 25, slot := 13, constantValue := 0 }, { name := "T_DOUBLE", type := .int, accessFlags := 25, slot := 14, constantValue := 0 }, { name := "T_BYTE", type := .int, accessFlags := 25, slot := 15, constantValue := 0 }, { name := "T_SHORT", type := .int, accessFlags := 25, slot := 16, constantValue := 0 }, { name := "T_INT", type := .int, accessFlags := 25, slot := 17, constantValue := 0 }, { name := "T_LONG", type := .int, accessFlags := 25, slot := 18, constantValue := 0 }, { name := "JLA", type := (.object "jdk/internal/access/JavaLangAccess"), accessFlags := 26, slot := 19, constantValue := 0 }, { name := "SOFT_MAX_ARRAY_LENGTH", type := .int, accessFlags := 25, slot := 20, constantValue := 0 }]
  methods := #[k14m0]
  instanceTypes := #[]
  staticTypes := #[(.object "jdk/internal/misc/Unsafe"), .boolean, .int, .int, .int, .int, .int, .int, .int, .int, .int, .int, .int, .int, .int, .int, .int, .int, .int, (.object "jdk/internal/access/JavaLangAccess"), .int]
  resolved := Array.replicate 378 none
  statics := none }

/-- the primitive byte -/
def k15 : Class := { plain "byte" none with kind := .primitive 'B', accessFlags := 0x411 }
/-- [B -/
def k16 : Class := { plain "[B" (some 0) with kind := .array 15 .byte, interfaces := #[12, 2], accessFlags := 1041 }

/-- the primitive char -/
def k17 : Class := { plain "char" none with kind := .primitive 'C', accessFlags := 0x411 }
/-- [C -/
def k18 : Class := { plain "[C" (some 0) with kind := .array 17 .char, interfaces := #[12, 2], accessFlags := 1041 }

/-- the primitive int -/
def k19 : Class := { plain "int" none with kind := .primitive 'I', accessFlags := 0x411 }
/-- [I -/
def k20 : Class := { plain "[I" (some 0) with kind := .array 19 .int, interfaces := #[12, 2], accessFlags := 1041 }

/-- [Lcom/example/concordat/concordat/server/Operation$Kind; -/
def k21 : Class := { plain "[Lcom/example/concordat/concordat/server/Operation$Kind;" (some 0) with kind := .array 11 (.object "com/example/concordat/concordat/server/Operation$Kind"), interfaces := #[12, 2], accessFlags := 1041 }

def heap : Heap := #[{ cls := 7, slots := #[.long 0, .int 1, .null, .int 0, .null, .int 0, .int 0], vm := .statics 7 },
  { cls := 11, slots := #[.ref 4, .ref 5, .ref 6, .ref 3], vm := .statics 11 },
  { cls := 13, slots := #[.null, .null, .null], vm := .statics 13 },
  { cls := 21, slots := #[.ref 4, .ref 5, .ref 6], vm := .none },
  { cls := 11, slots := #[.null, .int 0, .int 0, .ref 7], vm := .none },
  { cls := 11, slots := #[.null, .int 1, .int 0, .ref 8], vm := .none },
  { cls := 11, slots := #[.null, .int 2, .int 0, .ref 9], vm := .none },
  { cls := 7, slots := #[.ref 10, .int 0, .int 0, .int 0], vm := .none },
  { cls := 7, slots := #[.ref 11, .int 0, .int 0, .int 0], vm := .none },
  { cls := 7, slots := #[.ref 12, .int 0, .int 0, .int 0], vm := .none },
  { cls := 16, slots := #[.int 112, .int 117, .int 116], vm := .none },
  { cls := 16, slots := #[.int 105, .int 110, .int 115, .int 101, .int 114, .int 116], vm := .none },
  { cls := 16, slots := #[.int 103, .int 101, .int 116], vm := .none }]
def classes : Array Class := #[k0, k1, k2, k3, k4, k5, k6, k7, k8, k9, k10, k11, k12, k13, k14, k15, k16, k17, k18, k19, k20, k21]
def interned : List (Array UInt16 × Addr) := []
def slotsUsed : Nat := 53
def theMethod : MethodId := ⟨1, 1⟩
def args0 : Array Value := #[.int 5, .int 5, .int 5, .int 5, .int 5]
def aboutOver (below : List Frame) : State where
  vm := { classes := classes, interned := interned.toArray }
  heap := heap
  slotsUsed := slotsUsed
  threads := #[{ frames := .invoking theMethod args0 :: below }]
def below0 : List Frame := [.native { method := ⟨0, 0⟩, args := #[] }]
def about1 : State := aboutOver below0
def p0 : Program := .bare "" "" ""
def e0 : Env := launch0.env 0 0 0
theorem w_frames : about1.frames = Frame.invoking theMethod args0 :: below0 := rfl
set_option maxRecDepth 65536 in
theorem w_args : argsFit about1.vm theMethod args0 = true := by decide +kernel
set_option maxRecDepth 65536 in
theorem w_heap : heapFits about1 = true := by decide +kernel
set_option maxRecDepth 65536 in
theorem w_runnable : about1.curStatus? = some .runnable := by decide +kernel
set_option maxRecDepth 65536 in
theorem w_alone : about1.alone = true := by decide +kernel
set_option maxRecDepth 65536 in
theorem w_named : about1.methodNamed? x = some theMethod := by decide +kernel
set_option maxRecDepth 65536 in
theorem w_hears : about1.hears theMethod below0 = true := by decide +kernel
set_option maxRecDepth 65536 in
theorem w_ripe : about1.ripe theMethod args0 below0 = true := by decide +kernel
theorem w_running : about1.status = .running := rfl
set_option maxRecDepth 65536 in
theorem w_room : about1.hasRoom e0.platform room_1 = true :=
  launch0.hasRoom_least _ room_1 (by decide +kernel) (by decide +kernel) (by decide +kernel) (by decide +kernel) (by decide +kernel) (by decide +kernel)
theorem allAtoms_all (ts : List Jvm.Cond) (a : Array Jvm.Value) (st : Jvm.State) : (allAtoms ts).before a st = ts.all (fun c => c.before a st) := by
  induction ts with
  | nil => rfl
  | cons c t ih =>
    show (Jvm.Cond.and c (allAtoms t)).before a st = _
    rw [Jvm.Cond.before_and, ih, List.all_cons]
def words1 : List Jvm.Cond := Jvm.Cond.code x code maxLocals ret :: tables_1
/-- a 'code' word, met by the world's own term for the bytes: nothing is compared byte by byte -/
theorem code_word {y : MethodName} {bytes : ByteArray} {mx : Nat} {rt : Option FieldType} {a : Array Value} {s : State} {m : MethodId} {meth : Method} {c : Code} (h1 : s.methodNamed? y = some m) (h2 : s.vm.method? m = some meth) (h3 : meth.code = some c) (h4 : c.code = bytes)
    (h5 : (c.maxLocals == mx && c.exceptionTable.isEmpty && decide (c.maxStack ≤ mostOperands) && decide (meth.sig.returnType = rt) && !meth.locks && decide (parseMethodDescriptor y.desc = some meth.sig)) = true) : (Jvm.Cond.code y bytes mx rt).before a s = true := by
  simp only [Bool.and_eq_true, beq_iff_eq, Bool.not_eq_true', decide_eq_true_eq] at h5
  obtain ⟨⟨⟨⟨⟨g1, g2⟩, g3⟩, g4⟩, g5⟩, g6⟩ := h5
  simp [Cond.before, Cond.holds, Cond.value, h1, h2, h3, h4, g1, g2, g3, g4, g5, g6]
def isCode : Jvm.Cond → Bool
  | .code _ _ _ _ => true
  | _ => false
theorem all_split {L : List Jvm.Cond} {P : Jvm.Cond → Bool} (h1 : L.all (fun c => isCode c || P c) = true) (h2 : ∀ c ∈ L.filter isCode, P c = true) : L.all P = true := by
  refine List.all_eq_true.mpr fun c hc => ?_
  have h := List.all_eq_true.mp h1 c hc
  rcases Bool.eq_false_or_eq_true (isCode c) with hi | hi
  · exact h2 c (List.mem_filter.mpr ⟨hc, hi⟩)
  · simpa [hi] using h
set_option maxRecDepth 65536 in
theorem w_c0 : (Jvm.Cond.code x code maxLocals ret).before args0 about1 = true := code_word (m := ⟨1, 1⟩) (meth := k1m1) (c := k1c1) (by decide +kernel) rfl rfl rfl (by decide +kernel)
set_option maxRecDepth 65536 in
theorem w_c1 : (Jvm.Cond.code ({ cls := "com/example/concordat/concordat/server/KindByNamePinLaw", name := "make", desc := "([CI)Ljava/lang/String;" } : Jvm.MethodName) method_3_code (2 : Nat) (Option.some (Jvm.ClassFile.FieldType.object "java/lang/String"))).before args0 about1 = true := code_word (m := ⟨1, 2⟩) (meth := k1m2) (c := k1c2) (by decide +kernel) rfl rfl rfl (by decide +kernel)
set_option maxRecDepth 65536 in
theorem w_c2 : (Jvm.Cond.code ({ cls := "java/lang/String", name := "<init>", desc := "([C)V" } : Jvm.MethodName) jdk_42_method_3_code (2 : Nat) (Option.none : Option Jvm.ClassFile.FieldType)).before args0 about1 = true := code_word (m := ⟨7, 1⟩) (meth := k7m1) (c := k7c1) (by decide +kernel) rfl rfl rfl (by decide +kernel)
set_option maxRecDepth 65536 in
theorem w_c3 : (Jvm.Cond.code ({ cls := "java/lang/String", name := "<init>", desc := "([CIILjava/lang/Void;)V" } : Jvm.MethodName) jdk_42_method_149_code (6 : Nat) (Option.none : Option Jvm.ClassFile.FieldType)).before args0 about1 = true := code_word (m := ⟨7, 3⟩) (meth := k7m3) (c := k7c3) (by decide +kernel) rfl rfl rfl (by decide +kernel)
set_option maxRecDepth 65536 in
theorem w_c4 : (Jvm.Cond.code ({ cls := "java/lang/Object", name := "<init>", desc := "()V" } : Jvm.MethodName) object_method_1_code (1 : Nat) (Option.none : Option Jvm.ClassFile.FieldType)).before args0 about1 = true := code_word (m := ⟨0, 0⟩) (meth := k0m0) (c := k0c0) (by decide +kernel) rfl rfl rfl (by decide +kernel)
set_option maxRecDepth 65536 in
theorem w_c5 : (Jvm.Cond.code ({ cls := "java/lang/StringUTF16", name := "compress", desc := "([CII)[B" } : Jvm.MethodName) jdk_52_method_16_code (6 : Nat) (Option.some (Jvm.ClassFile.FieldType.array Jvm.ClassFile.FieldType.byte))).before args0 about1 = true := code_word (m := ⟨8, 2⟩) (meth := k8m2) (c := k8c2) (by decide +kernel) rfl rfl rfl (by decide +kernel)
set_option maxRecDepth 65536 in
theorem w_c6 : (Jvm.Cond.code ({ cls := "java/lang/StringUTF16", name := "compress", desc := "([CI[BII)I" } : Jvm.MethodName) jdk_52_method_21_code (7 : Nat) (Option.some Jvm.ClassFile.FieldType.int)).before args0 about1 = true := code_word (m := ⟨8, 3⟩) (meth := k8m3) (c := k8c3) (by decide +kernel) rfl rfl rfl (by decide +kernel)
set_option maxRecDepth 65536 in
theorem w_c7 : (Jvm.Cond.code ({ cls := "java/lang/StringUTF16", name := "coderFromArrayLen", desc := "([BI)B" } : Jvm.MethodName) jdk_52_method_15_code (2 : Nat) (Option.some Jvm.ClassFile.FieldType.byte)).before args0 about1 = true := code_word (m := ⟨8, 1⟩) (meth := k8m1) (c := k8c1) (by decide +kernel) rfl rfl rfl (by decide +kernel)
set_option maxRecDepth 65536 in
theorem w_c8 : (Jvm.Cond.code ({ cls := "java/lang/String", name := "equals", desc := "(Ljava/lang/Object;)Z" } : Jvm.MethodName) jdk_42_method_66_code (3 : Nat) (Option.some Jvm.ClassFile.FieldType.boolean)).before args0 about1 = true := code_word (m := ⟨7, 2⟩) (meth := k7m2) (c := k7c2) (by decide +kernel) rfl rfl rfl (by decide +kernel)
set_option maxRecDepth 65536 in
theorem w_c9 : (Jvm.Cond.code ({ cls := "java/lang/StringLatin1", name := "equals", desc := "([B[B)Z" } : Jvm.MethodName) jdk_43_method_13_code (3 : Nat) (Option.some Jvm.ClassFile.FieldType.boolean)).before args0 about1 = true := code_word (m := ⟨9, 1⟩) (meth := k9m1) (c := k9c1) (by decide +kernel) rfl rfl rfl (by decide +kernel)
set_option maxRecDepth 65536 in
theorem w_c10 : (Jvm.Cond.code ({ cls := "com/example/concordat/concordat/server/Operation$Kind", name := "byName", desc := "(Ljava/lang/String;)Lcom/example/concordat/concordat/server/Operation$Kind;" } : Jvm.MethodName) prog_48_method_4_code (5 : Nat) (Option.some (Jvm.ClassFile.FieldType.object "com/example/concordat/concordat/server/Operation$Kind"))).before args0 about1 = true := code_word (m := ⟨11, 1⟩) (meth := k11m1) (c := k11c1) (by decide +kernel) rfl rfl rfl (by decide +kernel)
set_option maxRecDepth 65536 in
theorem w_c11 : (Jvm.Cond.code ({ cls := "com/example/concordat/concordat/server/Operation$Kind", name := "values", desc := "()[Lcom/example/concordat/concordat/server/Operation$Kind;" } : Jvm.MethodName) prog_48_method_1_code (0 : Nat) (Option.some (Jvm.ClassFile.FieldType.array (Jvm.ClassFile.FieldType.object "com/example/concordat/concordat/server/Operation$Kind")))).before args0 about1 = true := code_word (m := ⟨11, 0⟩) (meth := k11m0) (c := k11c0) (by decide +kernel) rfl rfl rfl (by decide +kernel)
def codes1 : List Jvm.Cond := [Jvm.Cond.code x code maxLocals ret, Jvm.Cond.code ({ cls := "com/example/concordat/concordat/server/KindByNamePinLaw", name := "make", desc := "([CI)Ljava/lang/String;" } : Jvm.MethodName) method_3_code (2 : Nat) (Option.some (Jvm.ClassFile.FieldType.object "java/lang/String")), Jvm.Cond.code ({ cls := "java/lang/String", name := "<init>", desc := "([C)V" } : Jvm.MethodName) jdk_42_method_3_code (2 : Nat) (Option.none : Option Jvm.ClassFile.FieldType), Jvm.Cond.code ({ cls := "java/lang/String", name := "<init>", desc := "([CIILjava/lang/Void;)V" } : Jvm.MethodName) jdk_42_method_149_code (6 : Nat) (Option.none : Option Jvm.ClassFile.FieldType), Jvm.Cond.code ({ cls := "java/lang/Object", name := "<init>", desc := "()V" } : Jvm.MethodName) object_method_1_code (1 : Nat) (Option.none : Option Jvm.ClassFile.FieldType), Jvm.Cond.code ({ cls := "java/lang/StringUTF16", name := "compress", desc := "([CII)[B" } : Jvm.MethodName) jdk_52_method_16_code (6 : Nat) (Option.some (Jvm.ClassFile.FieldType.array Jvm.ClassFile.FieldType.byte)), Jvm.Cond.code ({ cls := "java/lang/StringUTF16", name := "compress", desc := "([CI[BII)I" } : Jvm.MethodName) jdk_52_method_21_code (7 : Nat) (Option.some Jvm.ClassFile.FieldType.int), Jvm.Cond.code ({ cls := "java/lang/StringUTF16", name := "coderFromArrayLen", desc := "([BI)B" } : Jvm.MethodName) jdk_52_method_15_code (2 : Nat) (Option.some Jvm.ClassFile.FieldType.byte), Jvm.Cond.code ({ cls := "java/lang/String", name := "equals", desc := "(Ljava/lang/Object;)Z" } : Jvm.MethodName) jdk_42_method_66_code (3 : Nat) (Option.some Jvm.ClassFile.FieldType.boolean), Jvm.Cond.code ({ cls := "java/lang/StringLatin1", name := "equals", desc := "([B[B)Z" } : Jvm.MethodName) jdk_43_method_13_code (3 : Nat) (Option.some Jvm.ClassFile.FieldType.boolean), Jvm.Cond.code ({ cls := "com/example/concordat/concordat/server/Operation$Kind", name := "byName", desc := "(Ljava/lang/String;)Lcom/example/concordat/concordat/server/Operation$Kind;" } : Jvm.MethodName) prog_48_method_4_code (5 : Nat) (Option.some (Jvm.ClassFile.FieldType.object "com/example/concordat/concordat/server/Operation$Kind")), Jvm.Cond.code ({ cls := "com/example/concordat/concordat/server/Operation$Kind", name := "values", desc := "()[Lcom/example/concordat/concordat/server/Operation$Kind;" } : Jvm.MethodName) prog_48_method_1_code (0 : Nat) (Option.some (Jvm.ClassFile.FieldType.array (Jvm.ClassFile.FieldType.object "com/example/concordat/concordat/server/Operation$Kind")))]
set_option maxRecDepth 65536 in
theorem codes_eq : words1.filter isCode = codes1 := rfl
theorem w_codes : ∀ c ∈ words1.filter isCode, c.before args0 about1 = true := by
  rw [codes_eq]
  intro c hc
  simp only [codes1, List.mem_cons, List.not_mem_nil, or_false] at hc
  rcases hc with rfl | rfl | rfl | rfl | rfl | rfl | rfl | rfl | rfl | rfl | rfl | rfl
  · exact w_c0
  · exact w_c1
  · exact w_c2
  · exact w_c3
  · exact w_c4
  · exact w_c5
  · exact w_c6
  · exact w_c7
  · exact w_c8
  · exact w_c9
  · exact w_c10
  · exact w_c11
set_option maxRecDepth 65536 in
theorem w_t1 : (words1.take 24).all (fun c => isCode c || c.before args0 about1) = true := by decide +kernel
set_option maxRecDepth 65536 in
theorem w_t2 : ((words1.drop 24).take 24).all (fun c => isCode c || c.before args0 about1) = true := by decide +kernel
set_option maxRecDepth 65536 in
theorem w_t3 : (((words1.drop 24).drop 24).take 24).all (fun c => isCode c || c.before args0 about1) = true := by decide +kernel
set_option maxRecDepth 65536 in
theorem w_t4 : (((words1.drop 24).drop 24).drop 24).all (fun c => isCode c || c.before args0 about1) = true := by decide +kernel
theorem w_tables : (allAtoms (Jvm.Cond.code x code maxLocals ret :: tables_1)).before args0 about1 = true := by
  rw [allAtoms_all]
  show words1.all (fun c => c.before args0 about1) = true
  refine all_split ?_ w_codes
  rw [← List.take_append_drop 24 words1, List.all_append, w_t1, ← List.take_append_drop 24 (words1.drop 24), List.all_append, w_t2, ← List.take_append_drop 24 ((words1.drop 24).drop 24), List.all_append, w_t3, w_t4]
  rfl
set_option maxRecDepth 65536 in
theorem w_rest : rest_1_c.before args0 about1 = true := by decide +kernel
set_option maxRecDepth 65536 in
theorem w_case : (Jvm.Cond.and given_1 narrow_1).before args0 about1 = true := by decide +kernel
set_option maxRecDepth 65536 in
theorem w_consts : constsHeld consts_1 about1 := Jvm.Lit.constsHeldB_iff.mp (by decide +kernel)
theorem w_applies : (headSpec (Jvm.Cond.code x code maxLocals ret :: tables_1) room_1).applies x e0.platform about1 = true :=
  (Spec.applies_iff w_frames).mpr ⟨w_running, w_runnable, w_alone, w_named, w_hears, w_ripe, w_room, w_tables⟩
theorem atStart : AtStart classFile x code maxLocals ret World_1 tables_1 room_1 Calls_1 rest_1 Pre_1 launch0 p0 e0 about1 theMethod args0 below0 :=
  ⟨lists_1, trivial, launch0.admits_env _ _ _, launch0.least_env, fairChoices_fair.cas, fairChoices_fair.clock, w_frames, w_args, w_heap, w_applies, ⟨w_consts, trivial⟩, w_rest, w_case⟩
end start1
theorem witness_1 : WitnessClaimed_1 := ⟨start1.p0, start1.e0, start1.about1, start1.theMethod, start1.args0, start1.below0, start1.atStart⟩
end Jvm.Pilot.@@N@@
