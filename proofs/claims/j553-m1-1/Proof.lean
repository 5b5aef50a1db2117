import JvmDerived
import JvmDerived.Pilot.@@N@@Statement
import JvmDerived.Pilot.@@N@@Code
set_option linter.unusedVariables false
set_option linter.unusedSimpArgs false
namespace Jvm.RoadKit
open Sem ClassFile Op Lib Jvm.Stand Jvm.Free Jvm.LawKit
section New
variable {p : Program} {l : Launch} {e : Env} {R : Room} {s : State} {m : MethodId} {args : Array Value} {below : List Frame} {meth : Method} {c : Code} {T : State} {locs : List Loc} {cells slots : Nat}
theorem retI (X : Stand p l e R s m args below meth c T locs cells slots) (hx : p.tables.exec = Jvm.exec) {pc : Nat} {Ls : Array Slot} {z : Int32} {rest : List Value} (hret : meth.sig.returnType = some .int) (hd : decode c.code pc = .ok (.ireturn, 1)) {fs : List Frame}
    (hl : ∀ (f : JFrame) (acts : List Action), f.method = m → f.locked = none → f.entered = [] → (doReturn e (T.setTop f) acts (some (.int z))).1 = T.setFrames fs) : Steps p.tables e below (T.setTop (mkF m pc Ls (.int z :: rest))) (T.setFrames fs) := by
  have hm' : T.vm.method? m = some meth := X.method'
  have hn : narrow .int (.int z) = .int z := rfl
  show Steps p.tables e below (T.setTop { method := m, pc := pc, locals := Ls, stack := _ :: rest, locked := none }) _
  jvm_step X.here [X.here.top, hx, hd, hm', hret, hn]
  first | (intro acts; rw [hl _ acts rfl rfl rfl]) | rw [hl _ _ rfl rfl rfl]
  exact Steps.refl _
end New
end Jvm.RoadKit

namespace Jvm.Pilot.@@N@@
open Jvm Jvm.ClassFile Sem Op Lib Jvm.Free Jvm.Stand Jvm.LawKit Jvm.RoadKit Bundle Jvm.Pilot.@@N@@.Jvm.D
def own_Go (tb : Tables) (e : Env) (below : List Frame) (K : State → Outcome → Prop) (S : State) : Prop := ∃ t o, Steps tb e below S t ∧ K t o
theorem own_Go.by {tb : Tables} {e : Env} {below : List Frame} {K : State → Outcome → Prop} {S S' : State} (h : ∀ t, Steps tb e below S' t → Steps tb e below S t) (g : own_Go tb e below K S') : own_Go tb e below K S := by
  obtain ⟨t, o, a, b⟩ := g
  exact ⟨t, o, h t a, b⟩
theorem own_Go.fin {tb : Tables} {e : Env} {below : List Frame} {K : State → Outcome → Prop} {S t : State} {o : Outcome} (h : Steps tb e below S t) (k : K t o) : own_Go tb e below K S := ⟨t, o, h, k⟩
theorem own_merge {α : Type} {P : α → Prop} {F : α → State} {tb : Tables} {e : Env} {below : List Frame} {K : State → Outcome → Prop} {S : State} (g : ∀ v, P v → own_Go tb e below K (F v)) (h : (∀ v, P v → own_Go tb e below K (F v)) → own_Go tb e below K S) : own_Go tb e below K S := h g
theorem own_old_le {Z : State} {n0 : Nat} {h : Heap} (O : Old Z n0 h) : n0 ≤ h.size := O.1 ▸ O.2.1
theorem own_rew {s t : State} {o : Outcome} {L : List Loc} {k n k' n' : Nat} (h : ReturnedEndW s o t L k n) (hk : k ≤ k') (hn : n ≤ n') : ReturnedEndW s o t L k' n' := ⟨h.1, h.2.1, h.2.2.1, h.2.2.2.mono hk hn⟩
theorem own_privsel {s : State} {a1 a2 args : Array Value} {y : MethodName} {n : Nat} (wi : (Jvm.Cond.instantiable y.cls n).before a1 s = true) (wp : (Jvm.Cond.privateMethod y).before a2 s = true) (wm : (Jvm.Cond.instanceMethod y).before args s = true) (hy : y.cls ≠ "java/lang/invoke/MethodHandle" ∧ y.cls ≠ "java/lang/invoke/VarHandle") : (Jvm.Cond.selects y.cls y y).before args s = true := by
  obtain ⟨c, k, h1, h2, -, h4, -⟩ := Cond.instantiable_spec wi
  simp only [Bool.or_eq_false_iff] at h4
  exact selects_self_of_private h1 h2 h4.1 (Cond.privateMethod_at wp) wm hy
theorem own_arr_keep {Z : State} {h h' : Heap} {a : Addr} {c : Cell} {ty : FieldType} {ws : List Addr} (A : Arr Z h a c ty) (K : Keep h h' ws) (q : a ∉ ws) : Arr Z h' a c ty := ⟨K.2.1 a c A.1 q, A.2⟩

theorem own_dload {tb : Tables} [Ours tb] {e : Env} {below : List Frame} {T target : State} {m : MethodId} {c : ClassFile.Code} {g : JFrame} (h : At T m c below) (hx : tb.exec = Jvm.exec) (hg : g.method = m) {k : Nat} {v : UInt64} (hd : decode c.code g.pc = .ok (.dload k, 2)) (hl : g.locals[k]? = some (.val (.double v)))
    (hr : Steps tb e below (T.setTop { g with pc := g.pc + 2, stack := .double v :: g.stack }) target) : Steps tb e below (T.setTop g) target := by
  subst hg
  jvm_step h [h.top, hx, hd, hl]
  exact hr
theorem own_dstore {tb : Tables} [Ours tb] {e : Env} {below : List Frame} {T target : State} {m : MethodId} {c : ClassFile.Code} {g : JFrame} (h : At T m c below) (hx : tb.exec = Jvm.exec) (hg : g.method = m) {k : Nat} {x : UInt64} {rest : List Value} {l' : Array Slot} (hd : decode c.code g.pc = .ok (.dstore k, 2)) (hs : g.stack = .double x :: rest) (hl : storeLocals g.locals k (.double x) = some l')
    (hr : Steps tb e below (T.setTop { g with pc := g.pc + 2, stack := rest, locals := l' }) target) : Steps tb e below (T.setTop g) target := by
  subst hg
  jvm_step h [h.top, hx, hd, hs, hl]
  exact hr
theorem own_dconst0 {tb : Tables} [Ours tb] {e : Env} {below : List Frame} {T target : State} {m : MethodId} {c : ClassFile.Code} {g : JFrame} (h : At T m c below) (hx : tb.exec = Jvm.exec) (hg : g.method = m) (hd : decode c.code g.pc = .ok (.dconst 0, 1))
    (hr : Steps tb e below (T.setTop { g with pc := g.pc + 1, stack := .double FP.dconst0 :: g.stack }) target) : Steps tb e below (T.setTop g) target := by
  subst hg
  jvm_step h [h.top, hx, hd, dconst.wp_sem]
  exact hr
theorem own_dconst1 {tb : Tables} [Ours tb] {e : Env} {below : List Frame} {T target : State} {m : MethodId} {c : ClassFile.Code} {g : JFrame} (h : At T m c below) (hx : tb.exec = Jvm.exec) (hg : g.method = m) (hd : decode c.code g.pc = .ok (.dconst 1, 1))
    (hr : Steps tb e below (T.setTop { g with pc := g.pc + 1, stack := .double FP.dconst1 :: g.stack }) target) : Steps tb e below (T.setTop g) target := by
  subst hg
  jvm_step h [h.top, hx, hd, dconst.wp_sem]
  exact hr
theorem own_dcmp {tb : Tables} [Ours tb] {e : Env} {below : List Frame} {T target : State} {m : MethodId} {c : ClassFile.Code} {g : JFrame} (h : At T m c below) (hx : tb.exec = Jvm.exec) (hg : g.method = m) {op : CmpOp} {x y : UInt64} {r : Int32} {rest : List Value} (hd : decode c.code g.pc = .ok (.dcmp op, 1)) (hs : g.stack = .double y :: .double x :: rest) (hc : cmpValue (FP.dcmp x y) op = r)
    (hr : Steps tb e below (T.setTop { g with pc := g.pc + 1, stack := .int r :: rest }) target) : Steps tb e below (T.setTop g) target := by
  subst hg hc
  jvm_step h [h.top, hx, hd, hs, dcmp.wp_sem]
  exact hr

theorem own_m62 {a x : Int64} (h : (a &&& (4611686018427387903 : Int64)) = x) : 0 ≤ x.toInt ∧ x.toInt < 4611686018427387904 := by
  have q := c_maskL a (4611686018427387903 : Int64) 62 (by decide) (by decide)
  rw [h] at q
  rw [q]
  omega
theorem own_sz {a size : Int64} (h : ((a &&& (4611686018427387903 : Int64)) + (1 : Int64)) = size) : 1 ≤ size.toInt ∧ size.toInt ≤ 4611686018427387904 := by
  have q := own_m62 (a := a) rfl
  have t := c_ladd (a &&& (4611686018427387903 : Int64)) (1 : Int64)
  have e1 : (1 : Int64).toInt = 1 := rfl
  rw [h, e1] at t
  have r := rng64 size
  omega
theorem own_szc {a size : Int64} (h : ((a &&& (4611686018427387903 : Int64)) + (1 : Int64)) = size) : ¬ (size < (1 : Int64)) ∧ ¬ ((4611686018427387904 : Int64) < size) := by
  have q := own_sz h
  have e1 : (1 : Int64).toInt = 1 := rfl
  have e2 : (4611686018427387904 : Int64).toInt = 4611686018427387904 := rfl
  rw [Int64.lt_iff_toInt_lt, Int64.lt_iff_toInt_lt]
  omega
theorem own_in {s a b size x y now t : Int64} (h0 : ((s &&& (4611686018427387903 : Int64)) + (1 : Int64)) = size) (h1 : (a &&& (4611686018427387903 : Int64)) = x) (h2 : (b &&& (4611686018427387903 : Int64)) = y) (h3 : (if x < y then y else x) = now) (h4 : (if y < x then y else x) = t) : (now - t) < size ↔ (now - size) < t := by
  have q0 := own_sz h0
  have q1 := own_m62 h1
  have q2 := own_m62 h2
  have q3 : (now.toInt = x.toInt ∨ now.toInt = y.toInt) ∧ x.toInt ≤ now.toInt ∧ y.toInt ≤ now.toInt := by
    rw [← h3]
    by_cases r : x < y
    · rw [if_pos r]; rw [Int64.lt_iff_toInt_lt] at r; omega
    · rw [if_neg r]; rw [Int64.lt_iff_toInt_lt] at r; omega
  have q4 : (t.toInt = x.toInt ∨ t.toInt = y.toInt) ∧ t.toInt ≤ x.toInt ∧ t.toInt ≤ y.toInt := by
    rw [← h4]
    by_cases r : y < x
    · rw [if_pos r]; rw [Int64.lt_iff_toInt_lt] at r; omega
    · rw [if_neg r]; rw [Int64.lt_iff_toInt_lt] at r; omega
  have c1 := c_lsub now t
  have c2 := c_lsub now size
  have r1 := rng64 (now - t)
  have r2 := rng64 (now - size)
  rw [Int64.lt_iff_toInt_lt, Int64.lt_iff_toInt_lt]
  omega

theorem d1_0 : decode jdk_29_method_66_code 0 = .ok (.lload_n 0, 1) := by decide +kernel
theorem d1_1 : decode jdk_29_method_66_code 1 = .ok (.lload_n 2, 1) := by decide +kernel
theorem d1_2 : decode jdk_29_method_66_code 2 = .ok (.lcmp, 1) := by decide +kernel
theorem d1_3 : decode jdk_29_method_66_code 3 = .ok (.ifCond .lt 7, 3) := by decide +kernel
theorem d1_6 : decode jdk_29_method_66_code 6 = .ok (.lload_n 0, 1) := by decide +kernel
theorem d1_7 : decode jdk_29_method_66_code 7 = .ok (.goto 4, 3) := by decide +kernel
theorem d1_10 : decode jdk_29_method_66_code 10 = .ok (.lload_n 2, 1) := by decide +kernel
theorem d1_11 : decode jdk_29_method_66_code 11 = .ok (.lreturn, 1) := by decide +kernel
theorem own_pf_1 : plainFor (⟨"java/lang/Math", "max", "(JJ)J"⟩ : MethodName) = true := by decide +kernel
theorem own_ef_1 (m : MethodId) (p1 : Int64) (p2 : Int64) : entryFrame m #[(.long p1), (.long p2)] 4 = mkF m 0 #[.val (.long p1), .second, .val (.long p2), .second] [] := by first | (simp [entryFrame, mkF, argsToLocals, Value.category]; done) | rfl
def Q1 (Z : State) (p1 : Int64) (p2 : Int64) (h0 : Heap) (n0 : Nat) (v : Option Value) (h : Heap) (L : List Loc) : Prop := v = some (.long (if p1 < p2 then p2 else p1)) ∧ Fr n0 L ∧ h = h0
set_option maxRecDepth 65536 in
set_option maxHeartbeats 40000000 in
theorem rm1 (l : Launch) (Z : State) (a0 : Array Value) (hw : ∀ d ∈ tables_1, d.before a0 Z = true) (ws : List Jvm.Cond) (p1 : Int64) (p2 : Int64) (h0 : Heap) (n0 : Nat) (O0 : Old Z n0 h0) :
    MetFree l (⟨"java/lang/Math", "max", "(JJ)J"⟩ : MethodName) (head1 (Jvm.Cond.code (⟨"java/lang/Math", "max", "(JJ)J"⟩ : MethodName) jdk_29_method_66_code 4 (some .long) :: ws) ({ frames := 0, cells := 0, slots := 0, locals := 0 } : Room)) (fun a U => a = #[(.long p1), (.long p2)] ∧ Z.Warmed39 U.vm ∧ U.heap = h0) (fun _ _ _ _ _ => True) (fun _ U o U' => ∃ v L, o = .returned v ∧ Q1 Z p1 p2 h0 n0 v U'.heap L ∧ FrameEnd U o U' L ({ frames := 0, cells := 0, slots := 0, locals := 0 } : Room).cells ({ frames := 0, cells := 0, slots := 0, locals := 0 } : Room).slots) := by
  refine MetFree.of_bodySF own_pf_1 hisR ?_
  intro p e s m args below meth c s₁ Bd hml0 hP hK
  obtain ⟨rfl, hZ, hh⟩ := hP
  have hx := Bd.exec
  have hby := Bd.bytes
  have hml : c.maxLocals = 4 := hml0
  have hown : s.vm.findClass "java/lang/Math" = some m.cls := findClass_of_methodNamed Bd.named
  have hnm := (name_of_methodNamed Bd.named Bd.method).1
  have X0 : Stand p l e ({ frames := 0, cells := 0, slots := 0, locals := 0 } : Room) s m #[(.long p1), (.long p2)] below meth c s₁ [] 0 0 := Stand.of_body Bd
  have e0 : s₁.heap = h0 := by rw [← hh, Bd.state]; rfl
  have N0 := Fr.nil n0
  have K0 : Keep h0 h0 [] := Keep.refl h0 []
  show own_Go p.tables e below _ (s₁.setTop (entryFrame m #[(.long p1), (.long p2)] 4))
  refine own_Go.by (fun tq kq => castTop (own_ef_1 m p1 p2) kq) ?_
  show own_Go p.tables e below _ (s₁.setTop (mkF m 0 #[.val (.long p1), .second, .val (.long p2), .second] []))
  refine own_Go.by (fun tq kq => XS.lloadN X0.here hx rfl (hb hby d1_0) rfl kq) ?_
  show own_Go p.tables e below _ (s₁.setTop (mkF m 1 #[.val (.long p1), .second, .val (.long p2), .second] [(.long p1)]))
  refine own_Go.by (fun tq kq => XS.lloadN X0.here hx rfl (hb hby d1_1) rfl kq) ?_
  show own_Go p.tables e below _ (s₁.setTop (mkF m 2 #[.val (.long p1), .second, .val (.long p2), .second] [(.long p2), (.long p1)]))
  refine own_Go.by (fun tq kq => XS.lcmp X0.here hx rfl (hb hby d1_2) rfl kq) ?_
  show own_Go p.tables e below _ (s₁.setTop (mkF m 3 #[.val (.long p1), .second, .val (.long p2), .second] [(.int (lcmpW p1 p2))]))
  by_cases hc3_1 : p1 < p2
  ·
    refine own_Go.by (fun tq kq => XS.ifYes X0.here hx rfl (pc0 := 3) (pc' := 10) rfl (hb hby d1_3) rfl ((if0 _ _).trans (tlt ((lw_lt p1 p2).mpr hc3_1)).1) (by decide) (by decide) kq) ?_
    show own_Go p.tables e below _ (s₁.setTop (mkF m 10 #[.val (.long p1), .second, .val (.long p2), .second] []))
    refine own_Go.by (fun tq kq => XS.lloadN X0.here hx rfl (hb hby d1_10) rfl kq) ?_
    show own_Go p.tables e below _ (s₁.setTop (mkF m 11 #[.val (.long p1), .second, .val (.long p2), .second] [(.long p2)]))
    obtain ⟨fs, hr, hrun, hended, hW, hsame⟩ := X0.leave (v := some (.long p2)) (fun h => by rw [Bd.returns] at h; cases h)
    refine own_Go.fin (retOut X0 hx Bd.returns rfl (Or.inr (Or.inl ⟨rfl, rfl, _, rfl⟩)) (hb hby d1_11) hr) ⟨hrun, hended, _, _, rfl, ?_, ⟨_, rfl⟩, hW, hsame.mono (by decide) (by decide)⟩
    show Q1 Z p1 p2 h0 n0 _ s₁.heap _
    rw [e0]
    exact ⟨(by rw [if_pos hc3_1]), N0, rfl⟩
  ·
    refine own_Go.by (fun tq kq => XS.ifNo X0.here hx rfl (hb hby d1_3) rfl ((if0 _ _).trans (flt (mt (lw_lt p1 p2).mp hc3_1)).1) kq) ?_
    show own_Go p.tables e below _ (s₁.setTop (mkF m 6 #[.val (.long p1), .second, .val (.long p2), .second] []))
    refine own_Go.by (fun tq kq => XS.lloadN X0.here hx rfl (hb hby d1_6) rfl kq) ?_
    show own_Go p.tables e below _ (s₁.setTop (mkF m 7 #[.val (.long p1), .second, .val (.long p2), .second] [(.long p1)]))
    refine own_Go.by (fun tq kq => XS.goto X0.here hx rfl (pc0 := 7) (pc' := 11) rfl (hb hby d1_7) (by decide) (by decide) kq) ?_
    show own_Go p.tables e below _ (s₁.setTop (mkF m 11 #[.val (.long p1), .second, .val (.long p2), .second] [(.long p1)]))
    obtain ⟨fs, hr, hrun, hended, hW, hsame⟩ := X0.leave (v := some (.long p1)) (fun h => by rw [Bd.returns] at h; cases h)
    refine own_Go.fin (retOut X0 hx Bd.returns rfl (Or.inr (Or.inl ⟨rfl, rfl, _, rfl⟩)) (hb hby d1_11) hr) ⟨hrun, hended, _, _, rfl, ?_, ⟨_, rfl⟩, hW, hsame.mono (by decide) (by decide)⟩
    show Q1 Z p1 p2 h0 n0 _ s₁.heap _
    rw [e0]
    exact ⟨(by rw [if_neg hc3_1]), N0, rfl⟩

theorem d2_0 : decode jdk_29_method_70_code 0 = .ok (.lload_n 0, 1) := by decide +kernel
theorem d2_1 : decode jdk_29_method_70_code 1 = .ok (.lload_n 2, 1) := by decide +kernel
theorem d2_2 : decode jdk_29_method_70_code 2 = .ok (.lcmp, 1) := by decide +kernel
theorem d2_3 : decode jdk_29_method_70_code 3 = .ok (.ifCond .gt 7, 3) := by decide +kernel
theorem d2_6 : decode jdk_29_method_70_code 6 = .ok (.lload_n 0, 1) := by decide +kernel
theorem d2_7 : decode jdk_29_method_70_code 7 = .ok (.goto 4, 3) := by decide +kernel
theorem d2_10 : decode jdk_29_method_70_code 10 = .ok (.lload_n 2, 1) := by decide +kernel
theorem d2_11 : decode jdk_29_method_70_code 11 = .ok (.lreturn, 1) := by decide +kernel
theorem own_pf_2 : plainFor (⟨"java/lang/Math", "min", "(JJ)J"⟩ : MethodName) = true := by decide +kernel
theorem own_ef_2 (m : MethodId) (p1 : Int64) (p2 : Int64) : entryFrame m #[(.long p1), (.long p2)] 4 = mkF m 0 #[.val (.long p1), .second, .val (.long p2), .second] [] := by first | (simp [entryFrame, mkF, argsToLocals, Value.category]; done) | rfl
def Q2 (Z : State) (p1 : Int64) (p2 : Int64) (h0 : Heap) (n0 : Nat) (v : Option Value) (h : Heap) (L : List Loc) : Prop := v = some (.long (if p2 < p1 then p2 else p1)) ∧ Fr n0 L ∧ h = h0
set_option maxRecDepth 65536 in
set_option maxHeartbeats 40000000 in
theorem rm2 (l : Launch) (Z : State) (a0 : Array Value) (hw : ∀ d ∈ tables_1, d.before a0 Z = true) (ws : List Jvm.Cond) (p1 : Int64) (p2 : Int64) (h0 : Heap) (n0 : Nat) (O0 : Old Z n0 h0) :
    MetFree l (⟨"java/lang/Math", "min", "(JJ)J"⟩ : MethodName) (head1 (Jvm.Cond.code (⟨"java/lang/Math", "min", "(JJ)J"⟩ : MethodName) jdk_29_method_70_code 4 (some .long) :: ws) ({ frames := 0, cells := 0, slots := 0, locals := 0 } : Room)) (fun a U => a = #[(.long p1), (.long p2)] ∧ Z.Warmed39 U.vm ∧ U.heap = h0) (fun _ _ _ _ _ => True) (fun _ U o U' => ∃ v L, o = .returned v ∧ Q2 Z p1 p2 h0 n0 v U'.heap L ∧ FrameEnd U o U' L ({ frames := 0, cells := 0, slots := 0, locals := 0 } : Room).cells ({ frames := 0, cells := 0, slots := 0, locals := 0 } : Room).slots) := by
  refine MetFree.of_bodySF own_pf_2 hisR ?_
  intro p e s m args below meth c s₁ Bd hml0 hP hK
  obtain ⟨rfl, hZ, hh⟩ := hP
  have hx := Bd.exec
  have hby := Bd.bytes
  have hml : c.maxLocals = 4 := hml0
  have hown : s.vm.findClass "java/lang/Math" = some m.cls := findClass_of_methodNamed Bd.named
  have hnm := (name_of_methodNamed Bd.named Bd.method).1
  have X0 : Stand p l e ({ frames := 0, cells := 0, slots := 0, locals := 0 } : Room) s m #[(.long p1), (.long p2)] below meth c s₁ [] 0 0 := Stand.of_body Bd
  have e0 : s₁.heap = h0 := by rw [← hh, Bd.state]; rfl
  have N0 := Fr.nil n0
  have K0 : Keep h0 h0 [] := Keep.refl h0 []
  show own_Go p.tables e below _ (s₁.setTop (entryFrame m #[(.long p1), (.long p2)] 4))
  refine own_Go.by (fun tq kq => castTop (own_ef_2 m p1 p2) kq) ?_
  show own_Go p.tables e below _ (s₁.setTop (mkF m 0 #[.val (.long p1), .second, .val (.long p2), .second] []))
  refine own_Go.by (fun tq kq => XS.lloadN X0.here hx rfl (hb hby d2_0) rfl kq) ?_
  show own_Go p.tables e below _ (s₁.setTop (mkF m 1 #[.val (.long p1), .second, .val (.long p2), .second] [(.long p1)]))
  refine own_Go.by (fun tq kq => XS.lloadN X0.here hx rfl (hb hby d2_1) rfl kq) ?_
  show own_Go p.tables e below _ (s₁.setTop (mkF m 2 #[.val (.long p1), .second, .val (.long p2), .second] [(.long p2), (.long p1)]))
  refine own_Go.by (fun tq kq => XS.lcmp X0.here hx rfl (hb hby d2_2) rfl kq) ?_
  show own_Go p.tables e below _ (s₁.setTop (mkF m 3 #[.val (.long p1), .second, .val (.long p2), .second] [(.int (lcmpW p1 p2))]))
  by_cases hc3_1 : p2 < p1
  ·
    refine own_Go.by (fun tq kq => XS.ifYes X0.here hx rfl (pc0 := 3) (pc' := 10) rfl (hb hby d2_3) rfl ((if0 _ _).trans (tlt ((lw_gt p1 p2).mpr hc3_1)).2.2.1) (by decide) (by decide) kq) ?_
    show own_Go p.tables e below _ (s₁.setTop (mkF m 10 #[.val (.long p1), .second, .val (.long p2), .second] []))
    refine own_Go.by (fun tq kq => XS.lloadN X0.here hx rfl (hb hby d2_10) rfl kq) ?_
    show own_Go p.tables e below _ (s₁.setTop (mkF m 11 #[.val (.long p1), .second, .val (.long p2), .second] [(.long p2)]))
    obtain ⟨fs, hr, hrun, hended, hW, hsame⟩ := X0.leave (v := some (.long p2)) (fun h => by rw [Bd.returns] at h; cases h)
    refine own_Go.fin (retOut X0 hx Bd.returns rfl (Or.inr (Or.inl ⟨rfl, rfl, _, rfl⟩)) (hb hby d2_11) hr) ⟨hrun, hended, _, _, rfl, ?_, ⟨_, rfl⟩, hW, hsame.mono (by decide) (by decide)⟩
    show Q2 Z p1 p2 h0 n0 _ s₁.heap _
    rw [e0]
    exact ⟨(by rw [if_pos hc3_1]), N0, rfl⟩
  ·
    refine own_Go.by (fun tq kq => XS.ifNo X0.here hx rfl (hb hby d2_3) rfl ((if0 _ _).trans (flt (mt (lw_gt p1 p2).mp hc3_1)).2.2.1) kq) ?_
    show own_Go p.tables e below _ (s₁.setTop (mkF m 6 #[.val (.long p1), .second, .val (.long p2), .second] []))
    refine own_Go.by (fun tq kq => XS.lloadN X0.here hx rfl (hb hby d2_6) rfl kq) ?_
    show own_Go p.tables e below _ (s₁.setTop (mkF m 7 #[.val (.long p1), .second, .val (.long p2), .second] [(.long p1)]))
    refine own_Go.by (fun tq kq => XS.goto X0.here hx rfl (pc0 := 7) (pc' := 11) rfl (hb hby d2_7) (by decide) (by decide) kq) ?_
    show own_Go p.tables e below _ (s₁.setTop (mkF m 11 #[.val (.long p1), .second, .val (.long p2), .second] [(.long p1)]))
    obtain ⟨fs, hr, hrun, hended, hW, hsame⟩ := X0.leave (v := some (.long p1)) (fun h => by rw [Bd.returns] at h; cases h)
    refine own_Go.fin (retOut X0 hx Bd.returns rfl (Or.inr (Or.inl ⟨rfl, rfl, _, rfl⟩)) (hb hby d2_11) hr) ⟨hrun, hended, _, _, rfl, ?_, ⟨_, rfl⟩, hW, hsame.mono (by decide) (by decide)⟩
    show Q2 Z p1 p2 h0 n0 _ s₁.heap _
    rw [e0]
    exact ⟨(by rw [if_neg hc3_1]), N0, rfl⟩

theorem d4_0 : decode jdk_30_method_1_code 0 = .ok (.aload_n 0, 1) := by decide +kernel
theorem d4_1 : decode jdk_30_method_1_code 1 = .ok (.invokespecial 1, 3) := by decide +kernel
theorem d4_4 : decode jdk_30_method_1_code 4 = .ok (.return_, 1) := by decide +kernel
theorem own_pn_java_lang_Record : plainName "java/lang/Record" = true := by first | (simp [plainName, overriddenIn]; done) | decide +kernel
theorem own_ef_4 (m : MethodId) (a1 : Addr) : entryFrame m #[(.ref a1)] 1 = mkF m 0 #[.val (.ref a1)] [] := by first | (simp [entryFrame, mkF, argsToLocals, Value.category]; done) | rfl
def Q4 (Z : State) (a1 : Addr) (h0 : Heap) (n0 : Nat) (v : Option Value) (h : Heap) (L : List Loc) : Prop := v = none ∧ Fr n0 L ∧ h = h0
set_option maxRecDepth 65536 in
set_option maxHeartbeats 40000000 in
theorem rm4 (l : Launch) (Z : State) (a0 : Array Value) (hw : ∀ d ∈ tables_1, d.before a0 Z = true) (ws : List Jvm.Cond) (a1 : Addr) (h0 : Heap) (n0 : Nat) (O0 : Old Z n0 h0) :
    MetFree l (⟨"java/lang/Record", "<init>", "()V"⟩ : MethodName) (head1 (Jvm.Cond.code (⟨"java/lang/Record", "<init>", "()V"⟩ : MethodName) jdk_30_method_1_code 1 none :: ws) ({ frames := 1, cells := 0, slots := 0, locals := 12 } : Room)) (fun a U => a = #[(.ref a1)] ∧ Z.Warmed39 U.vm ∧ U.heap = h0) (fun _ _ _ _ _ => True) (fun _ U o U' => ∃ v L, o = .returned v ∧ Q4 Z a1 h0 n0 v U'.heap L ∧ FrameEnd U o U' L ({ frames := 1, cells := 0, slots := 0, locals := 12 } : Room).cells ({ frames := 1, cells := 0, slots := 0, locals := 12 } : Room).slots) := by
  refine MetFree.of_bodySF (plainFor_of_name own_pn_java_lang_Record) hisR ?_
  intro p e s m args below meth c s₁ Bd hml0 hP hK
  obtain ⟨rfl, hZ, hh⟩ := hP
  have hx := Bd.exec
  have hby := Bd.bytes
  have hml : c.maxLocals = 1 := hml0
  have hown : s.vm.findClass "java/lang/Record" = some m.cls := findClass_of_methodNamed Bd.named
  have hnm := (name_of_methodNamed Bd.named Bd.method).1
  have X0 : Stand p l e ({ frames := 1, cells := 0, slots := 0, locals := 12 } : Room) s m #[(.ref a1)] below meth c s₁ [] 0 0 := Stand.of_body Bd
  have e0 : s₁.heap = h0 := by rw [← hh, Bd.state]; rfl
  have N0 := Fr.nil n0
  have K0 : Keep h0 h0 [] := Keep.refl h0 []
  show own_Go p.tables e below _ (s₁.setTop (entryFrame m #[(.ref a1)] 1))
  refine own_Go.by (fun tq kq => castTop (own_ef_4 m a1) kq) ?_
  show own_Go p.tables e below _ (s₁.setTop (mkF m 0 #[.val (.ref a1)] []))
  refine own_Go.by (fun tq kq => XS.aloadN X0.here hx rfl (hb hby d4_0) rfl rfl kq) ?_
  show own_Go p.tables e below _ (s₁.setTop (mkF m 1 #[.val (.ref a1)] [(.ref a1)]))
  obtain ⟨T1, X1, e1, st1⟩ := initO X0 hx hZ hown (hw _ (List.mem_of_getElem? (i := 19) rfl)) (hw _ (List.mem_of_getElem? (i := 20) rfl)) (hw _ (List.mem_of_getElem? (i := 21) rfl)) e0 (g := (mkF m 1 #[.val (.ref a1)] [(.ref a1)])) rfl (by rw [hml]; rfl) rfl (hb hby d4_1) (by decide) (W := 0) (by show 2 * 0 + _ ≤ _; exact Nat.le_of_eq rfl) (by decide)
  refine own_Go.by st1 ?_
  show own_Go p.tables e below _ (T1.setTop (mkF m 4 #[.val (.ref a1)] []))
  obtain ⟨fs, hr, hrun, hended, hW, hsame⟩ := X1.leave (v := none) (fun _ => rfl)
  refine own_Go.fin (X1.returnOut hx Bd.returns (hb hby d4_4) hr) ⟨hrun, hended, _, _, rfl, ?_, ⟨_, rfl⟩, hW, hsame.mono (by decide) (by decide)⟩
  show Q4 Z a1 h0 n0 _ T1.heap _
  rw [e1]
  exact ⟨rfl, N0, rfl⟩

theorem own_pd0 : parseMethodDescriptor "()V" = some ⟨[], none⟩ := by decide +kernel
theorem d3_0 : decode prog_29_method_1_code 0 = .ok (.aload_n 0, 1) := by decide +kernel
theorem d3_1 : decode prog_29_method_1_code 1 = .ok (.invokespecial 3, 3) := by decide +kernel
theorem d3_4 : decode prog_29_method_1_code 4 = .ok (.lload_n 1, 1) := by decide +kernel
theorem d3_5 : decode prog_29_method_1_code 5 = .ok (.lconst 1, 1) := by decide +kernel
theorem d3_6 : decode prog_29_method_1_code 6 = .ok (.lcmp, 1) := by decide +kernel
theorem d3_7 : decode prog_29_method_1_code 7 = .ok (.ifCond .lt 11, 3) := by decide +kernel
theorem d3_10 : decode prog_29_method_1_code 10 = .ok (.lload_n 1, 1) := by decide +kernel
theorem d3_11 : decode prog_29_method_1_code 11 = .ok (.ldc2_w 11, 3) := by decide +kernel
theorem d3_14 : decode prog_29_method_1_code 14 = .ok (.lcmp, 1) := by decide +kernel
theorem d3_15 : decode prog_29_method_1_code 15 = .ok (.ifCond .le 17, 3) := by decide +kernel
theorem d3_32 : decode prog_29_method_1_code 32 = .ok (.aload_n 0, 1) := by decide +kernel
theorem d3_33 : decode prog_29_method_1_code 33 = .ok (.lload_n 1, 1) := by decide +kernel
theorem d3_34 : decode prog_29_method_1_code 34 = .ok (.putfield 22, 3) := by decide +kernel
theorem d3_37 : decode prog_29_method_1_code 37 = .ok (.return_, 1) := by decide +kernel
theorem own_pn_com_example_ebbtide_ebbtide_core_WindowDecay : plainName "com/example/ebbtide/ebbtide/core/WindowDecay" = true := by first | (simp [plainName, overriddenIn]; done) | decide +kernel
theorem own_ef_3 (m : MethodId) (a1 : Addr) (p2 : Int64) : entryFrame m #[(.ref a1), (.long p2)] 3 = mkF m 0 #[.val (.ref a1), .val (.long p2), .second] [] := by first | (simp [entryFrame, mkF, argsToLocals, Value.category]; done) | rfl
def Q3 (Z : State) (a1 : Addr) (p2 : Int64) (h0 : Heap) (n0 : Nat) (v : Option Value) (h : Heap) (L : List Loc) : Prop := v = none ∧ Fr n0 L ∧ Keep h0 h [a1] ∧ (Exa Z h a1 "com/example/ebbtide/ebbtide/core/WindowDecay") ∧ (Fld Z h a1 "com/example/ebbtide/ebbtide/core/WindowDecay" "size" "J" (.long p2))
set_option maxRecDepth 65536 in
set_option maxHeartbeats 40000000 in
theorem rm3 (l : Launch) (Z : State) (a0 : Array Value) (hw : ∀ d ∈ tables_1, d.before a0 Z = true) (ws : List Jvm.Cond) (a1 : Addr) (p2 : Int64) (h0 : Heap) (n0 : Nat) (O0 : Old Z n0 h0) (H0 : Exa Z h0 a1 "com/example/ebbtide/ebbtide/core/WindowDecay") (H1 : Fld Z h0 a1 "com/example/ebbtide/ebbtide/core/WindowDecay" "size" "J" (.long (0 : Int64))) (H2 : n0 ≤ a1) (hlo : ¬ (p2 < (1 : Int64))) (hhi : ¬ ((4611686018427387904 : Int64) < p2)) :
    MetFree l (⟨"com/example/ebbtide/ebbtide/core/WindowDecay", "<init>", "(J)V"⟩ : MethodName) (head1 (Jvm.Cond.code (⟨"com/example/ebbtide/ebbtide/core/WindowDecay", "<init>", "(J)V"⟩ : MethodName) prog_29_method_1_code 3 none :: ws) ({ frames := 2, cells := 0, slots := 0, locals := 24 } : Room)) (fun a U => a = #[(.ref a1), (.long p2)] ∧ Z.Warmed39 U.vm ∧ U.heap = h0) (fun _ _ _ _ _ => True) (fun _ U o U' => ∃ v L, o = .returned v ∧ Q3 Z a1 p2 h0 n0 v U'.heap L ∧ FrameEnd U o U' L ({ frames := 2, cells := 0, slots := 0, locals := 24 } : Room).cells ({ frames := 2, cells := 0, slots := 0, locals := 24 } : Room).slots) := by
  refine MetFree.of_bodySF (plainFor_of_name own_pn_com_example_ebbtide_ebbtide_core_WindowDecay) hisR ?_
  intro p e s m args below meth c s₁ Bd hml0 hP hK
  obtain ⟨rfl, hZ, hh⟩ := hP
  have hx := Bd.exec
  have hby := Bd.bytes
  have hml : c.maxLocals = 3 := hml0
  have hown : s.vm.findClass "com/example/ebbtide/ebbtide/core/WindowDecay" = some m.cls := findClass_of_methodNamed Bd.named
  have hnm := (name_of_methodNamed Bd.named Bd.method).1
  have X0 : Stand p l e ({ frames := 2, cells := 0, slots := 0, locals := 24 } : Room) s m #[(.ref a1), (.long p2)] below meth c s₁ [] 0 0 := Stand.of_body Bd
  have e0 : s₁.heap = h0 := by rw [← hh, Bd.state]; rfl
  have N0 := Fr.nil n0
  have K0 := Keep.refl h0 [a1]
  show own_Go p.tables e below _ (s₁.setTop (entryFrame m #[(.ref a1), (.long p2)] 3))
  refine own_Go.by (fun tq kq => castTop (own_ef_3 m a1 p2) kq) ?_
  show own_Go p.tables e below _ (s₁.setTop (mkF m 0 #[.val (.ref a1), .val (.long p2), .second] []))
  refine own_Go.by (fun tq kq => XS.aloadN X0.here hx rfl (hb hby d3_0) rfl rfl kq) ?_
  show own_Go p.tables e below _ (s₁.setTop (mkF m 1 #[.val (.ref a1), .val (.long p2), .second] [(.ref a1)]))
  obtain ⟨_, _, ⟨T1, L1, k1, n1⟩, -, X1, ⟨Lc1, hQ1, l1, y1, z1⟩, st1⟩ := X0.specialBack hx (y := (⟨"java/lang/Record", "<init>", "()V"⟩ : MethodName)) rfl hown (mvT hZ (hw _ (List.mem_of_getElem? (i := 14) rfl))) (mvT hZ (hw _ (List.mem_of_getElem? (i := 15) rfl))) (mvT hZ (hw _ (List.mem_of_getElem? (i := 18) rfl))) (by decide) (backOf (W := 0) (rm4 l Z a0 hw [] a1 h0 n0 O0 ) hZ (hw _ (List.mem_of_getElem? (i := 18) rfl)) (hw _ (List.mem_of_getElem? (i := 17) rfl)) (by decide) (by decide)) (g := (mkF m 1 #[.val (.ref a1), .val (.long p2), .second] [(.ref a1)])) rfl (by rw [hml]; rfl) (Steps.refl _) (a := a1) (argsL := []) (rest := []) (lenOf own_pd0 rfl) rfl (by show 2 * 0 + _ ≤ _; exact Nat.le_of_eq rfl) (hb hby d3_1) (fun _ _ => ⟨rfl, e0, (by decide : 0 + 0 ≤ _), (by decide : 0 + 0 ≤ _)⟩)
  dsimp only [Pt.U, Pt.locs, Pt.cells, Pt.slots] at X1 l1 y1 z1 st1 hQ1
  subst l1 y1 z1
  refine own_Go.by (fun tq kq => st1.trans kq) ?_
  obtain ⟨rfl, N1q, e1⟩ := hQ1
  have N1 := Fr.app N0 N1q
  show own_Go p.tables e below _ (T1.setTop (mkF m 4 #[.val (.ref a1), .val (.long p2), .second] []))
  refine own_Go.by (fun tq kq => XS.lloadN X1.here hx rfl (hb hby d3_4) rfl kq) ?_
  show own_Go p.tables e below _ (T1.setTop (mkF m 5 #[.val (.ref a1), .val (.long p2), .second] [(.long p2)]))
  refine own_Go.by (fun tq kq => XS.lconst X1.here hx rfl (hb hby d3_5) kq) ?_
  show own_Go p.tables e below _ (T1.setTop (mkF m 6 #[.val (.ref a1), .val (.long p2), .second] [(.long (1 : Int64)), (.long p2)]))
  refine own_Go.by (fun tq kq => XS.lcmp X1.here hx rfl (hb hby d3_6) rfl kq) ?_
  show own_Go p.tables e below _ (T1.setTop (mkF m 7 #[.val (.ref a1), .val (.long p2), .second] [(.int (lcmpW p2 (1 : Int64)))]))
  refine own_Go.by (fun tq kq => XS.ifNo X1.here hx rfl (hb hby d3_7) rfl ((if0 _ _).trans (flt (mt (lw_lt p2 (1 : Int64)).mp hlo)).1) kq) ?_
  show own_Go p.tables e below _ (T1.setTop (mkF m 10 #[.val (.ref a1), .val (.long p2), .second] []))
  refine own_Go.by (fun tq kq => XS.lloadN X1.here hx rfl (hb hby d3_10) rfl kq) ?_
  show own_Go p.tables e below _ (T1.setTop (mkF m 11 #[.val (.ref a1), .val (.long p2), .second] [(.long p2)]))
  refine own_Go.by (fun tq kq => X1.ldc2Long hx hown (mvT hZ (hw _ (List.mem_of_getElem? (i := 22) rfl))) (g := (mkF m 11 #[.val (.ref a1), .val (.long p2), .second] [(.long p2)])) rfl (hb hby d3_11) _ kq) ?_
  show own_Go p.tables e below _ (T1.setTop (mkF m 14 #[.val (.ref a1), .val (.long p2), .second] [(.long (4611686018427387904 : Int64)), (.long p2)]))
  refine own_Go.by (fun tq kq => XS.lcmp X1.here hx rfl (hb hby d3_14) rfl kq) ?_
  show own_Go p.tables e below _ (T1.setTop (mkF m 15 #[.val (.ref a1), .val (.long p2), .second] [(.int (lcmpW p2 (4611686018427387904 : Int64)))]))
  refine own_Go.by (fun tq kq => XS.ifYes X1.here hx rfl (pc0 := 15) (pc' := 32) rfl (hb hby d3_15) rfl ((if0 _ _).trans (flt (mt (lw_gt p2 (4611686018427387904 : Int64)).mp hhi)).2.2.2) (by decide) (by decide) kq) ?_
  show own_Go p.tables e below _ (T1.setTop (mkF m 32 #[.val (.ref a1), .val (.long p2), .second] []))
  refine own_Go.by (fun tq kq => XS.aloadN X1.here hx rfl (hb hby d3_32) rfl rfl kq) ?_
  show own_Go p.tables e below _ (T1.setTop (mkF m 33 #[.val (.ref a1), .val (.long p2), .second] [(.ref a1)]))
  refine own_Go.by (fun tq kq => XS.lloadN X1.here hx rfl (hb hby d3_33) rfl kq) ?_
  show own_Go p.tables e below _ (T1.setTop (mkF m 34 #[.val (.ref a1), .val (.long p2), .second] [(.long p2), (.ref a1)]))
  obtain ⟨T2, h2, X2, e2, W2, st2⟩ := putF X1 hx hZ hown (host := "") (Or.inl (hw _ (List.mem_of_getElem? (i := 23) rfl))) Via.refl e1 H1 H0 (Or.inr ⟨(hw _ (List.mem_of_getElem? (i := 24) rfl)), rfl, hnm⟩) (hw _ (List.mem_of_getElem? (i := 9) rfl)) (ty := .long) (by decide) rfl rfl (g := (mkF m 34 #[.val (.ref a1), .val (.long p2), .second] [(.long p2), (.ref a1)])) rfl rfl (hb hby d3_34)
  refine own_Go.by st2 ?_
  have N2 := Fr.snoc X2 N1 H2
  have O3 := O0.wr W2 H2
  have K3 := K0.wr W2 (Or.inl (List.mem_of_getElem? (i := 0) rfl))
  have F2 := H1.same W2
  show own_Go p.tables e below _ (T2.setTop (mkF m 37 #[.val (.ref a1), .val (.long p2), .second] []))
  have c4 := (H0.wr W2)
  obtain ⟨fs, hr, hrun, hended, hW, hsame⟩ := X2.leave (v := none) (fun _ => rfl)
  refine own_Go.fin (X2.returnOut hx Bd.returns (hb hby d3_37) hr) ⟨hrun, hended, _, _, rfl, ?_, ⟨_, rfl⟩, hW, hsame.mono (by decide) (by decide)⟩
  show Q3 Z a1 p2 h0 n0 _ T2.heap _
  rw [e2]
  exact ⟨rfl, N2, K3, c4, F2⟩

theorem d6_0 : decode prog_29_method_2_code 0 = .ok (.lload_n 1, 1) := by decide +kernel
theorem d6_1 : decode prog_29_method_2_code 1 = .ok (.aload_n 0, 1) := by decide +kernel
theorem d6_2 : decode prog_29_method_2_code 2 = .ok (.getfield 22, 3) := by decide +kernel
theorem d6_5 : decode prog_29_method_2_code 5 = .ok (.lcmp, 1) := by decide +kernel
theorem d6_6 : decode prog_29_method_2_code 6 = .ok (.ifCond .ge 7, 3) := by decide +kernel
theorem d6_9 : decode prog_29_method_2_code 9 = .ok (.dconst 1, 1) := by decide +kernel
theorem d6_10 : decode prog_29_method_2_code 10 = .ok (.goto 4, 3) := by decide +kernel
theorem d6_14 : decode prog_29_method_2_code 14 = .ok (.dreturn, 1) := by decide +kernel
theorem own_ef_6_in (m : MethodId) (a1 : Addr) (p2 : Int64) : entryFrame m #[(.ref a1), (.long p2)] 3 = mkF m 0 #[.val (.ref a1), .val (.long p2), .second] [] := by first | (simp [entryFrame, mkF, argsToLocals, Value.category]; done) | rfl
def Q6_in (Z : State) (a1 : Addr) (p2 : Int64) (w3 : Int64) (h0 : Heap) (n0 : Nat) (v : Option Value) (h : Heap) (L : List Loc) : Prop := v = some (.double FP.dconst1) ∧ Fr n0 L ∧ h = h0
set_option maxRecDepth 65536 in
set_option maxHeartbeats 40000000 in
theorem rm6_in (l : Launch) (Z : State) (a0 : Array Value) (hw : ∀ d ∈ tables_1, d.before a0 Z = true) (ws : List Jvm.Cond) (a1 : Addr) (p2 : Int64) (w3 : Int64) (h0 : Heap) (n0 : Nat) (O0 : Old Z n0 h0) (H0 : Fld Z h0 a1 "com/example/ebbtide/ebbtide/core/WindowDecay" "size" "J" (.long w3)) (hin : p2 < w3) :
    MetFree l (⟨"com/example/ebbtide/ebbtide/core/WindowDecay", "weight", "(J)D"⟩ : MethodName) (head1 (Jvm.Cond.code (⟨"com/example/ebbtide/ebbtide/core/WindowDecay", "weight", "(J)D"⟩ : MethodName) prog_29_method_2_code 3 (some .double) :: ws) ({ frames := 0, cells := 0, slots := 0, locals := 0 } : Room)) (fun a U => a = #[(.ref a1), (.long p2)] ∧ Z.Warmed39 U.vm ∧ U.heap = h0) (fun _ _ _ _ _ => True) (fun _ U o U' => ∃ v L, o = .returned v ∧ Q6_in Z a1 p2 w3 h0 n0 v U'.heap L ∧ FrameEnd U o U' L ({ frames := 0, cells := 0, slots := 0, locals := 0 } : Room).cells ({ frames := 0, cells := 0, slots := 0, locals := 0 } : Room).slots) := by
  refine MetFree.of_bodySF (plainFor_of_name own_pn_com_example_ebbtide_ebbtide_core_WindowDecay) hisR ?_
  intro p e s m args below meth c s₁ Bd hml0 hP hK
  obtain ⟨rfl, hZ, hh⟩ := hP
  have hx := Bd.exec
  have hby := Bd.bytes
  have hml : c.maxLocals = 3 := hml0
  have hown : s.vm.findClass "com/example/ebbtide/ebbtide/core/WindowDecay" = some m.cls := findClass_of_methodNamed Bd.named
  have hnm := (name_of_methodNamed Bd.named Bd.method).1
  have X0 : Stand p l e ({ frames := 0, cells := 0, slots := 0, locals := 0 } : Room) s m #[(.ref a1), (.long p2)] below meth c s₁ [] 0 0 := Stand.of_body Bd
  have e0 : s₁.heap = h0 := by rw [← hh, Bd.state]; rfl
  have N0 := Fr.nil n0
  have K0 : Keep h0 h0 [] := Keep.refl h0 []
  show own_Go p.tables e below _ (s₁.setTop (entryFrame m #[(.ref a1), (.long p2)] 3))
  refine own_Go.by (fun tq kq => castTop (own_ef_6_in m a1 p2) kq) ?_
  show own_Go p.tables e below _ (s₁.setTop (mkF m 0 #[.val (.ref a1), .val (.long p2), .second] []))
  refine own_Go.by (fun tq kq => XS.lloadN X0.here hx rfl (hb hby d6_0) rfl kq) ?_
  show own_Go p.tables e below _ (s₁.setTop (mkF m 1 #[.val (.ref a1), .val (.long p2), .second] [(.long p2)]))
  refine own_Go.by (fun tq kq => XS.aloadN X0.here hx rfl (hb hby d6_1) rfl rfl kq) ?_
  show own_Go p.tables e below _ (s₁.setTop (mkF m 2 #[.val (.ref a1), .val (.long p2), .second] [(.ref a1), (.long p2)]))
  obtain ⟨T1, X1, e1, st1⟩ := getF X0 hx hZ hown (host := "") (Or.inl (hw _ (List.mem_of_getElem? (i := 23) rfl))) Via.refl e0 H0 (g := (mkF m 2 #[.val (.ref a1), .val (.long p2), .second] [(.ref a1), (.long p2)])) rfl rfl (hb hby d6_2)
  refine own_Go.by st1 ?_
  show own_Go p.tables e below _ (T1.setTop (mkF m 5 #[.val (.ref a1), .val (.long p2), .second] [(.long w3), (.long p2)]))
  refine own_Go.by (fun tq kq => XS.lcmp X1.here hx rfl (hb hby d6_5) rfl kq) ?_
  show own_Go p.tables e below _ (T1.setTop (mkF m 6 #[.val (.ref a1), .val (.long p2), .second] [(.int (lcmpW p2 w3))]))
  refine own_Go.by (fun tq kq => XS.ifNo X1.here hx rfl (hb hby d6_6) rfl ((if0 _ _).trans (tlt ((lw_lt p2 w3).mpr hin)).2.1) kq) ?_
  show own_Go p.tables e below _ (T1.setTop (mkF m 9 #[.val (.ref a1), .val (.long p2), .second] []))
  refine own_Go.by (fun tq kq => own_dconst1 X1.here hx rfl (hb hby d6_9) kq) ?_
  show own_Go p.tables e below _ (T1.setTop (mkF m 10 #[.val (.ref a1), .val (.long p2), .second] [(.double FP.dconst1)]))
  refine own_Go.by (fun tq kq => XS.goto X1.here hx rfl (pc0 := 10) (pc' := 14) rfl (hb hby d6_10) (by decide) (by decide) kq) ?_
  show own_Go p.tables e below _ (T1.setTop (mkF m 14 #[.val (.ref a1), .val (.long p2), .second] [(.double FP.dconst1)]))
  obtain ⟨fs, hr, hrun, hended, hW, hsame⟩ := X1.leave (v := some (.double FP.dconst1)) (fun h => by rw [Bd.returns] at h; cases h)
  refine own_Go.fin (retOut X1 hx Bd.returns rfl (Or.inr (Or.inr (Or.inl ⟨rfl, rfl, _, rfl⟩))) (hb hby d6_14) hr) ⟨hrun, hended, _, _, rfl, ?_, ⟨_, rfl⟩, hW, hsame.mono (by decide) (by decide)⟩
  show Q6_in Z a1 p2 w3 h0 n0 _ T1.heap _
  rw [e1]
  exact ⟨rfl, N0, rfl⟩

theorem d6_13 : decode prog_29_method_2_code 13 = .ok (.dconst 0, 1) := by decide +kernel
theorem own_ef_6_out (m : MethodId) (a1 : Addr) (p2 : Int64) : entryFrame m #[(.ref a1), (.long p2)] 3 = mkF m 0 #[.val (.ref a1), .val (.long p2), .second] [] := by first | (simp [entryFrame, mkF, argsToLocals, Value.category]; done) | rfl
def Q6_out (Z : State) (a1 : Addr) (p2 : Int64) (w3 : Int64) (h0 : Heap) (n0 : Nat) (v : Option Value) (h : Heap) (L : List Loc) : Prop := v = some (.double FP.dconst0) ∧ Fr n0 L ∧ h = h0
set_option maxRecDepth 65536 in
set_option maxHeartbeats 40000000 in
theorem rm6_out (l : Launch) (Z : State) (a0 : Array Value) (hw : ∀ d ∈ tables_1, d.before a0 Z = true) (ws : List Jvm.Cond) (a1 : Addr) (p2 : Int64) (w3 : Int64) (h0 : Heap) (n0 : Nat) (O0 : Old Z n0 h0) (H0 : Fld Z h0 a1 "com/example/ebbtide/ebbtide/core/WindowDecay" "size" "J" (.long w3)) (hin : ¬ (p2 < w3)) :
    MetFree l (⟨"com/example/ebbtide/ebbtide/core/WindowDecay", "weight", "(J)D"⟩ : MethodName) (head1 (Jvm.Cond.code (⟨"com/example/ebbtide/ebbtide/core/WindowDecay", "weight", "(J)D"⟩ : MethodName) prog_29_method_2_code 3 (some .double) :: ws) ({ frames := 0, cells := 0, slots := 0, locals := 0 } : Room)) (fun a U => a = #[(.ref a1), (.long p2)] ∧ Z.Warmed39 U.vm ∧ U.heap = h0) (fun _ _ _ _ _ => True) (fun _ U o U' => ∃ v L, o = .returned v ∧ Q6_out Z a1 p2 w3 h0 n0 v U'.heap L ∧ FrameEnd U o U' L ({ frames := 0, cells := 0, slots := 0, locals := 0 } : Room).cells ({ frames := 0, cells := 0, slots := 0, locals := 0 } : Room).slots) := by
  refine MetFree.of_bodySF (plainFor_of_name own_pn_com_example_ebbtide_ebbtide_core_WindowDecay) hisR ?_
  intro p e s m args below meth c s₁ Bd hml0 hP hK
  obtain ⟨rfl, hZ, hh⟩ := hP
  have hx := Bd.exec
  have hby := Bd.bytes
  have hml : c.maxLocals = 3 := hml0
  have hown : s.vm.findClass "com/example/ebbtide/ebbtide/core/WindowDecay" = some m.cls := findClass_of_methodNamed Bd.named
  have hnm := (name_of_methodNamed Bd.named Bd.method).1
  have X0 : Stand p l e ({ frames := 0, cells := 0, slots := 0, locals := 0 } : Room) s m #[(.ref a1), (.long p2)] below meth c s₁ [] 0 0 := Stand.of_body Bd
  have e0 : s₁.heap = h0 := by rw [← hh, Bd.state]; rfl
  have N0 := Fr.nil n0
  have K0 : Keep h0 h0 [] := Keep.refl h0 []
  show own_Go p.tables e below _ (s₁.setTop (entryFrame m #[(.ref a1), (.long p2)] 3))
  refine own_Go.by (fun tq kq => castTop (own_ef_6_out m a1 p2) kq) ?_
  show own_Go p.tables e below _ (s₁.setTop (mkF m 0 #[.val (.ref a1), .val (.long p2), .second] []))
  refine own_Go.by (fun tq kq => XS.lloadN X0.here hx rfl (hb hby d6_0) rfl kq) ?_
  show own_Go p.tables e below _ (s₁.setTop (mkF m 1 #[.val (.ref a1), .val (.long p2), .second] [(.long p2)]))
  refine own_Go.by (fun tq kq => XS.aloadN X0.here hx rfl (hb hby d6_1) rfl rfl kq) ?_
  show own_Go p.tables e below _ (s₁.setTop (mkF m 2 #[.val (.ref a1), .val (.long p2), .second] [(.ref a1), (.long p2)]))
  obtain ⟨T1, X1, e1, st1⟩ := getF X0 hx hZ hown (host := "") (Or.inl (hw _ (List.mem_of_getElem? (i := 23) rfl))) Via.refl e0 H0 (g := (mkF m 2 #[.val (.ref a1), .val (.long p2), .second] [(.ref a1), (.long p2)])) rfl rfl (hb hby d6_2)
  refine own_Go.by st1 ?_
  show own_Go p.tables e below _ (T1.setTop (mkF m 5 #[.val (.ref a1), .val (.long p2), .second] [(.long w3), (.long p2)]))
  refine own_Go.by (fun tq kq => XS.lcmp X1.here hx rfl (hb hby d6_5) rfl kq) ?_
  show own_Go p.tables e below _ (T1.setTop (mkF m 6 #[.val (.ref a1), .val (.long p2), .second] [(.int (lcmpW p2 w3))]))
  refine own_Go.by (fun tq kq => XS.ifYes X1.here hx rfl (pc0 := 6) (pc' := 13) rfl (hb hby d6_6) rfl ((if0 _ _).trans (flt (mt (lw_lt p2 w3).mp hin)).2.1) (by decide) (by decide) kq) ?_
  show own_Go p.tables e below _ (T1.setTop (mkF m 13 #[.val (.ref a1), .val (.long p2), .second] []))
  refine own_Go.by (fun tq kq => own_dconst0 X1.here hx rfl (hb hby d6_13) kq) ?_
  show own_Go p.tables e below _ (T1.setTop (mkF m 14 #[.val (.ref a1), .val (.long p2), .second] [(.double FP.dconst0)]))
  obtain ⟨fs, hr, hrun, hended, hW, hsame⟩ := X1.leave (v := some (.double FP.dconst0)) (fun h => by rw [Bd.returns] at h; cases h)
  refine own_Go.fin (retOut X1 hx Bd.returns rfl (Or.inr (Or.inr (Or.inl ⟨rfl, rfl, _, rfl⟩))) (hb hby d6_14) hr) ⟨hrun, hended, _, _, rfl, ?_, ⟨_, rfl⟩, hW, hsame.mono (by decide) (by decide)⟩
  show Q6_out Z a1 p2 w3 h0 n0 _ T1.heap _
  rw [e1]
  exact ⟨rfl, N0, rfl⟩

theorem own_pd1 : parseMethodDescriptor "(JJ)J" = some ⟨[.long, .long], some .long⟩ := by decide +kernel
theorem own_pd2 : parseMethodDescriptor "(J)V" = some ⟨[.long], none⟩ := by decide +kernel
theorem own_pd3 : parseMethodDescriptor "(J)D" = some ⟨[.long], some .double⟩ := by decide +kernel
theorem own_pn_com_example_ebbtide_ebbtide_core_WindowDecayWeightPinLaw : plainName "com/example/ebbtide/ebbtide/core/WindowDecayWeightPinLaw" = true := by first | (simp [plainName, overriddenIn]; done) | decide +kernel
theorem own_ef_0 (m : MethodId) (q1 : Int64) (q2 : Int64) (q3 : Int64) : entryFrame m #[(.long q1), (.long q2), (.long q3)] maxLocals = mkF m 0 #[.val (.long q1), .second, .val (.long q2), .second, .val (.long q3), .second, .unset, .unset, .unset, .unset, .unset, .unset, .unset, .unset, .unset, .unset, .unset, .unset, .unset, .unset] [] := by first | (simp [entryFrame, mkF, argsToLocals, Value.category, maxLocals]; done) | rfl
def Q0 (Z : State) (q1 : Int64) (q2 : Int64) (q3 : Int64) (h0 : Heap) (n0 : Nat) (v : Option Value) (h : Heap) (L : List Loc) : Prop := v = some (.int (1 : Int32)) ∧ Fr n0 L ∧ Keep h0 h []
set_option maxRecDepth 65536 in
set_option maxHeartbeats 40000000 in
theorem rm0 (l : Launch) (Z : State) (a0 : Array Value) (hw : ∀ d ∈ tables_1, d.before a0 Z = true) (ws : List Jvm.Cond) (q1 : Int64) (q2 : Int64) (q3 : Int64) (h0 : Heap) (n0 : Nat) (O0 : Old Z n0 h0) :
    MetFree l x (head1 (Jvm.Cond.code x code maxLocals ret :: ws) room_1) (fun a U => a = #[(.long q1), (.long q2), (.long q3)] ∧ Z.Warmed39 U.vm ∧ U.heap = h0) (fun _ _ _ _ _ => True) (fun _ U o U' => ∃ v L, o = .returned v ∧ Q0 Z q1 q2 q3 h0 n0 v U'.heap L ∧ FrameEnd U o U' L room_1.cells room_1.slots) := by
  refine MetFree.of_bodySF (plainFor_of_name own_pn_com_example_ebbtide_ebbtide_core_WindowDecayWeightPinLaw) hisR ?_
  intro p e s m args below meth c s₁ Bd hml0 hP hK
  obtain ⟨rfl, hZ, hh⟩ := hP
  have hx := Bd.exec
  have hby := Bd.bytes
  have hml : c.maxLocals = 20 := hml0
  have hown : s.vm.findClass "com/example/ebbtide/ebbtide/core/WindowDecayWeightPinLaw" = some m.cls := findClass_of_methodNamed Bd.named
  have hnm := (name_of_methodNamed Bd.named Bd.method).1
  have X0 : Stand p l e room_1 s m #[(.long q1), (.long q2), (.long q3)] below meth c s₁ [] 0 0 := Stand.of_body Bd
  have e0 : s₁.heap = h0 := by rw [← hh, Bd.state]; rfl
  have N0 := Fr.nil n0
  have K0 : Keep h0 h0 [] := Keep.refl h0 []
  show own_Go p.tables e below _ (s₁.setTop (entryFrame m #[(.long q1), (.long q2), (.long q3)] maxLocals))
  refine own_Go.by (fun tq kq => castTop (own_ef_0 m q1 q2 q3) kq) ?_
  show own_Go p.tables e below _ (s₁.setTop (mkF m 0 #[.val (.long q1), .second, .val (.long q2), .second, .val (.long q3), .second, .unset, .unset, .unset, .unset, .unset, .unset, .unset, .unset, .unset, .unset, .unset, .unset, .unset, .unset] []))
  refine own_Go.by (fun tq kq => XS.lloadN X0.here hx rfl (hb hby at_0) rfl kq) ?_
  show own_Go p.tables e below _ (s₁.setTop (mkF m 1 #[.val (.long q1), .second, .val (.long q2), .second, .val (.long q3), .second, .unset, .unset, .unset, .unset, .unset, .unset, .unset, .unset, .unset, .unset, .unset, .unset, .unset, .unset] [(.long q1)]))
  refine own_Go.by (fun tq kq => X0.ldc2Long hx hown (mvT hZ (hw _ (List.mem_of_getElem? (i := 0) rfl))) (g := (mkF m 1 #[.val (.long q1), .second, .val (.long q2), .second, .val (.long q3), .second, .unset, .unset, .unset, .unset, .unset, .unset, .unset, .unset, .unset, .unset, .unset, .unset, .unset, .unset] [(.long q1)])) rfl (hb hby at_1) _ kq) ?_
  show own_Go p.tables e below _ (s₁.setTop (mkF m 4 #[.val (.long q1), .second, .val (.long q2), .second, .val (.long q3), .second, .unset, .unset, .unset, .unset, .unset, .unset, .unset, .unset, .unset, .unset, .unset, .unset, .unset, .unset] [(.long (4611686018427387903 : Int64)), (.long q1)]))
  refine own_Go.by (fun tq kq => XS.land X0.here hx rfl (hb hby at_4) rfl kq) ?_
  show own_Go p.tables e below _ (s₁.setTop (mkF m 5 #[.val (.long q1), .second, .val (.long q2), .second, .val (.long q3), .second, .unset, .unset, .unset, .unset, .unset, .unset, .unset, .unset, .unset, .unset, .unset, .unset, .unset, .unset] [(.long (q1 &&& (4611686018427387903 : Int64)))]))
  refine own_Go.by (fun tq kq => XS.lconst X0.here hx rfl (hb hby at_5) kq) ?_
  show own_Go p.tables e below _ (s₁.setTop (mkF m 6 #[.val (.long q1), .second, .val (.long q2), .second, .val (.long q3), .second, .unset, .unset, .unset, .unset, .unset, .unset, .unset, .unset, .unset, .unset, .unset, .unset, .unset, .unset] [(.long (1 : Int64)), (.long (q1 &&& (4611686018427387903 : Int64)))]))
  refine own_Go.by (fun tq kq => XS.ladd X0.here hx rfl (hb hby at_6) rfl kq) ?_
  show own_Go p.tables e below _ (s₁.setTop (mkF m 7 #[.val (.long q1), .second, .val (.long q2), .second, .val (.long q3), .second, .unset, .unset, .unset, .unset, .unset, .unset, .unset, .unset, .unset, .unset, .unset, .unset, .unset, .unset] [(.long ((q1 &&& (4611686018427387903 : Int64)) + (1 : Int64)))]))
  refine own_Go.by (fun tq kq => XS.lstore X0.here hx rfl (hb hby at_7) rfl (l' := #[.val (.long q1), .second, .val (.long q2), .second, .val (.long q3), .second, .val (.long ((q1 &&& (4611686018427387903 : Int64)) + (1 : Int64))), .second, .unset, .unset, .unset, .unset, .unset, .unset, .unset, .unset, .unset, .unset, .unset, .unset]) rfl kq) ?_
  show own_Go p.tables e below _ (s₁.setTop (mkF m 9 #[.val (.long q1), .second, .val (.long q2), .second, .val (.long q3), .second, .val (.long ((q1 &&& (4611686018427387903 : Int64)) + (1 : Int64))), .second, .unset, .unset, .unset, .unset, .unset, .unset, .unset, .unset, .unset, .unset, .unset, .unset] []))
  generalize hv_size : ((q1 &&& (4611686018427387903 : Int64)) + (1 : Int64)) = size
  show own_Go p.tables e below _ (s₁.setTop (mkF m 9 #[.val (.long q1), .second, .val (.long q2), .second, .val (.long q3), .second, .val (.long size), .second, .unset, .unset, .unset, .unset, .unset, .unset, .unset, .unset, .unset, .unset, .unset, .unset] []))
  refine own_Go.by (fun tq kq => XS.lloadN X0.here hx rfl (hb hby at_9) rfl kq) ?_
  show own_Go p.tables e below _ (s₁.setTop (mkF m 10 #[.val (.long q1), .second, .val (.long q2), .second, .val (.long q3), .second, .val (.long size), .second, .unset, .unset, .unset, .unset, .unset, .unset, .unset, .unset, .unset, .unset, .unset, .unset] [(.long q2)]))
  refine own_Go.by (fun tq kq => X0.ldc2Long hx hown (mvT hZ (hw _ (List.mem_of_getElem? (i := 0) rfl))) (g := (mkF m 10 #[.val (.long q1), .second, .val (.long q2), .second, .val (.long q3), .second, .val (.long size), .second, .unset, .unset, .unset, .unset, .unset, .unset, .unset, .unset, .unset, .unset, .unset, .unset] [(.long q2)])) rfl (hb hby at_10) _ kq) ?_
  show own_Go p.tables e below _ (s₁.setTop (mkF m 13 #[.val (.long q1), .second, .val (.long q2), .second, .val (.long q3), .second, .val (.long size), .second, .unset, .unset, .unset, .unset, .unset, .unset, .unset, .unset, .unset, .unset, .unset, .unset] [(.long (4611686018427387903 : Int64)), (.long q2)]))
  refine own_Go.by (fun tq kq => XS.land X0.here hx rfl (hb hby at_13) rfl kq) ?_
  show own_Go p.tables e below _ (s₁.setTop (mkF m 14 #[.val (.long q1), .second, .val (.long q2), .second, .val (.long q3), .second, .val (.long size), .second, .unset, .unset, .unset, .unset, .unset, .unset, .unset, .unset, .unset, .unset, .unset, .unset] [(.long (q2 &&& (4611686018427387903 : Int64)))]))
  refine own_Go.by (fun tq kq => XS.lstore X0.here hx rfl (hb hby at_14) rfl (l' := #[.val (.long q1), .second, .val (.long q2), .second, .val (.long q3), .second, .val (.long size), .second, .val (.long (q2 &&& (4611686018427387903 : Int64))), .second, .unset, .unset, .unset, .unset, .unset, .unset, .unset, .unset, .unset, .unset]) rfl kq) ?_
  show own_Go p.tables e below _ (s₁.setTop (mkF m 16 #[.val (.long q1), .second, .val (.long q2), .second, .val (.long q3), .second, .val (.long size), .second, .val (.long (q2 &&& (4611686018427387903 : Int64))), .second, .unset, .unset, .unset, .unset, .unset, .unset, .unset, .unset, .unset, .unset] []))
  generalize hv_xx : (q2 &&& (4611686018427387903 : Int64)) = xx
  show own_Go p.tables e below _ (s₁.setTop (mkF m 16 #[.val (.long q1), .second, .val (.long q2), .second, .val (.long q3), .second, .val (.long size), .second, .val (.long xx), .second, .unset, .unset, .unset, .unset, .unset, .unset, .unset, .unset, .unset, .unset] []))
  refine own_Go.by (fun tq kq => XS.lload X0.here hx rfl (hb hby at_16) rfl kq) ?_
  show own_Go p.tables e below _ (s₁.setTop (mkF m 18 #[.val (.long q1), .second, .val (.long q2), .second, .val (.long q3), .second, .val (.long size), .second, .val (.long xx), .second, .unset, .unset, .unset, .unset, .unset, .unset, .unset, .unset, .unset, .unset] [(.long q3)]))
  refine own_Go.by (fun tq kq => X0.ldc2Long hx hown (mvT hZ (hw _ (List.mem_of_getElem? (i := 0) rfl))) (g := (mkF m 18 #[.val (.long q1), .second, .val (.long q2), .second, .val (.long q3), .second, .val (.long size), .second, .val (.long xx), .second, .unset, .unset, .unset, .unset, .unset, .unset, .unset, .unset, .unset, .unset] [(.long q3)])) rfl (hb hby at_18) _ kq) ?_
  show own_Go p.tables e below _ (s₁.setTop (mkF m 21 #[.val (.long q1), .second, .val (.long q2), .second, .val (.long q3), .second, .val (.long size), .second, .val (.long xx), .second, .unset, .unset, .unset, .unset, .unset, .unset, .unset, .unset, .unset, .unset] [(.long (4611686018427387903 : Int64)), (.long q3)]))
  refine own_Go.by (fun tq kq => XS.land X0.here hx rfl (hb hby at_21) rfl kq) ?_
  show own_Go p.tables e below _ (s₁.setTop (mkF m 22 #[.val (.long q1), .second, .val (.long q2), .second, .val (.long q3), .second, .val (.long size), .second, .val (.long xx), .second, .unset, .unset, .unset, .unset, .unset, .unset, .unset, .unset, .unset, .unset] [(.long (q3 &&& (4611686018427387903 : Int64)))]))
  refine own_Go.by (fun tq kq => XS.lstore X0.here hx rfl (hb hby at_22) rfl (l' := #[.val (.long q1), .second, .val (.long q2), .second, .val (.long q3), .second, .val (.long size), .second, .val (.long xx), .second, .val (.long (q3 &&& (4611686018427387903 : Int64))), .second, .unset, .unset, .unset, .unset, .unset, .unset, .unset, .unset]) rfl kq) ?_
  show own_Go p.tables e below _ (s₁.setTop (mkF m 24 #[.val (.long q1), .second, .val (.long q2), .second, .val (.long q3), .second, .val (.long size), .second, .val (.long xx), .second, .val (.long (q3 &&& (4611686018427387903 : Int64))), .second, .unset, .unset, .unset, .unset, .unset, .unset, .unset, .unset] []))
  generalize hv_yy : (q3 &&& (4611686018427387903 : Int64)) = yy
  show own_Go p.tables e below _ (s₁.setTop (mkF m 24 #[.val (.long q1), .second, .val (.long q2), .second, .val (.long q3), .second, .val (.long size), .second, .val (.long xx), .second, .val (.long yy), .second, .unset, .unset, .unset, .unset, .unset, .unset, .unset, .unset] []))
  refine own_Go.by (fun tq kq => XS.lload X0.here hx rfl (hb hby at_24) rfl kq) ?_
  show own_Go p.tables e below _ (s₁.setTop (mkF m 26 #[.val (.long q1), .second, .val (.long q2), .second, .val (.long q3), .second, .val (.long size), .second, .val (.long xx), .second, .val (.long yy), .second, .unset, .unset, .unset, .unset, .unset, .unset, .unset, .unset] [(.long xx)]))
  refine own_Go.by (fun tq kq => XS.lload X0.here hx rfl (hb hby at_26) rfl kq) ?_
  show own_Go p.tables e below _ (s₁.setTop (mkF m 28 #[.val (.long q1), .second, .val (.long q2), .second, .val (.long q3), .second, .val (.long size), .second, .val (.long xx), .second, .val (.long yy), .second, .unset, .unset, .unset, .unset, .unset, .unset, .unset, .unset] [(.long yy), (.long xx)]))
  obtain ⟨_, _, ⟨T1, L1, k1, n1⟩, -, X1, ⟨Lc1, hQ1, l1, y1, z1⟩, st1⟩ := Jvm.LawKit.callS X0 hx (y := (⟨"java/lang/Math", "max", "(JJ)J"⟩ : MethodName)) hown (mvT hZ (hw _ (List.mem_of_getElem? (i := 1) rfl))) (mvT hZ (hw _ (List.mem_of_getElem? (i := 2) rfl))) (mvT hZ (hw _ (List.mem_of_getElem? (i := 3) rfl))) (mvT hZ (hw _ (List.mem_of_getElem? (i := 4) rfl))) (by decide) (backOf (W := 0) (rm1 l Z a0 hw [] xx yy h0 n0 O0 ) hZ (hw _ (List.mem_of_getElem? (i := 4) rfl)) (hw _ (List.mem_of_getElem? (i := 3) rfl)) (by decide) (by decide)) (g := (mkF m 28 #[.val (.long q1), .second, .val (.long q2), .second, .val (.long q3), .second, .val (.long size), .second, .val (.long xx), .second, .val (.long yy), .second, .unset, .unset, .unset, .unset, .unset, .unset, .unset, .unset] [(.long yy), (.long xx)])) rfl (by rw [hml]; rfl) (argsL := [(.long xx), (.long yy)]) (rest := []) (lenOf own_pd1 rfl) rfl (by show 2 * 0 + _ ≤ _; exact Nat.le_of_eq rfl) (hb hby at_28) (fun _ _ => ⟨rfl, e0, (by decide : 0 + 0 ≤ _), (by decide : 0 + 0 ≤ _)⟩)
  dsimp only [Pt.U, Pt.locs, Pt.cells, Pt.slots] at X1 l1 y1 z1 st1 hQ1
  subst l1 y1 z1
  refine own_Go.by st1 ?_
  obtain ⟨rfl, N1q, e1⟩ := hQ1
  have N1 := Fr.app N0 N1q
  show own_Go p.tables e below _ (T1.setTop (mkF m 31 #[.val (.long q1), .second, .val (.long q2), .second, .val (.long q3), .second, .val (.long size), .second, .val (.long xx), .second, .val (.long yy), .second, .unset, .unset, .unset, .unset, .unset, .unset, .unset, .unset] [(.long (if xx < yy then yy else xx))]))
  refine own_Go.by (fun tq kq => XS.lstore X1.here hx rfl (hb hby at_31) rfl (l' := #[.val (.long q1), .second, .val (.long q2), .second, .val (.long q3), .second, .val (.long size), .second, .val (.long xx), .second, .val (.long yy), .second, .val (.long (if xx < yy then yy else xx)), .second, .unset, .unset, .unset, .unset, .unset, .unset]) rfl kq) ?_
  show own_Go p.tables e below _ (T1.setTop (mkF m 33 #[.val (.long q1), .second, .val (.long q2), .second, .val (.long q3), .second, .val (.long size), .second, .val (.long xx), .second, .val (.long yy), .second, .val (.long (if xx < yy then yy else xx)), .second, .unset, .unset, .unset, .unset, .unset, .unset] []))
  generalize hv_now : (if xx < yy then yy else xx) = now
  show own_Go p.tables e below _ (T1.setTop (mkF m 33 #[.val (.long q1), .second, .val (.long q2), .second, .val (.long q3), .second, .val (.long size), .second, .val (.long xx), .second, .val (.long yy), .second, .val (.long now), .second, .unset, .unset, .unset, .unset, .unset, .unset] []))
  refine own_Go.by (fun tq kq => XS.lload X1.here hx rfl (hb hby at_33) rfl kq) ?_
  show own_Go p.tables e below _ (T1.setTop (mkF m 35 #[.val (.long q1), .second, .val (.long q2), .second, .val (.long q3), .second, .val (.long size), .second, .val (.long xx), .second, .val (.long yy), .second, .val (.long now), .second, .unset, .unset, .unset, .unset, .unset, .unset] [(.long xx)]))
  refine own_Go.by (fun tq kq => XS.lload X1.here hx rfl (hb hby at_35) rfl kq) ?_
  show own_Go p.tables e below _ (T1.setTop (mkF m 37 #[.val (.long q1), .second, .val (.long q2), .second, .val (.long q3), .second, .val (.long size), .second, .val (.long xx), .second, .val (.long yy), .second, .val (.long now), .second, .unset, .unset, .unset, .unset, .unset, .unset] [(.long yy), (.long xx)]))
  obtain ⟨_, _, ⟨T2, L2, k2, n2⟩, -, X2, ⟨Lc2, hQ2, l2, y2, z2⟩, st2⟩ := Jvm.LawKit.callS X1 hx (y := (⟨"java/lang/Math", "min", "(JJ)J"⟩ : MethodName)) hown (mvT hZ (hw _ (List.mem_of_getElem? (i := 5) rfl))) (mvT hZ (hw _ (List.mem_of_getElem? (i := 6) rfl))) (mvT hZ (hw _ (List.mem_of_getElem? (i := 3) rfl))) (mvT hZ (hw _ (List.mem_of_getElem? (i := 7) rfl))) (by decide) (backOf (W := 0) (rm2 l Z a0 hw [] xx yy h0 n0 O0 ) hZ (hw _ (List.mem_of_getElem? (i := 7) rfl)) (hw _ (List.mem_of_getElem? (i := 3) rfl)) (by decide) (by decide)) (g := (mkF m 37 #[.val (.long q1), .second, .val (.long q2), .second, .val (.long q3), .second, .val (.long size), .second, .val (.long xx), .second, .val (.long yy), .second, .val (.long now), .second, .unset, .unset, .unset, .unset, .unset, .unset] [(.long yy), (.long xx)])) rfl (by rw [hml]; rfl) (argsL := [(.long xx), (.long yy)]) (rest := []) (lenOf own_pd1 rfl) rfl (by show 2 * 0 + _ ≤ _; exact Nat.le_of_eq rfl) (hb hby at_37) (fun _ _ => ⟨rfl, e1, (by decide : 0 + 0 ≤ _), (by decide : 0 + 0 ≤ _)⟩)
  dsimp only [Pt.U, Pt.locs, Pt.cells, Pt.slots] at X2 l2 y2 z2 st2 hQ2
  subst l2 y2 z2
  refine own_Go.by st2 ?_
  obtain ⟨rfl, N2q, e2⟩ := hQ2
  have N2 := Fr.app N1 N2q
  show own_Go p.tables e below _ (T2.setTop (mkF m 40 #[.val (.long q1), .second, .val (.long q2), .second, .val (.long q3), .second, .val (.long size), .second, .val (.long xx), .second, .val (.long yy), .second, .val (.long now), .second, .unset, .unset, .unset, .unset, .unset, .unset] [(.long (if yy < xx then yy else xx))]))
  refine own_Go.by (fun tq kq => XS.lstore X2.here hx rfl (hb hby at_40) rfl (l' := #[.val (.long q1), .second, .val (.long q2), .second, .val (.long q3), .second, .val (.long size), .second, .val (.long xx), .second, .val (.long yy), .second, .val (.long now), .second, .val (.long (if yy < xx then yy else xx)), .second, .unset, .unset, .unset, .unset]) rfl kq) ?_
  show own_Go p.tables e below _ (T2.setTop (mkF m 42 #[.val (.long q1), .second, .val (.long q2), .second, .val (.long q3), .second, .val (.long size), .second, .val (.long xx), .second, .val (.long yy), .second, .val (.long now), .second, .val (.long (if yy < xx then yy else xx)), .second, .unset, .unset, .unset, .unset] []))
  generalize hv_tt : (if yy < xx then yy else xx) = tt
  have hszc := own_szc hv_size
  show own_Go p.tables e below _ (T2.setTop (mkF m 42 #[.val (.long q1), .second, .val (.long q2), .second, .val (.long q3), .second, .val (.long size), .second, .val (.long xx), .second, .val (.long yy), .second, .val (.long now), .second, .val (.long tt), .second, .unset, .unset, .unset, .unset] []))
  obtain ⟨T3, h3, X3, e3, E3, A3, D3, -, st3⟩ := newO X2 hx hZ hown (hw _ (List.mem_of_getElem? (i := 8) rfl)) (hw _ (List.mem_of_getElem? (i := 9) rfl)) (hw _ (List.mem_of_getElem? (i := 10) rfl)) e2 (g := (mkF m 42 #[.val (.long q1), .second, .val (.long q2), .second, .val (.long q3), .second, .val (.long size), .second, .val (.long xx), .second, .val (.long yy), .second, .val (.long now), .second, .val (.long tt), .second, .unset, .unset, .unset, .unset] [])) rfl (hb hby at_42) (by decide) (by decide)
  obtain ⟨b3, y3⟩ : ∃ z, z = h0.size := ⟨_, rfl⟩
  rw [← y3] at A3 D3 st3
  refine own_Go.by st3 ?_
  have O4 := O0.ext E3
  have K4 := K0.ext E3
  have g5 : n0 ≤ b3 := Nat.le_trans (own_old_le O0) (Nat.le_of_eq y3.symm)
  have z5 : h0.size ≤ b3 := Nat.le_trans K0.1 (Nat.le_of_eq y3.symm)
  have F3_size : Fld Z h3 b3 "com/example/ebbtide/ebbtide/core/WindowDecay" "size" "J" (.long (0 : Int64)) := D3 (Or.inr (hw _ (List.mem_of_getElem? (i := 24) rfl))) (ty := .long) (by decide)
  show own_Go p.tables e below _ (T3.setTop (mkF m 45 #[.val (.long q1), .second, .val (.long q2), .second, .val (.long q3), .second, .val (.long size), .second, .val (.long xx), .second, .val (.long yy), .second, .val (.long now), .second, .val (.long tt), .second, .unset, .unset, .unset, .unset] [(.ref b3)]))
  refine own_Go.by (fun tq kq => XS.dup X3.here hx rfl (hb hby at_45) rfl rfl kq) ?_
  show own_Go p.tables e below _ (T3.setTop (mkF m 46 #[.val (.long q1), .second, .val (.long q2), .second, .val (.long q3), .second, .val (.long size), .second, .val (.long xx), .second, .val (.long yy), .second, .val (.long now), .second, .val (.long tt), .second, .unset, .unset, .unset, .unset] [(.ref b3), (.ref b3)]))
  refine own_Go.by (fun tq kq => XS.lload X3.here hx rfl (hb hby at_46) rfl kq) ?_
  show own_Go p.tables e below _ (T3.setTop (mkF m 48 #[.val (.long q1), .second, .val (.long q2), .second, .val (.long q3), .second, .val (.long size), .second, .val (.long xx), .second, .val (.long yy), .second, .val (.long now), .second, .val (.long tt), .second, .unset, .unset, .unset, .unset] [(.long size), (.ref b3), (.ref b3)]))
  obtain ⟨_, _, ⟨T6, L6, k6, n6⟩, -, X6, ⟨Lc6, hQ6, l6, y6, z6⟩, st6⟩ := X3.specialBack hx (y := (⟨"com/example/ebbtide/ebbtide/core/WindowDecay", "<init>", "(J)V"⟩ : MethodName)) rfl hown (mvT hZ (hw _ (List.mem_of_getElem? (i := 11) rfl))) (mvT hZ (hw _ (List.mem_of_getElem? (i := 12) rfl))) (mvT hZ (hw _ (List.mem_of_getElem? (i := 13) rfl))) (by decide) (backOf (W := 1) (rm3 l Z a0 hw [] b3 size h3 n0 O4 A3 F3_size g5 hszc.1 hszc.2) hZ (hw _ (List.mem_of_getElem? (i := 13) rfl)) (hw _ (List.mem_of_getElem? (i := 10) rfl)) (by decide) (by decide)) (g := (mkF m 48 #[.val (.long q1), .second, .val (.long q2), .second, .val (.long q3), .second, .val (.long size), .second, .val (.long xx), .second, .val (.long yy), .second, .val (.long now), .second, .val (.long tt), .second, .unset, .unset, .unset, .unset] [(.long size), (.ref b3), (.ref b3)])) rfl (by rw [hml]; rfl) (Steps.refl _) (a := b3) (argsL := [(.long size)]) (rest := [(.ref b3)]) (lenOf own_pd2 rfl) rfl (by show 2 * 0 + _ ≤ _; exact Nat.le_of_eq rfl) (hb hby at_48) (fun _ _ => ⟨rfl, e3, (by decide : 1 + 0 ≤ _), (by decide : 1 + 0 ≤ _)⟩)
  dsimp only [Pt.U, Pt.locs, Pt.cells, Pt.slots] at X6 l6 y6 z6 st6 hQ6
  subst l6 y6 z6
  refine own_Go.by (fun tq kq => st6.trans kq) ?_
  obtain ⟨rfl, N6q, K6q, p6_0, p6_1⟩ := hQ6
  have N6 := Fr.app N2 N6q
  have O7 := O4.keep K6q (allS g5 all0)
  have K7 := K4.trans K6q (allS (Or.inr z5) all0)
  show own_Go p.tables e below _ (T6.setTop (mkF m 51 #[.val (.long q1), .second, .val (.long q2), .second, .val (.long q3), .second, .val (.long size), .second, .val (.long xx), .second, .val (.long yy), .second, .val (.long now), .second, .val (.long tt), .second, .unset, .unset, .unset, .unset] [(.ref b3)]))
  refine own_Go.by (fun tq kq => XS.astore X6.here hx rfl (hb hby at_51) rfl rfl (l' := #[.val (.long q1), .second, .val (.long q2), .second, .val (.long q3), .second, .val (.long size), .second, .val (.long xx), .second, .val (.long yy), .second, .val (.long now), .second, .val (.long tt), .second, .val (.ref b3), .unset, .unset, .unset]) rfl kq) ?_
  have hiff := own_in hv_size hv_xx hv_yy hv_now hv_tt
  by_cases hin : (now - tt) < size
  ·
    show own_Go p.tables e below _ (T6.setTop (mkF m 53 #[.val (.long q1), .second, .val (.long q2), .second, .val (.long q3), .second, .val (.long size), .second, .val (.long xx), .second, .val (.long yy), .second, .val (.long now), .second, .val (.long tt), .second, .val (.ref b3), .unset, .unset, .unset] []))
    refine own_Go.by (fun tq kq => XS.aload X6.here hx rfl (hb hby at_53) rfl rfl kq) ?_
    show own_Go p.tables e below _ (T6.setTop (mkF m 55 #[.val (.long q1), .second, .val (.long q2), .second, .val (.long q3), .second, .val (.long size), .second, .val (.long xx), .second, .val (.long yy), .second, .val (.long now), .second, .val (.long tt), .second, .val (.ref b3), .unset, .unset, .unset] [(.ref b3)]))
    refine own_Go.by (fun tq kq => XS.lload X6.here hx rfl (hb hby at_55) rfl kq) ?_
    show own_Go p.tables e below _ (T6.setTop (mkF m 57 #[.val (.long q1), .second, .val (.long q2), .second, .val (.long q3), .second, .val (.long size), .second, .val (.long xx), .second, .val (.long yy), .second, .val (.long now), .second, .val (.long tt), .second, .val (.ref b3), .unset, .unset, .unset] [(.long now), (.ref b3)]))
    refine own_Go.by (fun tq kq => XS.lload X6.here hx rfl (hb hby at_57) rfl kq) ?_
    show own_Go p.tables e below _ (T6.setTop (mkF m 59 #[.val (.long q1), .second, .val (.long q2), .second, .val (.long q3), .second, .val (.long size), .second, .val (.long xx), .second, .val (.long yy), .second, .val (.long now), .second, .val (.long tt), .second, .val (.ref b3), .unset, .unset, .unset] [(.long tt), (.long now), (.ref b3)]))
    refine own_Go.by (fun tq kq => XS.lsub X6.here hx rfl (hb hby at_59) rfl kq) ?_
    show own_Go p.tables e below _ (T6.setTop (mkF m 60 #[.val (.long q1), .second, .val (.long q2), .second, .val (.long q3), .second, .val (.long size), .second, .val (.long xx), .second, .val (.long yy), .second, .val (.long now), .second, .val (.long tt), .second, .val (.ref b3), .unset, .unset, .unset] [(.long (now - tt)), (.ref b3)]))
    obtain ⟨cq8, kq8, q8a, q8b, q8c⟩ := isOf hZ rfl p6_0
    obtain ⟨_, _, ⟨T8, L8, k8, n8⟩, -, X8, ⟨Lc8, hQ8, l8, y8, z8⟩, st8⟩ := X6.virtualBack hx (y := (⟨"com/example/ebbtide/ebbtide/core/WindowDecay", "weight", "(J)D"⟩ : MethodName)) (z := (⟨"com/example/ebbtide/ebbtide/core/WindowDecay", "weight", "(J)D"⟩ : MethodName)) hown (mvT hZ (hw _ (List.mem_of_getElem? (i := 25) rfl))) (mvT hZ (hw _ (List.mem_of_getElem? (i := 26) rfl))) (notFace_of_selects (args := #[]) (mvT hZ (hw _ (List.mem_of_getElem? (i := 28) rfl)))) (mvT hZ (hw _ (List.mem_of_getElem? (i := 28) rfl))) (mvT hZ (hw _ (List.mem_of_getElem? (i := 27) rfl))) (by decide) (backOf (W := 0) (rm6_in l Z a0 hw [] b3 (now - tt) size T6.heap n0 O7 p6_1 hin) hZ (hw _ (List.mem_of_getElem? (i := 29) rfl)) (hw _ (List.mem_of_getElem? (i := 10) rfl)) (by decide) (by decide)) q8a q8c (g := (mkF m 60 #[.val (.long q1), .second, .val (.long q2), .second, .val (.long q3), .second, .val (.long size), .second, .val (.long xx), .second, .val (.long yy), .second, .val (.long now), .second, .val (.long tt), .second, .val (.ref b3), .unset, .unset, .unset] [(.long (now - tt)), (.ref b3)])) rfl (by rw [hml]; rfl) (Steps.refl _) (argsL := [(.long (now - tt))]) (rest := []) (lenOf own_pd3 rfl) rfl (by show 2 * 0 + _ ≤ _; exact Nat.le_of_eq rfl) (hb hby at_60) (fun _ _ => ⟨rfl, rfl, (by decide : 1 + 0 ≤ _), (by decide : 1 + 0 ≤ _)⟩)
    dsimp only [Pt.U, Pt.locs, Pt.cells, Pt.slots] at X8 l8 y8 z8 st8 hQ8
    subst l8 y8 z8
    refine own_Go.by (fun tq kq => st8.trans kq) ?_
    obtain ⟨rfl, N8q, e8⟩ := hQ8
    have N8 := Fr.app N6 N8q
    show own_Go p.tables e below _ (T8.setTop (mkF m 63 #[.val (.long q1), .second, .val (.long q2), .second, .val (.long q3), .second, .val (.long size), .second, .val (.long xx), .second, .val (.long yy), .second, .val (.long now), .second, .val (.long tt), .second, .val (.ref b3), .unset, .unset, .unset] [(.double FP.dconst1)]))
    refine own_Go.by (fun tq kq => own_dstore X8.here hx rfl (hb hby at_63) rfl (l' := #[.val (.long q1), .second, .val (.long q2), .second, .val (.long q3), .second, .val (.long size), .second, .val (.long xx), .second, .val (.long yy), .second, .val (.long now), .second, .val (.long tt), .second, .val (.ref b3), .val (.double FP.dconst1), .second, .unset]) rfl kq) ?_
    show own_Go p.tables e below _ (T8.setTop (mkF m 65 #[.val (.long q1), .second, .val (.long q2), .second, .val (.long q3), .second, .val (.long size), .second, .val (.long xx), .second, .val (.long yy), .second, .val (.long now), .second, .val (.long tt), .second, .val (.ref b3), .val (.double FP.dconst1), .second, .unset] []))
    refine own_Go.by (fun tq kq => XS.lload X8.here hx rfl (hb hby at_65) rfl kq) ?_
    show own_Go p.tables e below _ (T8.setTop (mkF m 67 #[.val (.long q1), .second, .val (.long q2), .second, .val (.long q3), .second, .val (.long size), .second, .val (.long xx), .second, .val (.long yy), .second, .val (.long now), .second, .val (.long tt), .second, .val (.ref b3), .val (.double FP.dconst1), .second, .unset] [(.long now)]))
    refine own_Go.by (fun tq kq => XS.lload X8.here hx rfl (hb hby at_67) rfl kq) ?_
    show own_Go p.tables e below _ (T8.setTop (mkF m 69 #[.val (.long q1), .second, .val (.long q2), .second, .val (.long q3), .second, .val (.long size), .second, .val (.long xx), .second, .val (.long yy), .second, .val (.long now), .second, .val (.long tt), .second, .val (.ref b3), .val (.double FP.dconst1), .second, .unset] [(.long size), (.long now)]))
    refine own_Go.by (fun tq kq => XS.lsub X8.here hx rfl (hb hby at_69) rfl kq) ?_
    show own_Go p.tables e below _ (T8.setTop (mkF m 70 #[.val (.long q1), .second, .val (.long q2), .second, .val (.long q3), .second, .val (.long size), .second, .val (.long xx), .second, .val (.long yy), .second, .val (.long now), .second, .val (.long tt), .second, .val (.ref b3), .val (.double FP.dconst1), .second, .unset] [(.long (now - size))]))
    refine own_Go.by (fun tq kq => XS.lload X8.here hx rfl (hb hby at_70) rfl kq) ?_
    show own_Go p.tables e below _ (T8.setTop (mkF m 72 #[.val (.long q1), .second, .val (.long q2), .second, .val (.long q3), .second, .val (.long size), .second, .val (.long xx), .second, .val (.long yy), .second, .val (.long now), .second, .val (.long tt), .second, .val (.ref b3), .val (.double FP.dconst1), .second, .unset] [(.long tt), (.long (now - size))]))
    refine own_Go.by (fun tq kq => XS.lcmp X8.here hx rfl (hb hby at_72) rfl kq) ?_
    show own_Go p.tables e below _ (T8.setTop (mkF m 73 #[.val (.long q1), .second, .val (.long q2), .second, .val (.long q3), .second, .val (.long size), .second, .val (.long xx), .second, .val (.long yy), .second, .val (.long now), .second, .val (.long tt), .second, .val (.ref b3), .val (.double FP.dconst1), .second, .unset] [(.int (lcmpW (now - size) tt))]))
    refine own_Go.by (fun tq kq => XS.ifNo X8.here hx rfl (hb hby at_73) rfl ((if0 _ _).trans (tlt ((lw_lt (now - size) tt).mpr (hiff.mp hin))).2.1) kq) ?_
    show own_Go p.tables e below _ (T8.setTop (mkF m 76 #[.val (.long q1), .second, .val (.long q2), .second, .val (.long q3), .second, .val (.long size), .second, .val (.long xx), .second, .val (.long yy), .second, .val (.long now), .second, .val (.long tt), .second, .val (.ref b3), .val (.double FP.dconst1), .second, .unset] []))
    refine own_Go.by (fun tq kq => XS.iconst X8.here hx rfl (hb hby at_76) kq) ?_
    show own_Go p.tables e below _ (T8.setTop (mkF m 77 #[.val (.long q1), .second, .val (.long q2), .second, .val (.long q3), .second, .val (.long size), .second, .val (.long xx), .second, .val (.long yy), .second, .val (.long now), .second, .val (.long tt), .second, .val (.ref b3), .val (.double FP.dconst1), .second, .unset] [(.int (1 : Int32))]))
    refine own_Go.by (fun tq kq => XS.goto X8.here hx rfl (pc0 := 77) (pc' := 81) rfl (hb hby at_77) (by decide) (by decide) kq) ?_
    show own_Go p.tables e below _ (T8.setTop (mkF m 81 #[.val (.long q1), .second, .val (.long q2), .second, .val (.long q3), .second, .val (.long size), .second, .val (.long xx), .second, .val (.long yy), .second, .val (.long now), .second, .val (.long tt), .second, .val (.ref b3), .val (.double FP.dconst1), .second, .unset] [(.int (1 : Int32))]))
    refine own_Go.by (fun tq kq => XS.istore X8.here hx rfl (hb hby at_81) rfl (l' := #[.val (.long q1), .second, .val (.long q2), .second, .val (.long q3), .second, .val (.long size), .second, .val (.long xx), .second, .val (.long yy), .second, .val (.long now), .second, .val (.long tt), .second, .val (.ref b3), .val (.double FP.dconst1), .second, .val (.int (1 : Int32))]) rfl kq) ?_
    show own_Go p.tables e below _ (T8.setTop (mkF m 83 #[.val (.long q1), .second, .val (.long q2), .second, .val (.long q3), .second, .val (.long size), .second, .val (.long xx), .second, .val (.long yy), .second, .val (.long now), .second, .val (.long tt), .second, .val (.ref b3), .val (.double FP.dconst1), .second, .val (.int (1 : Int32))] []))
    refine own_Go.by (fun tq kq => XS.iload X8.here hx rfl (hb hby at_83) rfl kq) ?_
    show own_Go p.tables e below _ (T8.setTop (mkF m 85 #[.val (.long q1), .second, .val (.long q2), .second, .val (.long q3), .second, .val (.long size), .second, .val (.long xx), .second, .val (.long yy), .second, .val (.long now), .second, .val (.long tt), .second, .val (.ref b3), .val (.double FP.dconst1), .second, .val (.int (1 : Int32))] [(.int (1 : Int32))]))
    refine own_Go.by (fun tq kq => XS.ifNo X8.here hx rfl (hb hby at_85) rfl ((if0 _ _).trans (feq (by decide : ¬ ((1 : Int32) = (0 : Int32)))).1) kq) ?_
    show own_Go p.tables e below _ (T8.setTop (mkF m 88 #[.val (.long q1), .second, .val (.long q2), .second, .val (.long q3), .second, .val (.long size), .second, .val (.long xx), .second, .val (.long yy), .second, .val (.long now), .second, .val (.long tt), .second, .val (.ref b3), .val (.double FP.dconst1), .second, .val (.int (1 : Int32))] []))
    refine own_Go.by (fun tq kq => own_dload X8.here hx rfl (hb hby at_88) rfl kq) ?_
    show own_Go p.tables e below _ (T8.setTop (mkF m 90 #[.val (.long q1), .second, .val (.long q2), .second, .val (.long q3), .second, .val (.long size), .second, .val (.long xx), .second, .val (.long yy), .second, .val (.long now), .second, .val (.long tt), .second, .val (.ref b3), .val (.double FP.dconst1), .second, .val (.int (1 : Int32))] [(.double FP.dconst1)]))
    refine own_Go.by (fun tq kq => own_dconst1 X8.here hx rfl (hb hby at_90) kq) ?_
    show own_Go p.tables e below _ (T8.setTop (mkF m 91 #[.val (.long q1), .second, .val (.long q2), .second, .val (.long q3), .second, .val (.long size), .second, .val (.long xx), .second, .val (.long yy), .second, .val (.long now), .second, .val (.long tt), .second, .val (.ref b3), .val (.double FP.dconst1), .second, .val (.int (1 : Int32))] [(.double FP.dconst1), (.double FP.dconst1)]))
    refine own_Go.by (fun tq kq => own_dcmp X8.here hx rfl (hb hby at_91) rfl (r := 0) (by decide +kernel) kq) ?_
    show own_Go p.tables e below _ (T8.setTop (mkF m 92 #[.val (.long q1), .second, .val (.long q2), .second, .val (.long q3), .second, .val (.long size), .second, .val (.long xx), .second, .val (.long yy), .second, .val (.long now), .second, .val (.long tt), .second, .val (.ref b3), .val (.double FP.dconst1), .second, .val (.int (1 : Int32))] [(.int (0 : Int32))]))
    refine own_Go.by (fun tq kq => XS.ifNo X8.here hx rfl (hb hby at_92) rfl ((if0 _ _).trans (teq (by decide : (0 : Int32) = (0 : Int32))).2) kq) ?_
    show own_Go p.tables e below _ (T8.setTop (mkF m 95 #[.val (.long q1), .second, .val (.long q2), .second, .val (.long q3), .second, .val (.long size), .second, .val (.long xx), .second, .val (.long yy), .second, .val (.long now), .second, .val (.long tt), .second, .val (.ref b3), .val (.double FP.dconst1), .second, .val (.int (1 : Int32))] []))
    refine own_Go.by (fun tq kq => XS.iconst X8.here hx rfl (hb hby at_95) kq) ?_
    show own_Go p.tables e below _ (T8.setTop (mkF m 96 #[.val (.long q1), .second, .val (.long q2), .second, .val (.long q3), .second, .val (.long size), .second, .val (.long xx), .second, .val (.long yy), .second, .val (.long now), .second, .val (.long tt), .second, .val (.ref b3), .val (.double FP.dconst1), .second, .val (.int (1 : Int32))] [(.int (1 : Int32))]))
    refine own_Go.by (fun tq kq => XS.goto X8.here hx rfl (pc0 := 96) (pc' := 100) rfl (hb hby at_96) (by decide) (by decide) kq) ?_
    show own_Go p.tables e below _ (T8.setTop (mkF m 100 #[.val (.long q1), .second, .val (.long q2), .second, .val (.long q3), .second, .val (.long size), .second, .val (.long xx), .second, .val (.long yy), .second, .val (.long now), .second, .val (.long tt), .second, .val (.ref b3), .val (.double FP.dconst1), .second, .val (.int (1 : Int32))] [(.int (1 : Int32))]))
    obtain ⟨fs, hr, hrun, hended, hW, hsame⟩ := X8.leave (v := some (.int (nar .boolean (1 : Int32)))) (fun h => by rw [Bd.returns] at h; cases h)
    refine own_Go.fin (retN X8 hx (t := .boolean) Bd.returns (by simp) (hb hby at_100) hr) ⟨hrun, hended, _, _, rfl, ?_, ⟨_, rfl⟩, hW, hsame.mono (by decide) (by decide)⟩
    show Q0 Z q1 q2 q3 h0 n0 _ T8.heap _
    rw [e8]
    exact ⟨rfl, N8, K7⟩
  ·
    show own_Go p.tables e below _ (T6.setTop (mkF m 53 #[.val (.long q1), .second, .val (.long q2), .second, .val (.long q3), .second, .val (.long size), .second, .val (.long xx), .second, .val (.long yy), .second, .val (.long now), .second, .val (.long tt), .second, .val (.ref b3), .unset, .unset, .unset] []))
    refine own_Go.by (fun tq kq => XS.aload X6.here hx rfl (hb hby at_53) rfl rfl kq) ?_
    show own_Go p.tables e below _ (T6.setTop (mkF m 55 #[.val (.long q1), .second, .val (.long q2), .second, .val (.long q3), .second, .val (.long size), .second, .val (.long xx), .second, .val (.long yy), .second, .val (.long now), .second, .val (.long tt), .second, .val (.ref b3), .unset, .unset, .unset] [(.ref b3)]))
    refine own_Go.by (fun tq kq => XS.lload X6.here hx rfl (hb hby at_55) rfl kq) ?_
    show own_Go p.tables e below _ (T6.setTop (mkF m 57 #[.val (.long q1), .second, .val (.long q2), .second, .val (.long q3), .second, .val (.long size), .second, .val (.long xx), .second, .val (.long yy), .second, .val (.long now), .second, .val (.long tt), .second, .val (.ref b3), .unset, .unset, .unset] [(.long now), (.ref b3)]))
    refine own_Go.by (fun tq kq => XS.lload X6.here hx rfl (hb hby at_57) rfl kq) ?_
    show own_Go p.tables e below _ (T6.setTop (mkF m 59 #[.val (.long q1), .second, .val (.long q2), .second, .val (.long q3), .second, .val (.long size), .second, .val (.long xx), .second, .val (.long yy), .second, .val (.long now), .second, .val (.long tt), .second, .val (.ref b3), .unset, .unset, .unset] [(.long tt), (.long now), (.ref b3)]))
    refine own_Go.by (fun tq kq => XS.lsub X6.here hx rfl (hb hby at_59) rfl kq) ?_
    show own_Go p.tables e below _ (T6.setTop (mkF m 60 #[.val (.long q1), .second, .val (.long q2), .second, .val (.long q3), .second, .val (.long size), .second, .val (.long xx), .second, .val (.long yy), .second, .val (.long now), .second, .val (.long tt), .second, .val (.ref b3), .unset, .unset, .unset] [(.long (now - tt)), (.ref b3)]))
    obtain ⟨cq9, kq9, q9a, q9b, q9c⟩ := isOf hZ rfl p6_0
    obtain ⟨_, _, ⟨T9, L9, k9, n9⟩, -, X9, ⟨Lc9, hQ9, l9, y9, z9⟩, st9⟩ := X6.virtualBack hx (y := (⟨"com/example/ebbtide/ebbtide/core/WindowDecay", "weight", "(J)D"⟩ : MethodName)) (z := (⟨"com/example/ebbtide/ebbtide/core/WindowDecay", "weight", "(J)D"⟩ : MethodName)) hown (mvT hZ (hw _ (List.mem_of_getElem? (i := 25) rfl))) (mvT hZ (hw _ (List.mem_of_getElem? (i := 26) rfl))) (notFace_of_selects (args := #[]) (mvT hZ (hw _ (List.mem_of_getElem? (i := 28) rfl)))) (mvT hZ (hw _ (List.mem_of_getElem? (i := 28) rfl))) (mvT hZ (hw _ (List.mem_of_getElem? (i := 27) rfl))) (by decide) (backOf (W := 0) (rm6_out l Z a0 hw [] b3 (now - tt) size T6.heap n0 O7 p6_1 hin) hZ (hw _ (List.mem_of_getElem? (i := 29) rfl)) (hw _ (List.mem_of_getElem? (i := 10) rfl)) (by decide) (by decide)) q9a q9c (g := (mkF m 60 #[.val (.long q1), .second, .val (.long q2), .second, .val (.long q3), .second, .val (.long size), .second, .val (.long xx), .second, .val (.long yy), .second, .val (.long now), .second, .val (.long tt), .second, .val (.ref b3), .unset, .unset, .unset] [(.long (now - tt)), (.ref b3)])) rfl (by rw [hml]; rfl) (Steps.refl _) (argsL := [(.long (now - tt))]) (rest := []) (lenOf own_pd3 rfl) rfl (by show 2 * 0 + _ ≤ _; exact Nat.le_of_eq rfl) (hb hby at_60) (fun _ _ => ⟨rfl, rfl, (by decide : 1 + 0 ≤ _), (by decide : 1 + 0 ≤ _)⟩)
    dsimp only [Pt.U, Pt.locs, Pt.cells, Pt.slots] at X9 l9 y9 z9 st9 hQ9
    subst l9 y9 z9
    refine own_Go.by (fun tq kq => st9.trans kq) ?_
    obtain ⟨rfl, N9q, e9⟩ := hQ9
    have N9 := Fr.app N6 N9q
    show own_Go p.tables e below _ (T9.setTop (mkF m 63 #[.val (.long q1), .second, .val (.long q2), .second, .val (.long q3), .second, .val (.long size), .second, .val (.long xx), .second, .val (.long yy), .second, .val (.long now), .second, .val (.long tt), .second, .val (.ref b3), .unset, .unset, .unset] [(.double FP.dconst0)]))
    refine own_Go.by (fun tq kq => own_dstore X9.here hx rfl (hb hby at_63) rfl (l' := #[.val (.long q1), .second, .val (.long q2), .second, .val (.long q3), .second, .val (.long size), .second, .val (.long xx), .second, .val (.long yy), .second, .val (.long now), .second, .val (.long tt), .second, .val (.ref b3), .val (.double FP.dconst0), .second, .unset]) rfl kq) ?_
    show own_Go p.tables e below _ (T9.setTop (mkF m 65 #[.val (.long q1), .second, .val (.long q2), .second, .val (.long q3), .second, .val (.long size), .second, .val (.long xx), .second, .val (.long yy), .second, .val (.long now), .second, .val (.long tt), .second, .val (.ref b3), .val (.double FP.dconst0), .second, .unset] []))
    refine own_Go.by (fun tq kq => XS.lload X9.here hx rfl (hb hby at_65) rfl kq) ?_
    show own_Go p.tables e below _ (T9.setTop (mkF m 67 #[.val (.long q1), .second, .val (.long q2), .second, .val (.long q3), .second, .val (.long size), .second, .val (.long xx), .second, .val (.long yy), .second, .val (.long now), .second, .val (.long tt), .second, .val (.ref b3), .val (.double FP.dconst0), .second, .unset] [(.long now)]))
    refine own_Go.by (fun tq kq => XS.lload X9.here hx rfl (hb hby at_67) rfl kq) ?_
    show own_Go p.tables e below _ (T9.setTop (mkF m 69 #[.val (.long q1), .second, .val (.long q2), .second, .val (.long q3), .second, .val (.long size), .second, .val (.long xx), .second, .val (.long yy), .second, .val (.long now), .second, .val (.long tt), .second, .val (.ref b3), .val (.double FP.dconst0), .second, .unset] [(.long size), (.long now)]))
    refine own_Go.by (fun tq kq => XS.lsub X9.here hx rfl (hb hby at_69) rfl kq) ?_
    show own_Go p.tables e below _ (T9.setTop (mkF m 70 #[.val (.long q1), .second, .val (.long q2), .second, .val (.long q3), .second, .val (.long size), .second, .val (.long xx), .second, .val (.long yy), .second, .val (.long now), .second, .val (.long tt), .second, .val (.ref b3), .val (.double FP.dconst0), .second, .unset] [(.long (now - size))]))
    refine own_Go.by (fun tq kq => XS.lload X9.here hx rfl (hb hby at_70) rfl kq) ?_
    show own_Go p.tables e below _ (T9.setTop (mkF m 72 #[.val (.long q1), .second, .val (.long q2), .second, .val (.long q3), .second, .val (.long size), .second, .val (.long xx), .second, .val (.long yy), .second, .val (.long now), .second, .val (.long tt), .second, .val (.ref b3), .val (.double FP.dconst0), .second, .unset] [(.long tt), (.long (now - size))]))
    refine own_Go.by (fun tq kq => XS.lcmp X9.here hx rfl (hb hby at_72) rfl kq) ?_
    show own_Go p.tables e below _ (T9.setTop (mkF m 73 #[.val (.long q1), .second, .val (.long q2), .second, .val (.long q3), .second, .val (.long size), .second, .val (.long xx), .second, .val (.long yy), .second, .val (.long now), .second, .val (.long tt), .second, .val (.ref b3), .val (.double FP.dconst0), .second, .unset] [(.int (lcmpW (now - size) tt))]))
    refine own_Go.by (fun tq kq => XS.ifYes X9.here hx rfl (pc0 := 73) (pc' := 80) rfl (hb hby at_73) rfl ((if0 _ _).trans (flt (mt (lw_lt (now - size) tt).mp (mt hiff.mpr hin))).2.1) (by decide) (by decide) kq) ?_
    show own_Go p.tables e below _ (T9.setTop (mkF m 80 #[.val (.long q1), .second, .val (.long q2), .second, .val (.long q3), .second, .val (.long size), .second, .val (.long xx), .second, .val (.long yy), .second, .val (.long now), .second, .val (.long tt), .second, .val (.ref b3), .val (.double FP.dconst0), .second, .unset] []))
    refine own_Go.by (fun tq kq => XS.iconst X9.here hx rfl (hb hby at_80) kq) ?_
    show own_Go p.tables e below _ (T9.setTop (mkF m 81 #[.val (.long q1), .second, .val (.long q2), .second, .val (.long q3), .second, .val (.long size), .second, .val (.long xx), .second, .val (.long yy), .second, .val (.long now), .second, .val (.long tt), .second, .val (.ref b3), .val (.double FP.dconst0), .second, .unset] [(.int (0 : Int32))]))
    refine own_Go.by (fun tq kq => XS.istore X9.here hx rfl (hb hby at_81) rfl (l' := #[.val (.long q1), .second, .val (.long q2), .second, .val (.long q3), .second, .val (.long size), .second, .val (.long xx), .second, .val (.long yy), .second, .val (.long now), .second, .val (.long tt), .second, .val (.ref b3), .val (.double FP.dconst0), .second, .val (.int (0 : Int32))]) rfl kq) ?_
    show own_Go p.tables e below _ (T9.setTop (mkF m 83 #[.val (.long q1), .second, .val (.long q2), .second, .val (.long q3), .second, .val (.long size), .second, .val (.long xx), .second, .val (.long yy), .second, .val (.long now), .second, .val (.long tt), .second, .val (.ref b3), .val (.double FP.dconst0), .second, .val (.int (0 : Int32))] []))
    refine own_Go.by (fun tq kq => XS.iload X9.here hx rfl (hb hby at_83) rfl kq) ?_
    show own_Go p.tables e below _ (T9.setTop (mkF m 85 #[.val (.long q1), .second, .val (.long q2), .second, .val (.long q3), .second, .val (.long size), .second, .val (.long xx), .second, .val (.long yy), .second, .val (.long now), .second, .val (.long tt), .second, .val (.ref b3), .val (.double FP.dconst0), .second, .val (.int (0 : Int32))] [(.int (0 : Int32))]))
    refine own_Go.by (fun tq kq => XS.ifYes X9.here hx rfl (pc0 := 85) (pc' := 101) rfl (hb hby at_85) rfl ((if0 _ _).trans (teq (by decide : (0 : Int32) = (0 : Int32))).1) (by decide) (by decide) kq) ?_
    show own_Go p.tables e below _ (T9.setTop (mkF m 101 #[.val (.long q1), .second, .val (.long q2), .second, .val (.long q3), .second, .val (.long size), .second, .val (.long xx), .second, .val (.long yy), .second, .val (.long now), .second, .val (.long tt), .second, .val (.ref b3), .val (.double FP.dconst0), .second, .val (.int (0 : Int32))] []))
    refine own_Go.by (fun tq kq => own_dload X9.here hx rfl (hb hby at_101) rfl kq) ?_
    show own_Go p.tables e below _ (T9.setTop (mkF m 103 #[.val (.long q1), .second, .val (.long q2), .second, .val (.long q3), .second, .val (.long size), .second, .val (.long xx), .second, .val (.long yy), .second, .val (.long now), .second, .val (.long tt), .second, .val (.ref b3), .val (.double FP.dconst0), .second, .val (.int (0 : Int32))] [(.double FP.dconst0)]))
    refine own_Go.by (fun tq kq => own_dconst0 X9.here hx rfl (hb hby at_103) kq) ?_
    show own_Go p.tables e below _ (T9.setTop (mkF m 104 #[.val (.long q1), .second, .val (.long q2), .second, .val (.long q3), .second, .val (.long size), .second, .val (.long xx), .second, .val (.long yy), .second, .val (.long now), .second, .val (.long tt), .second, .val (.ref b3), .val (.double FP.dconst0), .second, .val (.int (0 : Int32))] [(.double FP.dconst0), (.double FP.dconst0)]))
    refine own_Go.by (fun tq kq => own_dcmp X9.here hx rfl (hb hby at_104) rfl (r := 0) (by decide +kernel) kq) ?_
    show own_Go p.tables e below _ (T9.setTop (mkF m 105 #[.val (.long q1), .second, .val (.long q2), .second, .val (.long q3), .second, .val (.long size), .second, .val (.long xx), .second, .val (.long yy), .second, .val (.long now), .second, .val (.long tt), .second, .val (.ref b3), .val (.double FP.dconst0), .second, .val (.int (0 : Int32))] [(.int (0 : Int32))]))
    refine own_Go.by (fun tq kq => XS.ifNo X9.here hx rfl (hb hby at_105) rfl ((if0 _ _).trans (teq (by decide : (0 : Int32) = (0 : Int32))).2) kq) ?_
    show own_Go p.tables e below _ (T9.setTop (mkF m 108 #[.val (.long q1), .second, .val (.long q2), .second, .val (.long q3), .second, .val (.long size), .second, .val (.long xx), .second, .val (.long yy), .second, .val (.long now), .second, .val (.long tt), .second, .val (.ref b3), .val (.double FP.dconst0), .second, .val (.int (0 : Int32))] []))
    refine own_Go.by (fun tq kq => XS.iconst X9.here hx rfl (hb hby at_108) kq) ?_
    show own_Go p.tables e below _ (T9.setTop (mkF m 109 #[.val (.long q1), .second, .val (.long q2), .second, .val (.long q3), .second, .val (.long size), .second, .val (.long xx), .second, .val (.long yy), .second, .val (.long now), .second, .val (.long tt), .second, .val (.ref b3), .val (.double FP.dconst0), .second, .val (.int (0 : Int32))] [(.int (1 : Int32))]))
    refine own_Go.by (fun tq kq => XS.goto X9.here hx rfl (pc0 := 109) (pc' := 113) rfl (hb hby at_109) (by decide) (by decide) kq) ?_
    show own_Go p.tables e below _ (T9.setTop (mkF m 113 #[.val (.long q1), .second, .val (.long q2), .second, .val (.long q3), .second, .val (.long size), .second, .val (.long xx), .second, .val (.long yy), .second, .val (.long now), .second, .val (.long tt), .second, .val (.ref b3), .val (.double FP.dconst0), .second, .val (.int (0 : Int32))] [(.int (1 : Int32))]))
    obtain ⟨fs, hr, hrun, hended, hW, hsame⟩ := X9.leave (v := some (.int (nar .boolean (1 : Int32)))) (fun h => by rw [Bd.returns] at h; cases h)
    refine own_Go.fin (retN X9 hx (t := .boolean) Bd.returns (by simp) (hb hby at_113) hr) ⟨hrun, hended, _, _, rfl, ?_, ⟨_, rfl⟩, hW, hsame.mono (by decide) (by decide)⟩
    show Q0 Z q1 q2 q3 h0 n0 _ T9.heap _
    rw [e9]
    exact ⟨rfl, N9, K7⟩

set_option maxRecDepth 65536 in
set_option maxHeartbeats 40000000 in
theorem comes_1 {Post : Tables → Env → Array Value → State → Outcome → State → Prop} (hpost : ∀ tb e args s v u, (limb_1_1.after args s (.returned v) u = true ∧ limb_1_2.after args s (.returned v) u = true ∧ True) → FrameEnd s (.returned v) u (Jvm.fieldLocs frame_1_writes args s ++ Jvm.arrayLocs frame_1_arrays args s ++ Jvm.staticLocs frame_1_statics s) 16 128 → Post tb e args s (.returned v) u) :
    ArmFor flags0 classFile x code maxLocals ret World_1 tables_1 room_1 Calls_1 rest_1 Pre_1 Post := by
  intro l hfl _ _ p e ha hc hk s m args below hf hA hF happ hP
  obtain ⟨hcalls, hrest, hpre⟩ := hP
  obtain ⟨-, -, -, hnamed, -, -, -, hat⟩ := (Spec.applies_iff hf).mp happ
  obtain ⟨hg, hn⟩ := and_e (Cond.before_iff.mp (show (Jvm.Cond.and given_1 narrow_1).before args s = true from hpre))
  obtain ⟨hcount, hg⟩ := and_e hg
  obtain ⟨hg0, hg⟩ := and_e hg
  obtain ⟨hg1, hg⟩ := and_e hg
  have hg2 := hg
  obtain ⟨w0, w1, w2, rfl⟩ : ∃ w0 w1 w2 : Value, args = #[w0, w1, w2] := by
    have hs : args.size = 3 := by simpa [Cond.value, given_1] using hcount
    obtain ⟨L⟩ := args
    match L, hs with
    | [w0, w1, w2], _ => exact ⟨w0, w1, w2, rfl⟩
  have hw := fun d (hd : d ∈ tables_1) => atoms_spec (ws := Jvm.Cond.code x code maxLocals ret :: tables_1) hat d (List.mem_cons_of_mem _ hd)
  have hfit : Fit s := fun {y c} hc i hi => by
    obtain ⟨ha, rfl⟩ := Array.getElem?_eq_some_iff.mp hc
    have q := List.all_eq_true.mp ((Array.all_eq_true_iff_forall_mem.mp hF) _ (Array.getElem_mem ha)) i (List.mem_range.mpr hi)
    simpa [Array.getElem?_eq_getElem hi] using q
  obtain ⟨i0, ei0⟩ := isL_v hg0
  obtain rfl : w0 = (.long i0) := Option.some.inj ei0
  obtain ⟨i1, ei1⟩ := isL_v hg1
  obtain rfl : w1 = (.long i1) := Option.some.inj ei1
  obtain ⟨i2, ei2⟩ := isL_v hg2
  obtain rfl : w2 = (.long i2) := Option.some.inj ei2
  obtain ⟨n, o, h1, h2, h3, _, L, rfl, ⟨rfl, N, -⟩, hq⟩ := rm0 l s _ hw tables_1 i0 i1 i2 s.heap s.heap.size (Old.start s) p e ha hc hk s m _ below hf ((Spec.applies_iff_loose hf).mp happ).1 ⟨rfl, State.Warmed39.refl s, rfl⟩ trivial
  refine ⟨n, _, h1, h2, h3, hpost _ _ _ _ _ _ ⟨Cond.after_iff.mpr rfl, Cond.after_iff.mpr (eq_i res_at (Term.int_eval (1)) rfl), trivial⟩ ⟨hq.1, hq.2.1, (hq.2.2.sift fun y hy => Or.inr (N y hy)).mono (by decide) (by decide)⟩⟩
theorem main_1_1 : Claimed_1_1 := comes_1 fun _ _ _ _ _ _ h hF => ⟨h.1, hF⟩
theorem main_1_2 : Claimed_1_2 := comes_1 fun _ _ _ _ _ _ h hF => ⟨h.2.1, hF⟩
end Jvm.Pilot.@@N@@
namespace Jvm.Pilot.@@N@@
open Jvm Jvm.ClassFile Sem Op Lib Jvm.Free Jvm.Stand Jvm.Pilot.@@N@@.Jvm.D
/-! MADE BY PROGRAM (witnessworld.py) out of the Statement's table words and the real class files: 12 classes; the members and pool entries that the words name. The judged class is class 1, her method 1. -/
namespace start1
open Jvm.ClassFile
def u (s : String) : CpInfo := .utf8 (stringToUtf16 s)
/-- a pool by its gaps: so many unusable entries, then the entry; so many at the end -/
def gap : Nat → List CpInfo → List CpInfo
  | 0, r => r
  | n + 1, r => .unusable :: gap n r
def poolList (es : List (Nat × CpInfo)) (last : Nat) : List CpInfo := es.foldr (fun e r => gap e.1 (e.2 :: r)) (gap last [])
def pool (es : List (Nat × CpInfo)) (last : Nat) : Array CpInfo := ⟨poolList es last⟩
def fileOf (pool : Array CpInfo) (this : Nat) (attrs : Array Attribute := #[]) (ms : Array MethodInfo := #[]) (fl : Nat := 33) (sup : Nat := 0) (ifs : Array Nat := #[]) (fds : Array FieldInfo := #[]) : ClassFile where
  minorVersion := 0
  majorVersion := 65
  constantPool := pool
  accessFlags := fl
  thisClass := this
  superClass := sup
  interfaces := ifs
  fields := fds
  methods := ms
  attributes := attrs
def plain (name : String) (sup : Option ClassId) : Class where
  name := name
  kind := .ordinary
  loader := none
  accessFlags := 33
  super := sup
  interfaces := #[]
  cf := none
  fields := #[]
  methods := #[]
  instanceTypes := #[]
  staticTypes := #[]
  resolved := #[]
  callSites := []
  init := .initialized
  statics := none
  mirror := none

def pool0 : Array CpInfo := pool [(5, u "<init>"), (0, u "()V"), (1, .class_ 10), (1, u "java/lang/Object")] 113

def k0c0 : Code := { maxStack := 0, maxLocals := 1, code := object_method_1_code, exceptionTable := #[], attributes := #[] }
def k0m0 : Method := { name := "<init>", desc := "()V", sig := { parameters := [], returnType := none }, accessFlags := 1, code := some k0c0 }
/-- java/lang/Object -/
def k0 : Class := { plain "java/lang/Object" none with
  accessFlags := 33
  interfaces := #[]
  cf := some (fileOf pool0 8 #[] #[{ accessFlags := 1, nameIndex := 5, descriptorIndex := 6, attributes := #[] }] 33 0 #[] #[])
  fields := #[]
  methods := #[k0m0]
  instanceTypes := #[]
  staticTypes := #[]
  resolved := Array.replicate 124 none
  statics := none }

def pool1 : Array CpInfo := pool [(2, .class_ 4), (1, u "java/lang/Object"), (0, u "<init>"), (0, u "()V"), (0, .long 4611686018427387903), (1, .methodref 10 11), (0, .class_ 12), (0, .nameAndType 13 14), (0, u "java/lang/Math"), (0, u "max"), (0, u "(JJ)J"), (0, .methodref 10 16), (0, .nameAndType 17 14), (0, u "min"), (0, .class_ 19), (0, u "com/example/ebbtide/ebbtide/core/WindowDecay"), (0, .methodref 18 21), (0, .nameAndType 5 22), (0, u "(J)V"), (0, .methodref 18 24), (0, .nameAndType 25 26), (0, u "weight"), (0, u "(J)D"), (0, .class_ 28), (0, u "com/example/ebbtide/ebbtide/core/WindowDecayWeightPinLaw"), (2, u "law"), (0, u "(JJJ)Z")] 3

def k1m0 : Method := { name := "<init>", desc := "()V", sig := { parameters := [], returnType := none }, accessFlags := 1, code := none }
def k1c1 : Code := { maxStack := 5, maxLocals := 20, code := code, exceptionTable := #[], attributes := #[] }
def k1m1 : Method := { name := "law", desc := "(JJJ)Z", sig := { parameters := [.long, .long, .long], returnType := some .boolean }, accessFlags := 9, code := some k1c1 }
/-- com/example/ebbtide/ebbtide/core/WindowDecayWeightPinLaw -/
def k1 : Class := { plain "com/example/ebbtide/ebbtide/core/WindowDecayWeightPinLaw" (some 0) with
  accessFlags := 49
  interfaces := #[]
  cf := some (fileOf pool1 27 #[] #[{ accessFlags := 1, nameIndex := 5, descriptorIndex := 6, attributes := #[] }, { accessFlags := 9, nameIndex := 31, descriptorIndex := 32, attributes := #[] }] 49 2 #[] #[])
  fields := #[]
  methods := #[k1m0, k1m1]
  instanceTypes := #[]
  staticTypes := #[]
  resolved := Array.replicate 36 none
  statics := none }

def pool2 : Array CpInfo := pool [(1, .class_ 2), (0, u "java/lang/Math"), (1, .class_ 6), (1, u "java/lang/Object"), (0, u "<init>"), (0, u "()V"), (89, .class_ 100), (1, u "java/lang/Math$RandomNumberGeneratorHolder"), (20, u "(JJ)J"), (50, u "negativeZeroFloatBits"), (0, u "J"), (2, u "negativeZeroDoubleBits"), (21, u "max"), (2, u "min"), (43, u "$assertionsDisabled"), (0, u "Z"), (91, u "twoToTheDoubleScaleDown"), (0, u "D"), (4, u "twoToTheDoubleScaleUp"), (9, u "E"), (3, u "PI"), (2, u "TAU"), (2, u "DEGREES_TO_RADIANS"), (0, u "RADIANS_TO_DEGREES")] 94

def k2m0 : Method := { name := "<init>", desc := "()V", sig := { parameters := [], returnType := none }, accessFlags := 2, code := none }
def k2c1 : Code := { maxStack := 4, maxLocals := 4, code := jdk_29_method_66_code, exceptionTable := #[], attributes := #[] }
def k2m1 : Method := { name := "max", desc := "(JJ)J", sig := { parameters := [.long, .long], returnType := some .long }, accessFlags := 9, code := some k2c1 }
def k2c2 : Code := { maxStack := 4, maxLocals := 4, code := jdk_29_method_70_code, exceptionTable := #[], attributes := #[] }
def k2m2 : Method := { name := "min", desc := "(JJ)J", sig := { parameters := [.long, .long], returnType := some .long }, accessFlags := 9, code := some k2c2 }
/-- java/lang/Math -/
def k2 : Class := { plain "java/lang/Math" (some 0) with
  accessFlags := 49
  interfaces := #[]
  cf := some (fileOf pool2 1 #[.nestMembers #[98]] #[{ accessFlags := 2, nameIndex := 7, descriptorIndex := 8, attributes := #[] }, { accessFlags := 9, nameIndex := 198, descriptorIndex := 121, attributes := #[] }, { accessFlags := 9, nameIndex := 201, descriptorIndex := 121, attributes := #[] }] 49 4 #[] #[{ accessFlags := 25, nameIndex := 354, descriptorIndex := 339, attributes := #[] }, { accessFlags := 25, nameIndex := 358, descriptorIndex := 339, attributes := #[] }, { accessFlags := 25, nameIndex := 361, descriptorIndex := 339, attributes := #[] }, { accessFlags := 26, nameIndex := 364, descriptorIndex := 339, attributes := #[] }, { accessFlags := 26, nameIndex := 365, descriptorIndex := 339, attributes := #[] }, { accessFlags := 26, nameIndex := 172, descriptorIndex := 173, attributes := #[] }, { accessFlags := 26, nameIndex := 176, descriptorIndex := 173, attributes := #[] }, { accessFlags := 8, nameIndex := 344, descriptorIndex := 339, attributes := #[] }, { accessFlags := 8, nameIndex := 338, descriptorIndex := 339, attributes := #[] }, { accessFlags := 4120, nameIndex := 245, descriptorIndex := 246, attributes := #[] }])
  fields := #[{ name := "E", type := .double, accessFlags := 25, slot := 0, constantValue := 0 }, { name := "PI", type := .double, accessFlags := 25, slot := 1, constantValue := 0 }, { name := "TAU", type := .double, accessFlags := 25, slot := 2, constantValue := 0 }, { name := "DEGREES_TO_RADIANS", type := .double, accessFlags := 26, slot := 3, constantValue := 0 }, { name := "RADIANS_TO_DEGREES", type := .double, accessFlags := 26, slot := 4, constantValue := 0 }, { name := "negativeZeroFloatBits", type := .long, accessFlags := 26, slot := 5, constantValue := 0 }, { name := "negativeZeroDoubleBits", type := .long, accessFlags := 26, slot := 6, constantValue := 0 }, { name := "twoToTheDoubleScaleUp", type := .double, accessFlags := 8, slot := 7, constantValue := 0 }, { name := "twoToTheDoubleScaleDown", type := .double, accessFlags := 8, slot := 8, constantValue := 0 }, { name := "$assertionsDisabled", type := .boolean, accessFlags := 4120, slot := 9, constantValue := 0 }]
  methods := #[k2m0, k2m1, k2m2]
  instanceTypes := #[]
  staticTypes := #[.double, .double, .double, .double, .double, .long, .long, .double, .double, .boolean]
  resolved := Array.replicate 460 none
  statics := none }

def pool3 : Array CpInfo := pool [(1, .methodref 2 3), (0, .class_ 4), (0, .nameAndType 5 6), (0, u "java/lang/Object"), (0, u "<init>"), (0, u "()V"), (0, .class_ 8), (0, u "java/lang/Record")] 13

def k3c0 : Code := { maxStack := 1, maxLocals := 1, code := jdk_30_method_1_code, exceptionTable := #[], attributes := #[] }
def k3m0 : Method := { name := "<init>", desc := "()V", sig := { parameters := [], returnType := none }, accessFlags := 4, code := some k3c0 }
/-- java/lang/Record -/
def k3 : Class := { plain "java/lang/Record" (some 0) with
  accessFlags := 1057
  interfaces := #[]
  cf := some (fileOf pool3 7 #[] #[{ accessFlags := 4, nameIndex := 5, descriptorIndex := 6, attributes := #[] }] 1057 2 #[] #[])
  fields := #[]
  methods := #[k3m0]
  instanceTypes := #[]
  staticTypes := #[]
  resolved := Array.replicate 22 none
  statics := none }

def pool4 : Array CpInfo := pool [(6, .class_ 8), (1, u "com/example/ebbtide/ebbtide/core/Decay"), (0, u "NONE"), (0, u "Lcom/example/ebbtide/ebbtide/core/Decay;"), (0, .class_ 12), (0, u "java/lang/Object")] 28

/-- com/example/ebbtide/ebbtide/core/Decay -/
def k4 : Class := { plain "com/example/ebbtide/ebbtide/core/Decay" (some 0) with
  accessFlags := 1537
  interfaces := #[]
  cf := some (fileOf pool4 6 #[] #[] 1537 11 #[] #[{ accessFlags := 25, nameIndex := 9, descriptorIndex := 10, attributes := #[] }])
  fields := #[{ name := "NONE", type := (.object "com/example/ebbtide/ebbtide/core/Decay"), accessFlags := 25, slot := 0, constantValue := 0 }]
  methods := #[]
  instanceTypes := #[]
  staticTypes := #[(.object "com/example/ebbtide/ebbtide/core/Decay")]
  resolved := Array.replicate 41 none
  statics := none }

def pool5 : Array CpInfo := pool [(3, .methodref 4 5), (0, .class_ 6), (0, .nameAndType 7 8), (0, u "java/lang/Record"), (0, u "<init>"), (0, u "()V"), (0, .class_ 10), (0, u "com/example/ebbtide/ebbtide/core/WindowDecay"), (0, .long 4611686018427387904), (10, .fieldref 9 23), (0, .nameAndType 24 25), (0, u "size"), (0, u "J"), (12, .class_ 39), (0, u "com/example/ebbtide/ebbtide/core/Decay"), (0, u "MAX_SIZE"), (1, u "(J)V"), (4, u "weight"), (0, u "(J)D")] 31

def k5c0 : Code := { maxStack := 4, maxLocals := 3, code := prog_29_method_1_code, exceptionTable := #[], attributes := #[] }
def k5m0 : Method := { name := "<init>", desc := "(J)V", sig := { parameters := [.long], returnType := none }, accessFlags := 1, code := some k5c0 }
def k5c1 : Code := { maxStack := 4, maxLocals := 3, code := prog_29_method_2_code, exceptionTable := #[], attributes := #[] }
def k5m1 : Method := { name := "weight", desc := "(J)D", sig := { parameters := [.long], returnType := some .double }, accessFlags := 1, code := some k5c1 }
/-- com/example/ebbtide/ebbtide/core/WindowDecay -/
def k5 : Class := { plain "com/example/ebbtide/ebbtide/core/WindowDecay" (some 3) with
  accessFlags := 49
  interfaces := #[4]
  cf := some (fileOf pool5 9 #[] #[{ accessFlags := 1, nameIndex := 7, descriptorIndex := 42, attributes := #[] }, { accessFlags := 1, nameIndex := 47, descriptorIndex := 48, attributes := #[] }] 49 4 #[38] #[{ accessFlags := 18, nameIndex := 24, descriptorIndex := 25, attributes := #[] }, { accessFlags := 25, nameIndex := 40, descriptorIndex := 25, attributes := #[] }])
  fields := #[{ name := "size", type := .long, accessFlags := 18, slot := 0, constantValue := 0 }, { name := "MAX_SIZE", type := .long, accessFlags := 25, slot := 0, constantValue := 0 }]
  methods := #[k5m0, k5m1]
  instanceTypes := #[.long]
  staticTypes := #[.long]
  resolved := Array.replicate 80 none
  statics := none }

def pool6 : Array CpInfo := pool [(1, u "java/lang/Cloneable"), (0, .class_ 1), (0, u "java/lang/Object"), (0, .class_ 3)] 3

/-- java/lang/Cloneable -/
def k6 : Class := { plain "java/lang/Cloneable" (some 0) with
  accessFlags := 1537
  interfaces := #[]
  cf := some (fileOf pool6 2 #[] #[] 1537 4 #[] #[])
  fields := #[]
  methods := #[]
  instanceTypes := #[]
  staticTypes := #[]
  resolved := Array.replicate 8 none
  statics := none }

def pool7 : Array CpInfo := pool [(1, u "java/io/Serializable"), (0, .class_ 1), (0, u "java/lang/Object"), (0, .class_ 3)] 3

/-- java/io/Serializable -/
def k7 : Class := { plain "java/io/Serializable" (some 0) with
  accessFlags := 1537
  interfaces := #[]
  cf := some (fileOf pool7 2 #[] #[] 1537 4 #[] #[])
  fields := #[]
  methods := #[]
  instanceTypes := #[]
  staticTypes := #[]
  resolved := Array.replicate 8 none
  statics := none }

/-- the primitive byte -/
def k8 : Class := { plain "byte" none with kind := .primitive 'B', accessFlags := 0x411 }
/-- [B -/
def k9 : Class := { plain "[B" (some 0) with kind := .array 8 .byte, interfaces := #[6, 7], accessFlags := 1041 }

/-- the primitive int -/
def k10 : Class := { plain "int" none with kind := .primitive 'I', accessFlags := 0x411 }
/-- [I -/
def k11 : Class := { plain "[I" (some 0) with kind := .array 10 .int, interfaces := #[6, 7], accessFlags := 1041 }

def heap : Heap := #[]
def classes : Array Class := #[k0, k1, k2, k3, k4, k5, k6, k7, k8, k9, k10, k11]
def interned : List (Array UInt16 × Addr) := []
def slotsUsed : Nat := 0
def theMethod : MethodId := ⟨1, 1⟩
def args0 : Array Value := #[.long 5, .long 9, .long 3]
def aboutOver (below : List Frame) : State where
  vm := { classes := classes, interned := interned.toArray }
  heap := heap
  slotsUsed := slotsUsed
  threads := #[{ frames := .invoking theMethod args0 :: below }]
def below0 : List Frame := [.native { method := ⟨0, 0⟩, args := #[] }]
def about1 : State := aboutOver below0
def p0 : Program := .bare "" "" ""
def e0 : Env := launch0.env 0 0 0
theorem w_frames : about1.frames = Frame.invoking theMethod args0 :: below0 := rfl
set_option maxRecDepth 65536 in
theorem w_args : argsFit about1.vm theMethod args0 = true := by decide +kernel
set_option maxRecDepth 65536 in
theorem w_heap : heapFits about1 = true := by decide +kernel
set_option maxRecDepth 65536 in
theorem w_runnable : about1.curStatus? = some .runnable := by decide +kernel
set_option maxRecDepth 65536 in
theorem w_alone : about1.alone = true := by decide +kernel
set_option maxRecDepth 65536 in
theorem w_named : about1.methodNamed? x = some theMethod := by decide +kernel
set_option maxRecDepth 65536 in
theorem w_hears : about1.hears theMethod below0 = true := by decide +kernel
set_option maxRecDepth 65536 in
theorem w_ripe : about1.ripe theMethod args0 below0 = true := by decide +kernel
theorem w_running : about1.status = .running := rfl
set_option maxRecDepth 65536 in
theorem w_room : about1.hasRoom e0.platform room_1 = true :=
  launch0.hasRoom_least _ room_1 (by decide +kernel) (by decide +kernel) (by decide +kernel) (by decide +kernel) (by decide +kernel) (by decide +kernel)
theorem allAtoms_all (ts : List Jvm.Cond) (a : Array Jvm.Value) (st : Jvm.State) : (allAtoms ts).before a st = ts.all (fun c => c.before a st) := by
  induction ts with
  | nil => rfl
  | cons c t ih =>
    show (Jvm.Cond.and c (allAtoms t)).before a st = _
    rw [Jvm.Cond.before_and, ih, List.all_cons]
def words1 : List Jvm.Cond := Jvm.Cond.code x code maxLocals ret :: tables_1
/-- a 'code' word, met by the world's own term for the bytes: nothing is compared byte by byte -/
theorem code_word {y : MethodName} {bytes : ByteArray} {mx : Nat} {rt : Option FieldType} {a : Array Value} {s : State} {m : MethodId} {meth : Method} {c : Code} (h1 : s.methodNamed? y = some m) (h2 : s.vm.method? m = some meth) (h3 : meth.code = some c) (h4 : c.code = bytes)
    (h5 : (c.maxLocals == mx && c.exceptionTable.isEmpty && decide (c.maxStack ≤ mostOperands) && decide (meth.sig.returnType = rt) && !meth.locks && decide (parseMethodDescriptor y.desc = some meth.sig)) = true) : (Jvm.Cond.code y bytes mx rt).before a s = true := by
  simp only [Bool.and_eq_true, beq_iff_eq, Bool.not_eq_true', decide_eq_true_eq] at h5
  obtain ⟨⟨⟨⟨⟨g1, g2⟩, g3⟩, g4⟩, g5⟩, g6⟩ := h5
  simp [Cond.before, Cond.holds, Cond.value, h1, h2, h3, h4, g1, g2, g3, g4, g5, g6]
def isCode : Jvm.Cond → Bool
  | .code _ _ _ _ => true
  | _ => false
theorem all_split {L : List Jvm.Cond} {P : Jvm.Cond → Bool} (h1 : L.all (fun c => isCode c || P c) = true) (h2 : ∀ c ∈ L.filter isCode, P c = true) : L.all P = true := by
  refine List.all_eq_true.mpr fun c hc => ?_
  have h := List.all_eq_true.mp h1 c hc
  rcases Bool.eq_false_or_eq_true (isCode c) with hi | hi
  · exact h2 c (List.mem_filter.mpr ⟨hc, hi⟩)
  · simpa [hi] using h
set_option maxRecDepth 65536 in
theorem w_c0 : (Jvm.Cond.code x code maxLocals ret).before args0 about1 = true := code_word (m := ⟨1, 1⟩) (meth := k1m1) (c := k1c1) (by decide +kernel) rfl rfl rfl (by decide +kernel)
set_option maxRecDepth 65536 in
theorem w_c1 : (Jvm.Cond.code ({ cls := "java/lang/Math", name := "max", desc := "(JJ)J" } : Jvm.MethodName) jdk_29_method_66_code (4 : Nat) (Option.some Jvm.ClassFile.FieldType.long)).before args0 about1 = true := code_word (m := ⟨2, 1⟩) (meth := k2m1) (c := k2c1) (by decide +kernel) rfl rfl rfl (by decide +kernel)
set_option maxRecDepth 65536 in
theorem w_c2 : (Jvm.Cond.code ({ cls := "java/lang/Math", name := "min", desc := "(JJ)J" } : Jvm.MethodName) jdk_29_method_70_code (4 : Nat) (Option.some Jvm.ClassFile.FieldType.long)).before args0 about1 = true := code_word (m := ⟨2, 2⟩) (meth := k2m2) (c := k2c2) (by decide +kernel) rfl rfl rfl (by decide +kernel)
set_option maxRecDepth 65536 in
theorem w_c3 : (Jvm.Cond.code ({ cls := "com/example/ebbtide/ebbtide/core/WindowDecay", name := "<init>", desc := "(J)V" } : Jvm.MethodName) prog_29_method_1_code (3 : Nat) (Option.none : Option Jvm.ClassFile.FieldType)).before args0 about1 = true := code_word (m := ⟨5, 0⟩) (meth := k5m0) (c := k5c0) (by decide +kernel) rfl rfl rfl (by decide +kernel)
set_option maxRecDepth 65536 in
theorem w_c4 : (Jvm.Cond.code ({ cls := "java/lang/Record", name := "<init>", desc := "()V" } : Jvm.MethodName) jdk_30_method_1_code (1 : Nat) (Option.none : Option Jvm.ClassFile.FieldType)).before args0 about1 = true := code_word (m := ⟨3, 0⟩) (meth := k3m0) (c := k3c0) (by decide +kernel) rfl rfl rfl (by decide +kernel)
set_option maxRecDepth 65536 in
theorem w_c5 : (Jvm.Cond.code ({ cls := "java/lang/Object", name := "<init>", desc := "()V" } : Jvm.MethodName) object_method_1_code (1 : Nat) (Option.none : Option Jvm.ClassFile.FieldType)).before args0 about1 = true := code_word (m := ⟨0, 0⟩) (meth := k0m0) (c := k0c0) (by decide +kernel) rfl rfl rfl (by decide +kernel)
set_option maxRecDepth 65536 in
theorem w_c6 : (Jvm.Cond.code ({ cls := "com/example/ebbtide/ebbtide/core/WindowDecay", name := "weight", desc := "(J)D" } : Jvm.MethodName) prog_29_method_2_code (3 : Nat) (Option.some Jvm.ClassFile.FieldType.double)).before args0 about1 = true := code_word (m := ⟨5, 1⟩) (meth := k5m1) (c := k5c1) (by decide +kernel) rfl rfl rfl (by decide +kernel)
def codes1 : List Jvm.Cond := [Jvm.Cond.code x code maxLocals ret, Jvm.Cond.code ({ cls := "java/lang/Math", name := "max", desc := "(JJ)J" } : Jvm.MethodName) jdk_29_method_66_code (4 : Nat) (Option.some Jvm.ClassFile.FieldType.long), Jvm.Cond.code ({ cls := "java/lang/Math", name := "min", desc := "(JJ)J" } : Jvm.MethodName) jdk_29_method_70_code (4 : Nat) (Option.some Jvm.ClassFile.FieldType.long), Jvm.Cond.code ({ cls := "com/example/ebbtide/ebbtide/core/WindowDecay", name := "<init>", desc := "(J)V" } : Jvm.MethodName) prog_29_method_1_code (3 : Nat) (Option.none : Option Jvm.ClassFile.FieldType), Jvm.Cond.code ({ cls := "java/lang/Record", name := "<init>", desc := "()V" } : Jvm.MethodName) jdk_30_method_1_code (1 : Nat) (Option.none : Option Jvm.ClassFile.FieldType), Jvm.Cond.code ({ cls := "java/lang/Object", name := "<init>", desc := "()V" } : Jvm.MethodName) object_method_1_code (1 : Nat) (Option.none : Option Jvm.ClassFile.FieldType), Jvm.Cond.code ({ cls := "com/example/ebbtide/ebbtide/core/WindowDecay", name := "weight", desc := "(J)D" } : Jvm.MethodName) prog_29_method_2_code (3 : Nat) (Option.some Jvm.ClassFile.FieldType.double)]
set_option maxRecDepth 65536 in
theorem codes_eq : words1.filter isCode = codes1 := rfl
theorem w_codes : ∀ c ∈ words1.filter isCode, c.before args0 about1 = true := by
  rw [codes_eq]
  intro c hc
  simp only [codes1, List.mem_cons, List.not_mem_nil, or_false] at hc
  rcases hc with rfl | rfl | rfl | rfl | rfl | rfl | rfl
  · exact w_c0
  · exact w_c1
  · exact w_c2
  · exact w_c3
  · exact w_c4
  · exact w_c5
  · exact w_c6
set_option maxRecDepth 65536 in
theorem w_t1 : (words1.take 24).all (fun c => isCode c || c.before args0 about1) = true := by decide +kernel
set_option maxRecDepth 65536 in
theorem w_t2 : (words1.drop 24).all (fun c => isCode c || c.before args0 about1) = true := by decide +kernel
theorem w_tables : (allAtoms (Jvm.Cond.code x code maxLocals ret :: tables_1)).before args0 about1 = true := by
  rw [allAtoms_all]
  show words1.all (fun c => c.before args0 about1) = true
  refine all_split ?_ w_codes
  rw [← List.take_append_drop 24 words1, List.all_append, w_t1, w_t2]
  rfl
set_option maxRecDepth 65536 in
theorem w_case : (Jvm.Cond.and given_1 narrow_1).before args0 about1 = true := by decide +kernel
theorem w_applies : (headSpec (Jvm.Cond.code x code maxLocals ret :: tables_1) room_1).applies x e0.platform about1 = true :=
  (Spec.applies_iff w_frames).mpr ⟨w_running, w_runnable, w_alone, w_named, w_hears, w_ripe, w_room, w_tables⟩
theorem atStart : AtStart classFile x code maxLocals ret World_1 tables_1 room_1 Calls_1 rest_1 Pre_1 launch0 p0 e0 about1 theMethod args0 below0 :=
  ⟨lists_1, trivial, launch0.admits_env _ _ _, launch0.least_env, fairChoices_fair.cas, fairChoices_fair.clock, w_frames, w_args, w_heap, w_applies, trivial, trivial, w_case⟩
end start1
theorem witness_1 : WitnessClaimed_1 := ⟨start1.p0, start1.e0, start1.about1, start1.theMethod, start1.args0, start1.below0, start1.atStart⟩
end Jvm.Pilot.@@N@@
