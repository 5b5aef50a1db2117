import JvmDerived
import JvmDerived.Pilot.@@N@@Statement
import JvmDerived.Pilot.@@N@@Code
set_option linter.unusedVariables false
set_option linter.unusedSimpArgs false
namespace Jvm.RoadKit
open Sem ClassFile Op Lib Jvm.Stand Jvm.Free Jvm.LawKit
section New
variable {p : Program} {l : Launch} {e : Env} {R : Room} {s : State} {m : MethodId} {args : Array Value} {below : List Frame} {meth : Method} {c : Code} {T : State} {locs : List Loc} {cells slots : Nat}
theorem retI (X : Stand p l e R s m args below meth c T locs cells slots) (hx : p.tables.exec = Jvm.exec) {pc : Nat} {Ls : Array Slot} {z : Int32} {rest : List Value} (hret : meth.sig.returnType = some .int) (hd : decode c.code pc = .ok (.ireturn, 1)) {fs : List Frame}
    (hl : ∀ (f : JFrame) (acts : List Action), f.method = m → f.locked = none → f.entered = [] → (doReturn e (T.setTop f) acts (some (.int z))).1 = T.setFrames fs) : Steps p.tables e below (T.setTop (mkF m pc Ls (.int z :: rest))) (T.setFrames fs) := by
  have hm' : T.vm.method? m = some meth := X.method'
  have hn : narrow .int (.int z) = .int z := rfl
  show Steps p.tables e below (T.setTop { method := m, pc := pc, locals := Ls, stack := _ :: rest, locked := none }) _
  jvm_step X.here [X.here.top, hx, hd, hm', hret, hn]
  first | (intro acts; rw [hl _ acts rfl rfl rfl]) | rw [hl _ _ rfl rfl rfl]
  exact Steps.refl _
end New
end Jvm.RoadKit

namespace Jvm.Pilot.@@N@@
open Jvm Jvm.ClassFile Sem Op Lib Jvm.Free Jvm.Stand Jvm.LawKit Jvm.RoadKit Bundle Jvm.Pilot.@@N@@.Jvm.D
def own_Go (tb : Tables) (e : Env) (below : List Frame) (K : State → Outcome → Prop) (S : State) : Prop := ∃ t o, Steps tb e below S t ∧ K t o
theorem own_Go.by {tb : Tables} {e : Env} {below : List Frame} {K : State → Outcome → Prop} {S S' : State} (h : ∀ t, Steps tb e below S' t → Steps tb e below S t) (g : own_Go tb e below K S') : own_Go tb e below K S := by
  obtain ⟨t, o, a, b⟩ := g
  exact ⟨t, o, h t a, b⟩
theorem own_Go.fin {tb : Tables} {e : Env} {below : List Frame} {K : State → Outcome → Prop} {S t : State} {o : Outcome} (h : Steps tb e below S t) (k : K t o) : own_Go tb e below K S := ⟨t, o, h, k⟩
theorem own_merge {α : Type} {P : α → Prop} {F : α → State} {tb : Tables} {e : Env} {below : List Frame} {K : State → Outcome → Prop} {S : State} (g : ∀ v, P v → own_Go tb e below K (F v)) (h : (∀ v, P v → own_Go tb e below K (F v)) → own_Go tb e below K S) : own_Go tb e below K S := h g
theorem own_old_le {Z : State} {n0 : Nat} {h : Heap} (O : Old Z n0 h) : n0 ≤ h.size := O.1 ▸ O.2.1
theorem own_rew {s t : State} {o : Outcome} {L : List Loc} {k n k' n' : Nat} (h : ReturnedEndW s o t L k n) (hk : k ≤ k') (hn : n ≤ n') : ReturnedEndW s o t L k' n' := ⟨h.1, h.2.1, h.2.2.1, h.2.2.2.mono hk hn⟩
theorem own_privsel {s : State} {a1 a2 args : Array Value} {y : MethodName} {n : Nat} (wi : (Jvm.Cond.instantiable y.cls n).before a1 s = true) (wp : (Jvm.Cond.privateMethod y).before a2 s = true) (wm : (Jvm.Cond.instanceMethod y).before args s = true) (hy : y.cls ≠ "java/lang/invoke/MethodHandle" ∧ y.cls ≠ "java/lang/invoke/VarHandle") : (Jvm.Cond.selects y.cls y y).before args s = true := by
  obtain ⟨c, k, h1, h2, -, h4, -⟩ := Cond.instantiable_spec wi
  simp only [Bool.or_eq_false_iff] at h4
  exact selects_self_of_private h1 h2 h4.1 (Cond.privateMethod_at wp) wm hy
theorem own_arr_keep {Z : State} {h h' : Heap} {a : Addr} {c : Cell} {ty : FieldType} {ws : List Addr} (A : Arr Z h a c ty) (K : Keep h h' ws) (q : a ∉ ws) : Arr Z h' a c ty := ⟨K.2.1 a c A.1 q, A.2⟩

theorem own_fldInt {args : Array Value} {s : State} {t : Term} {C n dd : String} {a : Addr} {v : Int32} (ht : t.eval args s none [] s = some (.ref a)) (h : (Jvm.Cond.eq (Term.field t C n dd) (Term.int v)).value args s none s [] = some true) : Fld s s.heap a C n dd (.int v) := by
  refine Fld.start ?_
  obtain ⟨x, y, e1, e2, k1, k2⟩ := cmp_v (Or.inl h)
  obtain rfl : Value.int v = y := Option.some.inj e2
  obtain ⟨z, rfl⟩ := k2
  have q := gotT (Cond.eq_ints e1 e2) h
  subst q
  rw [← fld_at ht]
  exact e1

theorem d2_0 : decode jdk_37_method_2_code 0 = .ok (.aload_n 0, 1) := by decide +kernel
theorem d2_1 : decode jdk_37_method_2_code 1 = .ok (.getfield 7, 3) := by decide +kernel
theorem d2_4 : decode jdk_37_method_2_code 4 = .ok (.ireturn, 1) := by decide +kernel
theorem own_pn_java_lang_Enum : plainName "java/lang/Enum" = true := by first | (simp [plainName, overriddenIn]; done) | decide +kernel
theorem own_ef_2 (m : MethodId) (a1 : Addr) : entryFrame m #[(.ref a1)] 1 = mkF m 0 #[.val (.ref a1)] [] := by first | (simp [entryFrame, mkF, argsToLocals, Value.category]; done) | rfl
def Q2 (Z : State) (a1 : Addr) (w2 : Int32) (h0 : Heap) (n0 : Nat) (v : Option Value) (h : Heap) (L : List Loc) : Prop := v = some (.int w2) ∧ Fr n0 L ∧ h = h0
set_option maxRecDepth 65536 in
set_option maxHeartbeats 40000000 in
theorem rm2 (l : Launch) (Z : State) (a0 : Array Value) (hw : ∀ d ∈ tables_1, d.before a0 Z = true) (ws : List Jvm.Cond) (a1 : Addr) (w2 : Int32) (h0 : Heap) (n0 : Nat) (O0 : Old Z n0 h0) (H0 : Fld Z h0 a1 "java/lang/Enum" "ordinal" "I" (.int w2)) :
    MetFree l (⟨"java/lang/Enum", "ordinal", "()I"⟩ : MethodName) (head1 (Jvm.Cond.code (⟨"java/lang/Enum", "ordinal", "()I"⟩ : MethodName) jdk_37_method_2_code 1 (some .int) :: ws) ({ frames := 0, cells := 0, slots := 0, locals := 0 } : Room)) (fun a U => a = #[(.ref a1)] ∧ Z.Warmed39 U.vm ∧ U.heap = h0) (fun _ _ _ _ _ => True) (fun _ U o U' => ∃ v L, o = .returned v ∧ Q2 Z a1 w2 h0 n0 v U'.heap L ∧ FrameEnd U o U' L ({ frames := 0, cells := 0, slots := 0, locals := 0 } : Room).cells ({ frames := 0, cells := 0, slots := 0, locals := 0 } : Room).slots) := by
  refine MetFree.of_bodySF (plainFor_of_name own_pn_java_lang_Enum) hisR ?_
  intro p e s m args below meth c s₁ Bd hml0 hP hK
  obtain ⟨rfl, hZ, hh⟩ := hP
  have hx := Bd.exec
  have hby := Bd.bytes
  have hml : c.maxLocals = 1 := hml0
  have hown : s.vm.findClass "java/lang/Enum" = some m.cls := findClass_of_methodNamed Bd.named
  have hnm := (name_of_methodNamed Bd.named Bd.method).1
  have X0 : Stand p l e ({ frames := 0, cells := 0, slots := 0, locals := 0 } : Room) s m #[(.ref a1)] below meth c s₁ [] 0 0 := Stand.of_body Bd
  have e0 : s₁.heap = h0 := by rw [← hh, Bd.state]; rfl
  have N0 := Fr.nil n0
  have K0 : Keep h0 h0 [] := Keep.refl h0 []
  show own_Go p.tables e below _ (s₁.setTop (entryFrame m #[(.ref a1)] 1))
  refine own_Go.by (fun tq kq => castTop (own_ef_2 m a1) kq) ?_
  show own_Go p.tables e below _ (s₁.setTop (mkF m 0 #[.val (.ref a1)] []))
  refine own_Go.by (fun tq kq => XS.aloadN X0.here hx rfl (hb hby d2_0) rfl rfl kq) ?_
  show own_Go p.tables e below _ (s₁.setTop (mkF m 1 #[.val (.ref a1)] [(.ref a1)]))
  obtain ⟨T1, X1, e1, st1⟩ := getF X0 hx hZ hown (host := "") (Or.inl (hw _ (List.mem_of_getElem? (i := 16) rfl))) Via.refl e0 H0 (g := (mkF m 1 #[.val (.ref a1)] [(.ref a1)])) rfl rfl (hb hby d2_1)
  refine own_Go.by st1 ?_
  show own_Go p.tables e below _ (T1.setTop (mkF m 4 #[.val (.ref a1)] [(.int w2)]))
  obtain ⟨fs, hr, hrun, hended, hW, hsame⟩ := X1.leave (v := some (.int w2)) (fun h => by rw [Bd.returns] at h; cases h)
  refine own_Go.fin (retI X1 hx Bd.returns (hb hby d2_4) hr) ⟨hrun, hended, _, _, rfl, ?_, ⟨_, rfl⟩, hW, hsame.mono (by decide) (by decide)⟩
  show Q2 Z a1 w2 h0 n0 _ T1.heap _
  rw [e1]
  exact ⟨rfl, N0, rfl⟩

theorem own_pd0 : parseMethodDescriptor "()I" = some ⟨[], some .int⟩ := by decide +kernel
theorem d1_0 : decode prog_48_method_5_code 0 = .ok (.aload_n 0, 1) := by decide +kernel
theorem d1_1 : decode prog_48_method_5_code 1 = .ok (.invokevirtual 42, 3) := by decide +kernel
theorem d1_4 : decode prog_48_method_5_code 4 = .ok (.tableswitch 36 0 4 #[46, 46, 50, 50, 50], 36) := by decide +kernel
theorem d1_50 : decode prog_48_method_5_code 50 = .ok (.iconst 0, 1) := by decide +kernel
theorem d1_51 : decode prog_48_method_5_code 51 = .ok (.goto 4, 3) := by decide +kernel
theorem d1_55 : decode prog_48_method_5_code 55 = .ok (.ireturn, 1) := by decide +kernel
theorem own_pn_com_example_tierline_tierline_RedemptionReason : plainName "com/example/tierline/tierline/RedemptionReason" = true := by first | (simp [plainName, overriddenIn]; done) | decide +kernel
theorem own_ef_1_0 (m : MethodId) (a1 : Addr) : entryFrame m #[(.ref a1)] 1 = mkF m 0 #[.val (.ref a1)] [] := by first | (simp [entryFrame, mkF, argsToLocals, Value.category]; done) | rfl
def Q1_0 (Z : State) (a1 : Addr) (h0 : Heap) (n0 : Nat) (v : Option Value) (h : Heap) (L : List Loc) : Prop := v = some (.int (0 : Int32)) ∧ Fr n0 L ∧ h = h0
set_option maxRecDepth 65536 in
set_option maxHeartbeats 40000000 in
theorem rm1_0 (l : Launch) (Z : State) (a0 : Array Value) (hw : ∀ d ∈ tables_1, d.before a0 Z = true) (ws : List Jvm.Cond) (a1 : Addr) (h0 : Heap) (n0 : Nat) (O0 : Old Z n0 h0) (H0 : Exa Z h0 a1 "com/example/tierline/tierline/RedemptionReason") (H1 : Fld Z h0 a1 "java/lang/Enum" "ordinal" "I" (.int (0 : Int32))) :
    MetFree l (⟨"com/example/tierline/tierline/RedemptionReason", "isEvent", "()Z"⟩ : MethodName) (head1 (Jvm.Cond.code (⟨"com/example/tierline/tierline/RedemptionReason", "isEvent", "()Z"⟩ : MethodName) prog_48_method_5_code 1 (some .boolean) :: ws) ({ frames := 1, cells := 0, slots := 0, locals := 12 } : Room)) (fun a U => a = #[(.ref a1)] ∧ Z.Warmed39 U.vm ∧ U.heap = h0) (fun _ _ _ _ _ => True) (fun _ U o U' => ∃ v L, o = .returned v ∧ Q1_0 Z a1 h0 n0 v U'.heap L ∧ FrameEnd U o U' L ({ frames := 1, cells := 0, slots := 0, locals := 12 } : Room).cells ({ frames := 1, cells := 0, slots := 0, locals := 12 } : Room).slots) := by
  refine MetFree.of_bodySF (plainFor_of_name own_pn_com_example_tierline_tierline_RedemptionReason) hisR ?_
  intro p e s m args below meth c s₁ Bd hml0 hP hK
  obtain ⟨rfl, hZ, hh⟩ := hP
  have hx := Bd.exec
  have hby := Bd.bytes
  have hml : c.maxLocals = 1 := hml0
  have hown : s.vm.findClass "com/example/tierline/tierline/RedemptionReason" = some m.cls := findClass_of_methodNamed Bd.named
  have hnm := (name_of_methodNamed Bd.named Bd.method).1
  have X0 : Stand p l e ({ frames := 1, cells := 0, slots := 0, locals := 12 } : Room) s m #[(.ref a1)] below meth c s₁ [] 0 0 := Stand.of_body Bd
  have e0 : s₁.heap = h0 := by rw [← hh, Bd.state]; rfl
  have N0 := Fr.nil n0
  have K0 : Keep h0 h0 [] := Keep.refl h0 []
  show own_Go p.tables e below _ (s₁.setTop (entryFrame m #[(.ref a1)] 1))
  refine own_Go.by (fun tq kq => castTop (own_ef_1_0 m a1) kq) ?_
  show own_Go p.tables e below _ (s₁.setTop (mkF m 0 #[.val (.ref a1)] []))
  refine own_Go.by (fun tq kq => XS.aloadN X0.here hx rfl (hb hby d1_0) rfl rfl kq) ?_
  show own_Go p.tables e below _ (s₁.setTop (mkF m 1 #[.val (.ref a1)] [(.ref a1)]))
  obtain ⟨cq1, kq1, q1a, q1b, q1c⟩ := isOf hZ e0 H0
  obtain ⟨_, _, ⟨T1, L1, k1, n1⟩, -, X1, ⟨Lc1, hQ1, l1, y1, z1⟩, st1⟩ := X0.virtualBackUp hx (owner := "java/lang/Enum") (x := (⟨"com/example/tierline/tierline/RedemptionReason", "ordinal", "()I"⟩ : MethodName)) (y := (⟨"java/lang/Enum", "ordinal", "()I"⟩ : MethodName)) hown (mvT hZ (hw _ (List.mem_of_getElem? (i := 9) rfl))) (mvT hZ (hw _ (List.mem_of_getElem? (i := 10) rfl))) (mvT hZ (hw _ (List.mem_of_getElem? (i := 11) rfl))) (by decide) (mvT hZ (hw _ (List.mem_of_getElem? (i := 13) rfl))) (mvT hZ (hw _ (List.mem_of_getElem? (i := 12) rfl))) (backOf (W := 0) (rm2 l Z a0 hw [] a1 (0 : Int32) h0 n0 O0 H1) hZ (hw _ (List.mem_of_getElem? (i := 15) rfl)) (hw _ (List.mem_of_getElem? (i := 14) rfl)) (by decide) (by decide)) q1a q1c (g := (mkF m 1 #[.val (.ref a1)] [(.ref a1)])) rfl (by rw [hml]; rfl) (Steps.refl _) (argsL := []) (rest := []) (lenOf own_pd0 rfl) rfl (by show 2 * 0 + _ ≤ _; exact Nat.le_of_eq rfl) (hb hby d1_1) (fun _ _ => ⟨rfl, e0, (by decide : 0 + 0 ≤ _), (by decide : 0 + 0 ≤ _)⟩)
  dsimp only [Pt.U, Pt.locs, Pt.cells, Pt.slots] at X1 l1 y1 z1 st1 hQ1
  subst l1 y1 z1
  refine own_Go.by (fun tq kq => st1.trans kq) ?_
  obtain ⟨rfl, N1q, e1⟩ := hQ1
  have N1 := Fr.app N0 N1q
  show own_Go p.tables e below _ (T1.setTop (mkF m 4 #[.val (.ref a1)] [(.int (0 : Int32))]))
  refine own_Go.by (fun tq kq => XS.tswIn X1.here hx rfl (pc0 := 4) (pc' := 50) rfl (hb hby d1_4) rfl (o := 46) (by decide) (by decide) (by decide) (by decide) kq) ?_
  show own_Go p.tables e below _ (T1.setTop (mkF m 50 #[.val (.ref a1)] []))
  refine own_Go.by (fun tq kq => XS.iconst X1.here hx rfl (hb hby d1_50) kq) ?_
  show own_Go p.tables e below _ (T1.setTop (mkF m 51 #[.val (.ref a1)] [(.int (0 : Int32))]))
  refine own_Go.by (fun tq kq => XS.goto X1.here hx rfl (pc0 := 51) (pc' := 55) rfl (hb hby d1_51) (by decide) (by decide) kq) ?_
  show own_Go p.tables e below _ (T1.setTop (mkF m 55 #[.val (.ref a1)] [(.int (0 : Int32))]))
  obtain ⟨fs, hr, hrun, hended, hW, hsame⟩ := X1.leave (v := some (.int (nar .boolean (0 : Int32)))) (fun h => by rw [Bd.returns] at h; cases h)
  refine own_Go.fin (retN X1 hx (t := .boolean) Bd.returns (by simp) (hb hby d1_55) hr) ⟨hrun, hended, _, _, rfl, ?_, ⟨_, rfl⟩, hW, hsame.mono (by decide) (by decide)⟩
  show Q1_0 Z a1 h0 n0 _ T1.heap _
  rw [e1]
  exact ⟨rfl, N1, rfl⟩

theorem own_ef_1_1 (m : MethodId) (a1 : Addr) : entryFrame m #[(.ref a1)] 1 = mkF m 0 #[.val (.ref a1)] [] := by first | (simp [entryFrame, mkF, argsToLocals, Value.category]; done) | rfl
def Q1_1 (Z : State) (a1 : Addr) (h0 : Heap) (n0 : Nat) (v : Option Value) (h : Heap) (L : List Loc) : Prop := v = some (.int (0 : Int32)) ∧ Fr n0 L ∧ h = h0
set_option maxRecDepth 65536 in
set_option maxHeartbeats 40000000 in
theorem rm1_1 (l : Launch) (Z : State) (a0 : Array Value) (hw : ∀ d ∈ tables_1, d.before a0 Z = true) (ws : List Jvm.Cond) (a1 : Addr) (h0 : Heap) (n0 : Nat) (O0 : Old Z n0 h0) (H0 : Exa Z h0 a1 "com/example/tierline/tierline/RedemptionReason") (H1 : Fld Z h0 a1 "java/lang/Enum" "ordinal" "I" (.int (1 : Int32))) :
    MetFree l (⟨"com/example/tierline/tierline/RedemptionReason", "isEvent", "()Z"⟩ : MethodName) (head1 (Jvm.Cond.code (⟨"com/example/tierline/tierline/RedemptionReason", "isEvent", "()Z"⟩ : MethodName) prog_48_method_5_code 1 (some .boolean) :: ws) ({ frames := 1, cells := 0, slots := 0, locals := 12 } : Room)) (fun a U => a = #[(.ref a1)] ∧ Z.Warmed39 U.vm ∧ U.heap = h0) (fun _ _ _ _ _ => True) (fun _ U o U' => ∃ v L, o = .returned v ∧ Q1_1 Z a1 h0 n0 v U'.heap L ∧ FrameEnd U o U' L ({ frames := 1, cells := 0, slots := 0, locals := 12 } : Room).cells ({ frames := 1, cells := 0, slots := 0, locals := 12 } : Room).slots) := by
  refine MetFree.of_bodySF (plainFor_of_name own_pn_com_example_tierline_tierline_RedemptionReason) hisR ?_
  intro p e s m args below meth c s₁ Bd hml0 hP hK
  obtain ⟨rfl, hZ, hh⟩ := hP
  have hx := Bd.exec
  have hby := Bd.bytes
  have hml : c.maxLocals = 1 := hml0
  have hown : s.vm.findClass "com/example/tierline/tierline/RedemptionReason" = some m.cls := findClass_of_methodNamed Bd.named
  have hnm := (name_of_methodNamed Bd.named Bd.method).1
  have X0 : Stand p l e ({ frames := 1, cells := 0, slots := 0, locals := 12 } : Room) s m #[(.ref a1)] below meth c s₁ [] 0 0 := Stand.of_body Bd
  have e0 : s₁.heap = h0 := by rw [← hh, Bd.state]; rfl
  have N0 := Fr.nil n0
  have K0 : Keep h0 h0 [] := Keep.refl h0 []
  show own_Go p.tables e below _ (s₁.setTop (entryFrame m #[(.ref a1)] 1))
  refine own_Go.by (fun tq kq => castTop (own_ef_1_1 m a1) kq) ?_
  show own_Go p.tables e below _ (s₁.setTop (mkF m 0 #[.val (.ref a1)] []))
  refine own_Go.by (fun tq kq => XS.aloadN X0.here hx rfl (hb hby d1_0) rfl rfl kq) ?_
  show own_Go p.tables e below _ (s₁.setTop (mkF m 1 #[.val (.ref a1)] [(.ref a1)]))
  obtain ⟨cq1, kq1, q1a, q1b, q1c⟩ := isOf hZ e0 H0
  obtain ⟨_, _, ⟨T1, L1, k1, n1⟩, -, X1, ⟨Lc1, hQ1, l1, y1, z1⟩, st1⟩ := X0.virtualBackUp hx (owner := "java/lang/Enum") (x := (⟨"com/example/tierline/tierline/RedemptionReason", "ordinal", "()I"⟩ : MethodName)) (y := (⟨"java/lang/Enum", "ordinal", "()I"⟩ : MethodName)) hown (mvT hZ (hw _ (List.mem_of_getElem? (i := 9) rfl))) (mvT hZ (hw _ (List.mem_of_getElem? (i := 10) rfl))) (mvT hZ (hw _ (List.mem_of_getElem? (i := 11) rfl))) (by decide) (mvT hZ (hw _ (List.mem_of_getElem? (i := 13) rfl))) (mvT hZ (hw _ (List.mem_of_getElem? (i := 12) rfl))) (backOf (W := 0) (rm2 l Z a0 hw [] a1 (1 : Int32) h0 n0 O0 H1) hZ (hw _ (List.mem_of_getElem? (i := 15) rfl)) (hw _ (List.mem_of_getElem? (i := 14) rfl)) (by decide) (by decide)) q1a q1c (g := (mkF m 1 #[.val (.ref a1)] [(.ref a1)])) rfl (by rw [hml]; rfl) (Steps.refl _) (argsL := []) (rest := []) (lenOf own_pd0 rfl) rfl (by show 2 * 0 + _ ≤ _; exact Nat.le_of_eq rfl) (hb hby d1_1) (fun _ _ => ⟨rfl, e0, (by decide : 0 + 0 ≤ _), (by decide : 0 + 0 ≤ _)⟩)
  dsimp only [Pt.U, Pt.locs, Pt.cells, Pt.slots] at X1 l1 y1 z1 st1 hQ1
  subst l1 y1 z1
  refine own_Go.by (fun tq kq => st1.trans kq) ?_
  obtain ⟨rfl, N1q, e1⟩ := hQ1
  have N1 := Fr.app N0 N1q
  show own_Go p.tables e below _ (T1.setTop (mkF m 4 #[.val (.ref a1)] [(.int (1 : Int32))]))
  refine own_Go.by (fun tq kq => XS.tswIn X1.here hx rfl (pc0 := 4) (pc' := 50) rfl (hb hby d1_4) rfl (o := 46) (by decide) (by decide) (by decide) (by decide) kq) ?_
  show own_Go p.tables e below _ (T1.setTop (mkF m 50 #[.val (.ref a1)] []))
  refine own_Go.by (fun tq kq => XS.iconst X1.here hx rfl (hb hby d1_50) kq) ?_
  show own_Go p.tables e below _ (T1.setTop (mkF m 51 #[.val (.ref a1)] [(.int (0 : Int32))]))
  refine own_Go.by (fun tq kq => XS.goto X1.here hx rfl (pc0 := 51) (pc' := 55) rfl (hb hby d1_51) (by decide) (by decide) kq) ?_
  show own_Go p.tables e below _ (T1.setTop (mkF m 55 #[.val (.ref a1)] [(.int (0 : Int32))]))
  obtain ⟨fs, hr, hrun, hended, hW, hsame⟩ := X1.leave (v := some (.int (nar .boolean (0 : Int32)))) (fun h => by rw [Bd.returns] at h; cases h)
  refine own_Go.fin (retN X1 hx (t := .boolean) Bd.returns (by simp) (hb hby d1_55) hr) ⟨hrun, hended, _, _, rfl, ?_, ⟨_, rfl⟩, hW, hsame.mono (by decide) (by decide)⟩
  show Q1_1 Z a1 h0 n0 _ T1.heap _
  rw [e1]
  exact ⟨rfl, N1, rfl⟩

theorem d1_54 : decode prog_48_method_5_code 54 = .ok (.iconst 1, 1) := by decide +kernel
theorem own_ef_1_2 (m : MethodId) (a1 : Addr) : entryFrame m #[(.ref a1)] 1 = mkF m 0 #[.val (.ref a1)] [] := by first | (simp [entryFrame, mkF, argsToLocals, Value.category]; done) | rfl
def Q1_2 (Z : State) (a1 : Addr) (h0 : Heap) (n0 : Nat) (v : Option Value) (h : Heap) (L : List Loc) : Prop := v = some (.int (1 : Int32)) ∧ Fr n0 L ∧ h = h0
set_option maxRecDepth 65536 in
set_option maxHeartbeats 40000000 in
theorem rm1_2 (l : Launch) (Z : State) (a0 : Array Value) (hw : ∀ d ∈ tables_1, d.before a0 Z = true) (ws : List Jvm.Cond) (a1 : Addr) (h0 : Heap) (n0 : Nat) (O0 : Old Z n0 h0) (H0 : Exa Z h0 a1 "com/example/tierline/tierline/RedemptionReason") (H1 : Fld Z h0 a1 "java/lang/Enum" "ordinal" "I" (.int (2 : Int32))) :
    MetFree l (⟨"com/example/tierline/tierline/RedemptionReason", "isEvent", "()Z"⟩ : MethodName) (head1 (Jvm.Cond.code (⟨"com/example/tierline/tierline/RedemptionReason", "isEvent", "()Z"⟩ : MethodName) prog_48_method_5_code 1 (some .boolean) :: ws) ({ frames := 1, cells := 0, slots := 0, locals := 12 } : Room)) (fun a U => a = #[(.ref a1)] ∧ Z.Warmed39 U.vm ∧ U.heap = h0) (fun _ _ _ _ _ => True) (fun _ U o U' => ∃ v L, o = .returned v ∧ Q1_2 Z a1 h0 n0 v U'.heap L ∧ FrameEnd U o U' L ({ frames := 1, cells := 0, slots := 0, locals := 12 } : Room).cells ({ frames := 1, cells := 0, slots := 0, locals := 12 } : Room).slots) := by
  refine MetFree.of_bodySF (plainFor_of_name own_pn_com_example_tierline_tierline_RedemptionReason) hisR ?_
  intro p e s m args below meth c s₁ Bd hml0 hP hK
  obtain ⟨rfl, hZ, hh⟩ := hP
  have hx := Bd.exec
  have hby := Bd.bytes
  have hml : c.maxLocals = 1 := hml0
  have hown : s.vm.findClass "com/example/tierline/tierline/RedemptionReason" = some m.cls := findClass_of_methodNamed Bd.named
  have hnm := (name_of_methodNamed Bd.named Bd.method).1
  have X0 : Stand p l e ({ frames := 1, cells := 0, slots := 0, locals := 12 } : Room) s m #[(.ref a1)] below meth c s₁ [] 0 0 := Stand.of_body Bd
  have e0 : s₁.heap = h0 := by rw [← hh, Bd.state]; rfl
  have N0 := Fr.nil n0
  have K0 : Keep h0 h0 [] := Keep.refl h0 []
  show own_Go p.tables e below _ (s₁.setTop (entryFrame m #[(.ref a1)] 1))
  refine own_Go.by (fun tq kq => castTop (own_ef_1_2 m a1) kq) ?_
  show own_Go p.tables e below _ (s₁.setTop (mkF m 0 #[.val (.ref a1)] []))
  refine own_Go.by (fun tq kq => XS.aloadN X0.here hx rfl (hb hby d1_0) rfl rfl kq) ?_
  show own_Go p.tables e below _ (s₁.setTop (mkF m 1 #[.val (.ref a1)] [(.ref a1)]))
  obtain ⟨cq1, kq1, q1a, q1b, q1c⟩ := isOf hZ e0 H0
  obtain ⟨_, _, ⟨T1, L1, k1, n1⟩, -, X1, ⟨Lc1, hQ1, l1, y1, z1⟩, st1⟩ := X0.virtualBackUp hx (owner := "java/lang/Enum") (x := (⟨"com/example/tierline/tierline/RedemptionReason", "ordinal", "()I"⟩ : MethodName)) (y := (⟨"java/lang/Enum", "ordinal", "()I"⟩ : MethodName)) hown (mvT hZ (hw _ (List.mem_of_getElem? (i := 9) rfl))) (mvT hZ (hw _ (List.mem_of_getElem? (i := 10) rfl))) (mvT hZ (hw _ (List.mem_of_getElem? (i := 11) rfl))) (by decide) (mvT hZ (hw _ (List.mem_of_getElem? (i := 13) rfl))) (mvT hZ (hw _ (List.mem_of_getElem? (i := 12) rfl))) (backOf (W := 0) (rm2 l Z a0 hw [] a1 (2 : Int32) h0 n0 O0 H1) hZ (hw _ (List.mem_of_getElem? (i := 15) rfl)) (hw _ (List.mem_of_getElem? (i := 14) rfl)) (by decide) (by decide)) q1a q1c (g := (mkF m 1 #[.val (.ref a1)] [(.ref a1)])) rfl (by rw [hml]; rfl) (Steps.refl _) (argsL := []) (rest := []) (lenOf own_pd0 rfl) rfl (by show 2 * 0 + _ ≤ _; exact Nat.le_of_eq rfl) (hb hby d1_1) (fun _ _ => ⟨rfl, e0, (by decide : 0 + 0 ≤ _), (by decide : 0 + 0 ≤ _)⟩)
  dsimp only [Pt.U, Pt.locs, Pt.cells, Pt.slots] at X1 l1 y1 z1 st1 hQ1
  subst l1 y1 z1
  refine own_Go.by (fun tq kq => st1.trans kq) ?_
  obtain ⟨rfl, N1q, e1⟩ := hQ1
  have N1 := Fr.app N0 N1q
  show own_Go p.tables e below _ (T1.setTop (mkF m 4 #[.val (.ref a1)] [(.int (2 : Int32))]))
  refine own_Go.by (fun tq kq => XS.tswIn X1.here hx rfl (pc0 := 4) (pc' := 54) rfl (hb hby d1_4) rfl (o := 50) (by decide) (by decide) (by decide) (by decide) kq) ?_
  show own_Go p.tables e below _ (T1.setTop (mkF m 54 #[.val (.ref a1)] []))
  refine own_Go.by (fun tq kq => XS.iconst X1.here hx rfl (hb hby d1_54) kq) ?_
  show own_Go p.tables e below _ (T1.setTop (mkF m 55 #[.val (.ref a1)] [(.int (1 : Int32))]))
  obtain ⟨fs, hr, hrun, hended, hW, hsame⟩ := X1.leave (v := some (.int (nar .boolean (1 : Int32)))) (fun h => by rw [Bd.returns] at h; cases h)
  refine own_Go.fin (retN X1 hx (t := .boolean) Bd.returns (by simp) (hb hby d1_55) hr) ⟨hrun, hended, _, _, rfl, ?_, ⟨_, rfl⟩, hW, hsame.mono (by decide) (by decide)⟩
  show Q1_2 Z a1 h0 n0 _ T1.heap _
  rw [e1]
  exact ⟨rfl, N1, rfl⟩

theorem own_ef_1_3 (m : MethodId) (a1 : Addr) : entryFrame m #[(.ref a1)] 1 = mkF m 0 #[.val (.ref a1)] [] := by first | (simp [entryFrame, mkF, argsToLocals, Value.category]; done) | rfl
def Q1_3 (Z : State) (a1 : Addr) (h0 : Heap) (n0 : Nat) (v : Option Value) (h : Heap) (L : List Loc) : Prop := v = some (.int (1 : Int32)) ∧ Fr n0 L ∧ h = h0
set_option maxRecDepth 65536 in
set_option maxHeartbeats 40000000 in
theorem rm1_3 (l : Launch) (Z : State) (a0 : Array Value) (hw : ∀ d ∈ tables_1, d.before a0 Z = true) (ws : List Jvm.Cond) (a1 : Addr) (h0 : Heap) (n0 : Nat) (O0 : Old Z n0 h0) (H0 : Exa Z h0 a1 "com/example/tierline/tierline/RedemptionReason") (H1 : Fld Z h0 a1 "java/lang/Enum" "ordinal" "I" (.int (3 : Int32))) :
    MetFree l (⟨"com/example/tierline/tierline/RedemptionReason", "isEvent", "()Z"⟩ : MethodName) (head1 (Jvm.Cond.code (⟨"com/example/tierline/tierline/RedemptionReason", "isEvent", "()Z"⟩ : MethodName) prog_48_method_5_code 1 (some .boolean) :: ws) ({ frames := 1, cells := 0, slots := 0, locals := 12 } : Room)) (fun a U => a = #[(.ref a1)] ∧ Z.Warmed39 U.vm ∧ U.heap = h0) (fun _ _ _ _ _ => True) (fun _ U o U' => ∃ v L, o = .returned v ∧ Q1_3 Z a1 h0 n0 v U'.heap L ∧ FrameEnd U o U' L ({ frames := 1, cells := 0, slots := 0, locals := 12 } : Room).cells ({ frames := 1, cells := 0, slots := 0, locals := 12 } : Room).slots) := by
  refine MetFree.of_bodySF (plainFor_of_name own_pn_com_example_tierline_tierline_RedemptionReason) hisR ?_
  intro p e s m args below meth c s₁ Bd hml0 hP hK
  obtain ⟨rfl, hZ, hh⟩ := hP
  have hx := Bd.exec
  have hby := Bd.bytes
  have hml : c.maxLocals = 1 := hml0
  have hown : s.vm.findClass "com/example/tierline/tierline/RedemptionReason" = some m.cls := findClass_of_methodNamed Bd.named
  have hnm := (name_of_methodNamed Bd.named Bd.method).1
  have X0 : Stand p l e ({ frames := 1, cells := 0, slots := 0, locals := 12 } : Room) s m #[(.ref a1)] below meth c s₁ [] 0 0 := Stand.of_body Bd
  have e0 : s₁.heap = h0 := by rw [← hh, Bd.state]; rfl
  have N0 := Fr.nil n0
  have K0 : Keep h0 h0 [] := Keep.refl h0 []
  show own_Go p.tables e below _ (s₁.setTop (entryFrame m #[(.ref a1)] 1))
  refine own_Go.by (fun tq kq => castTop (own_ef_1_3 m a1) kq) ?_
  show own_Go p.tables e below _ (s₁.setTop (mkF m 0 #[.val (.ref a1)] []))
  refine own_Go.by (fun tq kq => XS.aloadN X0.here hx rfl (hb hby d1_0) rfl rfl kq) ?_
  show own_Go p.tables e below _ (s₁.setTop (mkF m 1 #[.val (.ref a1)] [(.ref a1)]))
  obtain ⟨cq1, kq1, q1a, q1b, q1c⟩ := isOf hZ e0 H0
  obtain ⟨_, _, ⟨T1, L1, k1, n1⟩, -, X1, ⟨Lc1, hQ1, l1, y1, z1⟩, st1⟩ := X0.virtualBackUp hx (owner := "java/lang/Enum") (x := (⟨"com/example/tierline/tierline/RedemptionReason", "ordinal", "()I"⟩ : MethodName)) (y := (⟨"java/lang/Enum", "ordinal", "()I"⟩ : MethodName)) hown (mvT hZ (hw _ (List.mem_of_getElem? (i := 9) rfl))) (mvT hZ (hw _ (List.mem_of_getElem? (i := 10) rfl))) (mvT hZ (hw _ (List.mem_of_getElem? (i := 11) rfl))) (by decide) (mvT hZ (hw _ (List.mem_of_getElem? (i := 13) rfl))) (mvT hZ (hw _ (List.mem_of_getElem? (i := 12) rfl))) (backOf (W := 0) (rm2 l Z a0 hw [] a1 (3 : Int32) h0 n0 O0 H1) hZ (hw _ (List.mem_of_getElem? (i := 15) rfl)) (hw _ (List.mem_of_getElem? (i := 14) rfl)) (by decide) (by decide)) q1a q1c (g := (mkF m 1 #[.val (.ref a1)] [(.ref a1)])) rfl (by rw [hml]; rfl) (Steps.refl _) (argsL := []) (rest := []) (lenOf own_pd0 rfl) rfl (by show 2 * 0 + _ ≤ _; exact Nat.le_of_eq rfl) (hb hby d1_1) (fun _ _ => ⟨rfl, e0, (by decide : 0 + 0 ≤ _), (by decide : 0 + 0 ≤ _)⟩)
  dsimp only [Pt.U, Pt.locs, Pt.cells, Pt.slots] at X1 l1 y1 z1 st1 hQ1
  subst l1 y1 z1
  refine own_Go.by (fun tq kq => st1.trans kq) ?_
  obtain ⟨rfl, N1q, e1⟩ := hQ1
  have N1 := Fr.app N0 N1q
  show own_Go p.tables e below _ (T1.setTop (mkF m 4 #[.val (.ref a1)] [(.int (3 : Int32))]))
  refine own_Go.by (fun tq kq => XS.tswIn X1.here hx rfl (pc0 := 4) (pc' := 54) rfl (hb hby d1_4) rfl (o := 50) (by decide) (by decide) (by decide) (by decide) kq) ?_
  show own_Go p.tables e below _ (T1.setTop (mkF m 54 #[.val (.ref a1)] []))
  refine own_Go.by (fun tq kq => XS.iconst X1.here hx rfl (hb hby d1_54) kq) ?_
  show own_Go p.tables e below _ (T1.setTop (mkF m 55 #[.val (.ref a1)] [(.int (1 : Int32))]))
  obtain ⟨fs, hr, hrun, hended, hW, hsame⟩ := X1.leave (v := some (.int (nar .boolean (1 : Int32)))) (fun h => by rw [Bd.returns] at h; cases h)
  refine own_Go.fin (retN X1 hx (t := .boolean) Bd.returns (by simp) (hb hby d1_55) hr) ⟨hrun, hended, _, _, rfl, ?_, ⟨_, rfl⟩, hW, hsame.mono (by decide) (by decide)⟩
  show Q1_3 Z a1 h0 n0 _ T1.heap _
  rw [e1]
  exact ⟨rfl, N1, rfl⟩

theorem own_ef_1_4 (m : MethodId) (a1 : Addr) : entryFrame m #[(.ref a1)] 1 = mkF m 0 #[.val (.ref a1)] [] := by first | (simp [entryFrame, mkF, argsToLocals, Value.category]; done) | rfl
def Q1_4 (Z : State) (a1 : Addr) (h0 : Heap) (n0 : Nat) (v : Option Value) (h : Heap) (L : List Loc) : Prop := v = some (.int (1 : Int32)) ∧ Fr n0 L ∧ h = h0
set_option maxRecDepth 65536 in
set_option maxHeartbeats 40000000 in
theorem rm1_4 (l : Launch) (Z : State) (a0 : Array Value) (hw : ∀ d ∈ tables_1, d.before a0 Z = true) (ws : List Jvm.Cond) (a1 : Addr) (h0 : Heap) (n0 : Nat) (O0 : Old Z n0 h0) (H0 : Exa Z h0 a1 "com/example/tierline/tierline/RedemptionReason") (H1 : Fld Z h0 a1 "java/lang/Enum" "ordinal" "I" (.int (4 : Int32))) :
    MetFree l (⟨"com/example/tierline/tierline/RedemptionReason", "isEvent", "()Z"⟩ : MethodName) (head1 (Jvm.Cond.code (⟨"com/example/tierline/tierline/RedemptionReason", "isEvent", "()Z"⟩ : MethodName) prog_48_method_5_code 1 (some .boolean) :: ws) ({ frames := 1, cells := 0, slots := 0, locals := 12 } : Room)) (fun a U => a = #[(.ref a1)] ∧ Z.Warmed39 U.vm ∧ U.heap = h0) (fun _ _ _ _ _ => True) (fun _ U o U' => ∃ v L, o = .returned v ∧ Q1_4 Z a1 h0 n0 v U'.heap L ∧ FrameEnd U o U' L ({ frames := 1, cells := 0, slots := 0, locals := 12 } : Room).cells ({ frames := 1, cells := 0, slots := 0, locals := 12 } : Room).slots) := by
  refine MetFree.of_bodySF (plainFor_of_name own_pn_com_example_tierline_tierline_RedemptionReason) hisR ?_
  intro p e s m args below meth c s₁ Bd hml0 hP hK
  obtain ⟨rfl, hZ, hh⟩ := hP
  have hx := Bd.exec
  have hby := Bd.bytes
  have hml : c.maxLocals = 1 := hml0
  have hown : s.vm.findClass "com/example/tierline/tierline/RedemptionReason" = some m.cls := findClass_of_methodNamed Bd.named
  have hnm := (name_of_methodNamed Bd.named Bd.method).1
  have X0 : Stand p l e ({ frames := 1, cells := 0, slots := 0, locals := 12 } : Room) s m #[(.ref a1)] below meth c s₁ [] 0 0 := Stand.of_body Bd
  have e0 : s₁.heap = h0 := by rw [← hh, Bd.state]; rfl
  have N0 := Fr.nil n0
  have K0 : Keep h0 h0 [] := Keep.refl h0 []
  show own_Go p.tables e below _ (s₁.setTop (entryFrame m #[(.ref a1)] 1))
  refine own_Go.by (fun tq kq => castTop (own_ef_1_4 m a1) kq) ?_
  show own_Go p.tables e below _ (s₁.setTop (mkF m 0 #[.val (.ref a1)] []))
  refine own_Go.by (fun tq kq => XS.aloadN X0.here hx rfl (hb hby d1_0) rfl rfl kq) ?_
  show own_Go p.tables e below _ (s₁.setTop (mkF m 1 #[.val (.ref a1)] [(.ref a1)]))
  obtain ⟨cq1, kq1, q1a, q1b, q1c⟩ := isOf hZ e0 H0
  obtain ⟨_, _, ⟨T1, L1, k1, n1⟩, -, X1, ⟨Lc1, hQ1, l1, y1, z1⟩, st1⟩ := X0.virtualBackUp hx (owner := "java/lang/Enum") (x := (⟨"com/example/tierline/tierline/RedemptionReason", "ordinal", "()I"⟩ : MethodName)) (y := (⟨"java/lang/Enum", "ordinal", "()I"⟩ : MethodName)) hown (mvT hZ (hw _ (List.mem_of_getElem? (i := 9) rfl))) (mvT hZ (hw _ (List.mem_of_getElem? (i := 10) rfl))) (mvT hZ (hw _ (List.mem_of_getElem? (i := 11) rfl))) (by decide) (mvT hZ (hw _ (List.mem_of_getElem? (i := 13) rfl))) (mvT hZ (hw _ (List.mem_of_getElem? (i := 12) rfl))) (backOf (W := 0) (rm2 l Z a0 hw [] a1 (4 : Int32) h0 n0 O0 H1) hZ (hw _ (List.mem_of_getElem? (i := 15) rfl)) (hw _ (List.mem_of_getElem? (i := 14) rfl)) (by decide) (by decide)) q1a q1c (g := (mkF m 1 #[.val (.ref a1)] [(.ref a1)])) rfl (by rw [hml]; rfl) (Steps.refl _) (argsL := []) (rest := []) (lenOf own_pd0 rfl) rfl (by show 2 * 0 + _ ≤ _; exact Nat.le_of_eq rfl) (hb hby d1_1) (fun _ _ => ⟨rfl, e0, (by decide : 0 + 0 ≤ _), (by decide : 0 + 0 ≤ _)⟩)
  dsimp only [Pt.U, Pt.locs, Pt.cells, Pt.slots] at X1 l1 y1 z1 st1 hQ1
  subst l1 y1 z1
  refine own_Go.by (fun tq kq => st1.trans kq) ?_
  obtain ⟨rfl, N1q, e1⟩ := hQ1
  have N1 := Fr.app N0 N1q
  show own_Go p.tables e below _ (T1.setTop (mkF m 4 #[.val (.ref a1)] [(.int (4 : Int32))]))
  refine own_Go.by (fun tq kq => XS.tswIn X1.here hx rfl (pc0 := 4) (pc' := 54) rfl (hb hby d1_4) rfl (o := 50) (by decide) (by decide) (by decide) (by decide) kq) ?_
  show own_Go p.tables e below _ (T1.setTop (mkF m 54 #[.val (.ref a1)] []))
  refine own_Go.by (fun tq kq => XS.iconst X1.here hx rfl (hb hby d1_54) kq) ?_
  show own_Go p.tables e below _ (T1.setTop (mkF m 55 #[.val (.ref a1)] [(.int (1 : Int32))]))
  obtain ⟨fs, hr, hrun, hended, hW, hsame⟩ := X1.leave (v := some (.int (nar .boolean (1 : Int32)))) (fun h => by rw [Bd.returns] at h; cases h)
  refine own_Go.fin (retN X1 hx (t := .boolean) Bd.returns (by simp) (hb hby d1_55) hr) ⟨hrun, hended, _, _, rfl, ?_, ⟨_, rfl⟩, hW, hsame.mono (by decide) (by decide)⟩
  show Q1_4 Z a1 h0 n0 _ T1.heap _
  rw [e1]
  exact ⟨rfl, N1, rfl⟩

theorem own_pd1 : parseMethodDescriptor "()Z" = some ⟨[], some .boolean⟩ := by decide +kernel
theorem own_pn_com_example_tierline_tierline_RedemptionReasonIsEventPinLaw : plainName "com/example/tierline/tierline/RedemptionReasonIsEventPinLaw" = true := by first | (simp [plainName, overriddenIn]; done) | decide +kernel
theorem own_ef_0 (m : MethodId) (p1 : Int32) : entryFrame m #[(.int p1)] maxLocals = mkF m 0 #[.val (.int p1), .unset, .unset, .unset, .unset] [] := by first | (simp [entryFrame, mkF, argsToLocals, Value.category, maxLocals]; done) | rfl
def Q0 (Z : State) (p1 : Int32) (a_OPTIONAL : Addr) (a_REGULATORY_CAPITAL : Addr) (a_PUT : Addr) (a_RATING_AGENCY : Addr) (a_TAX : Addr) (h0 : Heap) (n0 : Nat) (v : Option Value) (h : Heap) (L : List Loc) : Prop := v = some (.int (1 : Int32)) ∧ Fr n0 L ∧ Keep h0 h []
set_option maxRecDepth 65536 in
set_option maxHeartbeats 40000000 in
theorem rm0 (l : Launch) (Z : State) (a0 : Array Value) (hw : ∀ d ∈ tables_1, d.before a0 Z = true) (ws : List Jvm.Cond) (p1 : Int32) (a_OPTIONAL : Addr) (a_REGULATORY_CAPITAL : Addr) (a_PUT : Addr) (a_RATING_AGENCY : Addr) (a_TAX : Addr) (h0 : Heap) (n0 : Nat) (O0 : Old Z n0 h0) (H0 : Sta Z Z.heap "com/example/tierline/tierline/RedemptionReason" "OPTIONAL" "Lcom/example/tierline/tierline/RedemptionReason;" (.ref a_OPTIONAL)) (H1 : Exa Z Z.heap a_OPTIONAL "com/example/tierline/tierline/RedemptionReason") (H2 : Fld Z Z.heap a_OPTIONAL "java/lang/Enum" "ordinal" "I" (.int (0 : Int32))) (H3 : Sta Z Z.heap "com/example/tierline/tierline/RedemptionReason" "REGULATORY_CAPITAL" "Lcom/example/tierline/tierline/RedemptionReason;" (.ref a_REGULATORY_CAPITAL)) (H4 : Exa Z Z.heap a_REGULATORY_CAPITAL "com/example/tierline/tierline/RedemptionReason") (H5 : Fld Z Z.heap a_REGULATORY_CAPITAL "java/lang/Enum" "ordinal" "I" (.int (3 : Int32))) (H6 : Sta Z Z.heap "com/example/tierline/tierline/RedemptionReason" "PUT" "Lcom/example/tierline/tierline/RedemptionReason;" (.ref a_PUT)) (H7 : Exa Z Z.heap a_PUT "com/example/tierline/tierline/RedemptionReason") (H8 : Fld Z Z.heap a_PUT "java/lang/Enum" "ordinal" "I" (.int (1 : Int32))) (H9 : Sta Z Z.heap "com/example/tierline/tierline/RedemptionReason" "RATING_AGENCY" "Lcom/example/tierline/tierline/RedemptionReason;" (.ref a_RATING_AGENCY)) (H10 : Exa Z Z.heap a_RATING_AGENCY "com/example/tierline/tierline/RedemptionReason") (H11 : Fld Z Z.heap a_RATING_AGENCY "java/lang/Enum" "ordinal" "I" (.int (4 : Int32))) (H12 : Sta Z Z.heap "com/example/tierline/tierline/RedemptionReason" "TAX" "Lcom/example/tierline/tierline/RedemptionReason;" (.ref a_TAX)) (H13 : Exa Z Z.heap a_TAX "com/example/tierline/tierline/RedemptionReason") (H14 : Fld Z Z.heap a_TAX "java/lang/Enum" "ordinal" "I" (.int (2 : Int32))) :
    MetFree l x (head1 (Jvm.Cond.code x code maxLocals ret :: ws) room_1) (fun a U => a = #[(.int p1)] ∧ Z.Warmed39 U.vm ∧ U.heap = h0) (fun _ _ _ _ _ => True) (fun _ U o U' => ∃ v L, o = .returned v ∧ Q0 Z p1 a_OPTIONAL a_REGULATORY_CAPITAL a_PUT a_RATING_AGENCY a_TAX h0 n0 v U'.heap L ∧ FrameEnd U o U' L room_1.cells room_1.slots) := by
  refine MetFree.of_bodySF (plainFor_of_name own_pn_com_example_tierline_tierline_RedemptionReasonIsEventPinLaw) hisR ?_
  intro p e s m args below meth c s₁ Bd hml0 hP hK
  obtain ⟨rfl, hZ, hh⟩ := hP
  have hx := Bd.exec
  have hby := Bd.bytes
  have hml : c.maxLocals = 5 := hml0
  have hown : s.vm.findClass "com/example/tierline/tierline/RedemptionReasonIsEventPinLaw" = some m.cls := findClass_of_methodNamed Bd.named
  have hnm := (name_of_methodNamed Bd.named Bd.method).1
  have X0 : Stand p l e room_1 s m #[(.int p1)] below meth c s₁ [] 0 0 := Stand.of_body Bd
  have e0 : s₁.heap = h0 := by rw [← hh, Bd.state]; rfl
  have N0 := Fr.nil n0
  have K0 : Keep h0 h0 [] := Keep.refl h0 []
  show own_Go p.tables e below _ (s₁.setTop (entryFrame m #[(.int p1)] maxLocals))
  refine own_Go.by (fun tq kq => castTop (own_ef_0 m p1) kq) ?_
  show own_Go p.tables e below _ (s₁.setTop (mkF m 0 #[.val (.int p1), .unset, .unset, .unset, .unset] []))
  refine own_Go.by (fun tq kq => XS.iloadN X0.here hx rfl (hb hby at_0) rfl kq) ?_
  show own_Go p.tables e below _ (s₁.setTop (mkF m 1 #[.val (.int p1), .unset, .unset, .unset, .unset] [(.int p1)]))
  refine own_Go.by (fun tq kq => X0.ldcInt hx hown (mvT hZ (hw _ (List.mem_of_getElem? (i := 0) rfl))) (g := (mkF m 1 #[.val (.int p1), .unset, .unset, .unset, .unset] [(.int p1)])) rfl (hb hby at_1) _ kq) ?_
  show own_Go p.tables e below _ (s₁.setTop (mkF m 3 #[.val (.int p1), .unset, .unset, .unset, .unset] [(.int (2147483647 : Int32)), (.int p1)]))
  refine own_Go.by (fun tq kq => XS.iand X0.here hx rfl (hb hby at_3) rfl kq) ?_
  show own_Go p.tables e below _ (s₁.setTop (mkF m 4 #[.val (.int p1), .unset, .unset, .unset, .unset] [(.int (p1 &&& (2147483647 : Int32)))]))
  refine own_Go.by (fun tq kq => XS.iconst X0.here hx rfl (hb hby at_4) kq) ?_
  show own_Go p.tables e below _ (s₁.setTop (mkF m 5 #[.val (.int p1), .unset, .unset, .unset, .unset] [(.int (5 : Int32)), (.int (p1 &&& (2147483647 : Int32)))]))
  refine own_Go.by (fun tq kq => iremM (g := (mkF m 5 #[.val (.int p1), .unset, .unset, .unset, .unset] [(.int (5 : Int32)), (.int (p1 &&& (2147483647 : Int32)))])) X0 hx rfl (hb hby at_5) rfl (by decide) kq) ?_
  show own_Go p.tables e below _ (s₁.setTop (mkF m 6 #[.val (.int p1), .unset, .unset, .unset, .unset] [(.int ((p1 &&& (2147483647 : Int32)) % (5 : Int32)))]))
  refine own_Go.by (fun tq kq => XS.istoreN X0.here hx rfl (hb hby at_6) rfl (l' := #[.val (.int p1), .val (.int ((p1 &&& (2147483647 : Int32)) % (5 : Int32))), .unset, .unset, .unset]) rfl kq) ?_
  show own_Go p.tables e below _ (s₁.setTop (mkF m 7 #[.val (.int p1), .val (.int ((p1 &&& (2147483647 : Int32)) % (5 : Int32))), .unset, .unset, .unset] []))
  generalize hv_k : ((p1 &&& (2147483647 : Int32)) % (5 : Int32)) = k
  show own_Go p.tables e below _ (s₁.setTop (mkF m 7 #[.val (.int p1), .val (.int k), .unset, .unset, .unset] []))
  refine own_Go.by (fun tq kq => XS.iloadN X0.here hx rfl (hb hby at_7) rfl kq) ?_
  show own_Go p.tables e below _ (s₁.setTop (mkF m 8 #[.val (.int p1), .val (.int k), .unset, .unset, .unset] [(.int k)]))
  by_cases hc8_1 : k = (0 : Int32)
  ·
    refine own_Go.by (fun tq kq => XS.ifNo X0.here hx rfl (hb hby at_8) rfl ((if0 _ _).trans (teq hc8_1).2) kq) ?_
    show own_Go p.tables e below _ (s₁.setTop (mkF m 11 #[.val (.int p1), .val (.int k), .unset, .unset, .unset] []))
    obtain ⟨T2, X2, e2, st2⟩ := getS2 X0 hx hZ hown (host := "") (Or.inl (hw _ (List.mem_of_getElem? (i := 1) rfl))) Via.refl e0 (H0.ext O0.2) (g := (mkF m 11 #[.val (.int p1), .val (.int k), .unset, .unset, .unset] [])) rfl (hb hby at_11)
    refine own_Go.by st2 ?_
    show own_Go p.tables e below _ (T2.setTop (mkF m 14 #[.val (.int p1), .val (.int k), .unset, .unset, .unset] [(.ref a_OPTIONAL)]))
    refine own_Go.by (fun tq kq => XS.astoreN X2.here hx rfl (hb hby at_14) rfl rfl (l' := #[.val (.int p1), .val (.int k), .val (.ref a_OPTIONAL), .unset, .unset]) rfl kq) ?_
    show own_Go p.tables e below _ (T2.setTop (mkF m 15 #[.val (.int p1), .val (.int k), .val (.ref a_OPTIONAL), .unset, .unset] []))
    refine own_Go.by (fun tq kq => XS.goto X2.here hx rfl (pc0 := 15) (pc' := 58) rfl (hb hby at_15) (by decide) (by decide) kq) ?_
    show own_Go p.tables e below _ (T2.setTop (mkF m 58 #[.val (.int p1), .val (.int k), .val (.ref a_OPTIONAL), .unset, .unset] []))
    refine own_Go.by (fun tq kq => XS.iloadN X2.here hx rfl (hb hby at_58) rfl kq) ?_
    show own_Go p.tables e below _ (T2.setTop (mkF m 59 #[.val (.int p1), .val (.int k), .val (.ref a_OPTIONAL), .unset, .unset] [(.int k)]))
    refine own_Go.by (fun tq kq => XS.ifYes X2.here hx rfl (pc0 := 59) (pc' := 67) rfl (hb hby at_59) rfl ((if0 _ _).trans (teq hc8_1).1) (by decide) (by decide) kq) ?_
    show own_Go p.tables e below _ (T2.setTop (mkF m 67 #[.val (.int p1), .val (.int k), .val (.ref a_OPTIONAL), .unset, .unset] []))
    refine own_Go.by (fun tq kq => XS.iconst X2.here hx rfl (hb hby at_67) kq) ?_
    show own_Go p.tables e below _ (T2.setTop (mkF m 68 #[.val (.int p1), .val (.int k), .val (.ref a_OPTIONAL), .unset, .unset] [(.int (1 : Int32))]))
    refine own_Go.by (fun tq kq => XS.goto X2.here hx rfl (pc0 := 68) (pc' := 72) rfl (hb hby at_68) (by decide) (by decide) kq) ?_
    show own_Go p.tables e below _ (T2.setTop (mkF m 72 #[.val (.int p1), .val (.int k), .val (.ref a_OPTIONAL), .unset, .unset] [(.int (1 : Int32))]))
    refine own_Go.by (fun tq kq => XS.istoreN X2.here hx rfl (hb hby at_72) rfl (l' := #[.val (.int p1), .val (.int k), .val (.ref a_OPTIONAL), .val (.int (1 : Int32)), .unset]) rfl kq) ?_
    show own_Go p.tables e below _ (T2.setTop (mkF m 73 #[.val (.int p1), .val (.int k), .val (.ref a_OPTIONAL), .val (.int (1 : Int32)), .unset] []))
    refine own_Go.by (fun tq kq => XS.iloadN X2.here hx rfl (hb hby at_73) rfl kq) ?_
    show own_Go p.tables e below _ (T2.setTop (mkF m 74 #[.val (.int p1), .val (.int k), .val (.ref a_OPTIONAL), .val (.int (1 : Int32)), .unset] [(.int (1 : Int32))]))
    refine own_Go.by (fun tq kq => XS.ifYes X2.here hx rfl (pc0 := 74) (pc' := 81) rfl (hb hby at_74) rfl ((if0 _ _).trans (feq (by decide : ¬ ((1 : Int32) = (0 : Int32)))).2) (by decide) (by decide) kq) ?_
    show own_Go p.tables e below _ (T2.setTop (mkF m 81 #[.val (.int p1), .val (.int k), .val (.ref a_OPTIONAL), .val (.int (1 : Int32)), .unset] []))
    refine own_Go.by (fun tq kq => XS.iconst X2.here hx rfl (hb hby at_81) kq) ?_
    show own_Go p.tables e below _ (T2.setTop (mkF m 82 #[.val (.int p1), .val (.int k), .val (.ref a_OPTIONAL), .val (.int (1 : Int32)), .unset] [(.int (0 : Int32))]))
    refine own_Go.by (fun tq kq => XS.istore X2.here hx rfl (hb hby at_82) rfl (l' := #[.val (.int p1), .val (.int k), .val (.ref a_OPTIONAL), .val (.int (1 : Int32)), .val (.int (0 : Int32))]) rfl kq) ?_
    show own_Go p.tables e below _ (T2.setTop (mkF m 84 #[.val (.int p1), .val (.int k), .val (.ref a_OPTIONAL), .val (.int (1 : Int32)), .val (.int (0 : Int32))] []))
    refine own_Go.by (fun tq kq => XS.aloadN X2.here hx rfl (hb hby at_84) rfl rfl kq) ?_
    show own_Go p.tables e below _ (T2.setTop (mkF m 85 #[.val (.int p1), .val (.int k), .val (.ref a_OPTIONAL), .val (.int (1 : Int32)), .val (.int (0 : Int32))] [(.ref a_OPTIONAL)]))
    obtain ⟨cq3, kq3, q3a, q3b, q3c⟩ := isOf hZ e2 (H1.ext O0.2)
    obtain ⟨_, _, ⟨T3, L3, k3, n3⟩, -, X3, ⟨Lc3, hQ3, l3, y3, z3⟩, st3⟩ := X2.virtualBack hx (y := (⟨"com/example/tierline/tierline/RedemptionReason", "isEvent", "()Z"⟩ : MethodName)) (z := (⟨"com/example/tierline/tierline/RedemptionReason", "isEvent", "()Z"⟩ : MethodName)) hown (mvT hZ (hw _ (List.mem_of_getElem? (i := 4) rfl))) (mvT hZ (hw _ (List.mem_of_getElem? (i := 5) rfl))) (notFace_of_selects (args := #[]) (mvT hZ (hw _ (List.mem_of_getElem? (i := 7) rfl)))) (mvT hZ (hw _ (List.mem_of_getElem? (i := 7) rfl))) (mvT hZ (hw _ (List.mem_of_getElem? (i := 6) rfl))) (by decide) (backOf (W := 0) (rm1_0 l Z a0 hw [] a_OPTIONAL h0 n0 O0 (H1.ext O0.2) (H2.ext O0.2)) hZ (hw _ (List.mem_of_getElem? (i := 8) rfl)) (hw _ (List.mem_of_getElem? (i := 2) rfl)) (by decide) (by decide)) q3a q3c (g := (mkF m 85 #[.val (.int p1), .val (.int k), .val (.ref a_OPTIONAL), .val (.int (1 : Int32)), .val (.int (0 : Int32))] [(.ref a_OPTIONAL)])) rfl (by rw [hml]; rfl) (Steps.refl _) (argsL := []) (rest := []) (lenOf own_pd1 rfl) rfl (by show 2 * 0 + _ ≤ _; exact Nat.le_of_eq rfl) (hb hby at_85) (fun _ _ => ⟨rfl, e2, (by decide : 0 + 0 ≤ _), (by decide : 0 + 0 ≤ _)⟩)
    dsimp only [Pt.U, Pt.locs, Pt.cells, Pt.slots] at X3 l3 y3 z3 st3 hQ3
    subst l3 y3 z3
    refine own_Go.by (fun tq kq => st3.trans kq) ?_
    obtain ⟨rfl, N3q, e3⟩ := hQ3
    have N3 := Fr.app N0 N3q
    show own_Go p.tables e below _ (T3.setTop (mkF m 88 #[.val (.int p1), .val (.int k), .val (.ref a_OPTIONAL), .val (.int (1 : Int32)), .val (.int (0 : Int32))] [(.int (0 : Int32))]))
    refine own_Go.by (fun tq kq => XS.iload X3.here hx rfl (hb hby at_88) rfl kq) ?_
    show own_Go p.tables e below _ (T3.setTop (mkF m 90 #[.val (.int p1), .val (.int k), .val (.ref a_OPTIONAL), .val (.int (1 : Int32)), .val (.int (0 : Int32))] [(.int (0 : Int32)), (.int (0 : Int32))]))
    refine own_Go.by (fun tq kq => XS.icmpNo X3.here hx rfl (hb hby at_90) rfl (teq (by decide : (0 : Int32) = (0 : Int32))).2 kq) ?_
    show own_Go p.tables e below _ (T3.setTop (mkF m 93 #[.val (.int p1), .val (.int k), .val (.ref a_OPTIONAL), .val (.int (1 : Int32)), .val (.int (0 : Int32))] []))
    refine own_Go.by (fun tq kq => XS.iconst X3.here hx rfl (hb hby at_93) kq) ?_
    show own_Go p.tables e below _ (T3.setTop (mkF m 94 #[.val (.int p1), .val (.int k), .val (.ref a_OPTIONAL), .val (.int (1 : Int32)), .val (.int (0 : Int32))] [(.int (1 : Int32))]))
    refine own_Go.by (fun tq kq => XS.goto X3.here hx rfl (pc0 := 94) (pc' := 98) rfl (hb hby at_94) (by decide) (by decide) kq) ?_
    show own_Go p.tables e below _ (T3.setTop (mkF m 98 #[.val (.int p1), .val (.int k), .val (.ref a_OPTIONAL), .val (.int (1 : Int32)), .val (.int (0 : Int32))] [(.int (1 : Int32))]))
    obtain ⟨fs, hr, hrun, hended, hW, hsame⟩ := X3.leave (v := some (.int (nar .boolean (1 : Int32)))) (fun h => by rw [Bd.returns] at h; cases h)
    refine own_Go.fin (retN X3 hx (t := .boolean) Bd.returns (by simp) (hb hby at_98) hr) ⟨hrun, hended, _, _, rfl, ?_, ⟨_, rfl⟩, hW, hsame.mono (by decide) (by decide)⟩
    show Q0 Z p1 a_OPTIONAL a_REGULATORY_CAPITAL a_PUT a_RATING_AGENCY a_TAX h0 n0 _ T3.heap _
    rw [e3]
    exact ⟨rfl, N3, K0⟩
  ·
    refine own_Go.by (fun tq kq => XS.ifYes X0.here hx rfl (pc0 := 8) (pc' := 18) rfl (hb hby at_8) rfl ((if0 _ _).trans (feq hc8_1).2) (by decide) (by decide) kq) ?_
    show own_Go p.tables e below _ (s₁.setTop (mkF m 18 #[.val (.int p1), .val (.int k), .unset, .unset, .unset] []))
    refine own_Go.by (fun tq kq => XS.iloadN X0.here hx rfl (hb hby at_18) rfl kq) ?_
    show own_Go p.tables e below _ (s₁.setTop (mkF m 19 #[.val (.int p1), .val (.int k), .unset, .unset, .unset] [(.int k)]))
    refine own_Go.by (fun tq kq => XS.iconst X0.here hx rfl (hb hby at_19) kq) ?_
    show own_Go p.tables e below _ (s₁.setTop (mkF m 20 #[.val (.int p1), .val (.int k), .unset, .unset, .unset] [(.int (1 : Int32)), (.int k)]))
    by_cases hc20_4 : k = (1 : Int32)
    ·
      refine own_Go.by (fun tq kq => XS.icmpNo X0.here hx rfl (hb hby at_20) rfl (teq hc20_4).2 kq) ?_
      show own_Go p.tables e below _ (s₁.setTop (mkF m 23 #[.val (.int p1), .val (.int k), .unset, .unset, .unset] []))
      obtain ⟨T5, X5, e5, st5⟩ := getS2 X0 hx hZ hown (host := "") (Or.inl (hw _ (List.mem_of_getElem? (i := 20) rfl))) Via.refl e0 (H6.ext O0.2) (g := (mkF m 23 #[.val (.int p1), .val (.int k), .unset, .unset, .unset] [])) rfl (hb hby at_23)
      refine own_Go.by st5 ?_
      show own_Go p.tables e below _ (T5.setTop (mkF m 26 #[.val (.int p1), .val (.int k), .unset, .unset, .unset] [(.ref a_PUT)]))
      refine own_Go.by (fun tq kq => XS.astoreN X5.here hx rfl (hb hby at_26) rfl rfl (l' := #[.val (.int p1), .val (.int k), .val (.ref a_PUT), .unset, .unset]) rfl kq) ?_
      show own_Go p.tables e below _ (T5.setTop (mkF m 27 #[.val (.int p1), .val (.int k), .val (.ref a_PUT), .unset, .unset] []))
      refine own_Go.by (fun tq kq => XS.goto X5.here hx rfl (pc0 := 27) (pc' := 58) rfl (hb hby at_27) (by decide) (by decide) kq) ?_
      show own_Go p.tables e below _ (T5.setTop (mkF m 58 #[.val (.int p1), .val (.int k), .val (.ref a_PUT), .unset, .unset] []))
      refine own_Go.by (fun tq kq => XS.iloadN X5.here hx rfl (hb hby at_58) rfl kq) ?_
      show own_Go p.tables e below _ (T5.setTop (mkF m 59 #[.val (.int p1), .val (.int k), .val (.ref a_PUT), .unset, .unset] [(.int k)]))
      refine own_Go.by (fun tq kq => XS.ifNo X5.here hx rfl (hb hby at_59) rfl ((if0 _ _).trans (feq hc8_1).1) kq) ?_
      show own_Go p.tables e below _ (T5.setTop (mkF m 62 #[.val (.int p1), .val (.int k), .val (.ref a_PUT), .unset, .unset] []))
      refine own_Go.by (fun tq kq => XS.iloadN X5.here hx rfl (hb hby at_62) rfl kq) ?_
      show own_Go p.tables e below _ (T5.setTop (mkF m 63 #[.val (.int p1), .val (.int k), .val (.ref a_PUT), .unset, .unset] [(.int k)]))
      refine own_Go.by (fun tq kq => XS.iconst X5.here hx rfl (hb hby at_63) kq) ?_
      show own_Go p.tables e below _ (T5.setTop (mkF m 64 #[.val (.int p1), .val (.int k), .val (.ref a_PUT), .unset, .unset] [(.int (1 : Int32)), (.int k)]))
      refine own_Go.by (fun tq kq => XS.icmpNo X5.here hx rfl (hb hby at_64) rfl (teq hc20_4).2 kq) ?_
      show own_Go p.tables e below _ (T5.setTop (mkF m 67 #[.val (.int p1), .val (.int k), .val (.ref a_PUT), .unset, .unset] []))
      refine own_Go.by (fun tq kq => XS.iconst X5.here hx rfl (hb hby at_67) kq) ?_
      show own_Go p.tables e below _ (T5.setTop (mkF m 68 #[.val (.int p1), .val (.int k), .val (.ref a_PUT), .unset, .unset] [(.int (1 : Int32))]))
      refine own_Go.by (fun tq kq => XS.goto X5.here hx rfl (pc0 := 68) (pc' := 72) rfl (hb hby at_68) (by decide) (by decide) kq) ?_
      show own_Go p.tables e below _ (T5.setTop (mkF m 72 #[.val (.int p1), .val (.int k), .val (.ref a_PUT), .unset, .unset] [(.int (1 : Int32))]))
      refine own_Go.by (fun tq kq => XS.istoreN X5.here hx rfl (hb hby at_72) rfl (l' := #[.val (.int p1), .val (.int k), .val (.ref a_PUT), .val (.int (1 : Int32)), .unset]) rfl kq) ?_
      show own_Go p.tables e below _ (T5.setTop (mkF m 73 #[.val (.int p1), .val (.int k), .val (.ref a_PUT), .val (.int (1 : Int32)), .unset] []))
      refine own_Go.by (fun tq kq => XS.iloadN X5.here hx rfl (hb hby at_73) rfl kq) ?_
      show own_Go p.tables e below _ (T5.setTop (mkF m 74 #[.val (.int p1), .val (.int k), .val (.ref a_PUT), .val (.int (1 : Int32)), .unset] [(.int (1 : Int32))]))
      refine own_Go.by (fun tq kq => XS.ifYes X5.here hx rfl (pc0 := 74) (pc' := 81) rfl (hb hby at_74) rfl ((if0 _ _).trans (feq (by decide : ¬ ((1 : Int32) = (0 : Int32)))).2) (by decide) (by decide) kq) ?_
      show own_Go p.tables e below _ (T5.setTop (mkF m 81 #[.val (.int p1), .val (.int k), .val (.ref a_PUT), .val (.int (1 : Int32)), .unset] []))
      refine own_Go.by (fun tq kq => XS.iconst X5.here hx rfl (hb hby at_81) kq) ?_
      show own_Go p.tables e below _ (T5.setTop (mkF m 82 #[.val (.int p1), .val (.int k), .val (.ref a_PUT), .val (.int (1 : Int32)), .unset] [(.int (0 : Int32))]))
      refine own_Go.by (fun tq kq => XS.istore X5.here hx rfl (hb hby at_82) rfl (l' := #[.val (.int p1), .val (.int k), .val (.ref a_PUT), .val (.int (1 : Int32)), .val (.int (0 : Int32))]) rfl kq) ?_
      show own_Go p.tables e below _ (T5.setTop (mkF m 84 #[.val (.int p1), .val (.int k), .val (.ref a_PUT), .val (.int (1 : Int32)), .val (.int (0 : Int32))] []))
      refine own_Go.by (fun tq kq => XS.aloadN X5.here hx rfl (hb hby at_84) rfl rfl kq) ?_
      show own_Go p.tables e below _ (T5.setTop (mkF m 85 #[.val (.int p1), .val (.int k), .val (.ref a_PUT), .val (.int (1 : Int32)), .val (.int (0 : Int32))] [(.ref a_PUT)]))
      obtain ⟨cq6, kq6, q6a, q6b, q6c⟩ := isOf hZ e5 (H7.ext O0.2)
      obtain ⟨_, _, ⟨T6, L6, k6, n6⟩, -, X6, ⟨Lc6, hQ6, l6, y6, z6⟩, st6⟩ := X5.virtualBack hx (y := (⟨"com/example/tierline/tierline/RedemptionReason", "isEvent", "()Z"⟩ : MethodName)) (z := (⟨"com/example/tierline/tierline/RedemptionReason", "isEvent", "()Z"⟩ : MethodName)) hown (mvT hZ (hw _ (List.mem_of_getElem? (i := 4) rfl))) (mvT hZ (hw _ (List.mem_of_getElem? (i := 5) rfl))) (notFace_of_selects (args := #[]) (mvT hZ (hw _ (List.mem_of_getElem? (i := 7) rfl)))) (mvT hZ (hw _ (List.mem_of_getElem? (i := 7) rfl))) (mvT hZ (hw _ (List.mem_of_getElem? (i := 6) rfl))) (by decide) (backOf (W := 0) (rm1_1 l Z a0 hw [] a_PUT h0 n0 O0 (H7.ext O0.2) (H8.ext O0.2)) hZ (hw _ (List.mem_of_getElem? (i := 8) rfl)) (hw _ (List.mem_of_getElem? (i := 2) rfl)) (by decide) (by decide)) q6a q6c (g := (mkF m 85 #[.val (.int p1), .val (.int k), .val (.ref a_PUT), .val (.int (1 : Int32)), .val (.int (0 : Int32))] [(.ref a_PUT)])) rfl (by rw [hml]; rfl) (Steps.refl _) (argsL := []) (rest := []) (lenOf own_pd1 rfl) rfl (by show 2 * 0 + _ ≤ _; exact Nat.le_of_eq rfl) (hb hby at_85) (fun _ _ => ⟨rfl, e5, (by decide : 0 + 0 ≤ _), (by decide : 0 + 0 ≤ _)⟩)
      dsimp only [Pt.U, Pt.locs, Pt.cells, Pt.slots] at X6 l6 y6 z6 st6 hQ6
      subst l6 y6 z6
      refine own_Go.by (fun tq kq => st6.trans kq) ?_
      obtain ⟨rfl, N6q, e6⟩ := hQ6
      have N6 := Fr.app N0 N6q
      show own_Go p.tables e below _ (T6.setTop (mkF m 88 #[.val (.int p1), .val (.int k), .val (.ref a_PUT), .val (.int (1 : Int32)), .val (.int (0 : Int32))] [(.int (0 : Int32))]))
      refine own_Go.by (fun tq kq => XS.iload X6.here hx rfl (hb hby at_88) rfl kq) ?_
      show own_Go p.tables e below _ (T6.setTop (mkF m 90 #[.val (.int p1), .val (.int k), .val (.ref a_PUT), .val (.int (1 : Int32)), .val (.int (0 : Int32))] [(.int (0 : Int32)), (.int (0 : Int32))]))
      refine own_Go.by (fun tq kq => XS.icmpNo X6.here hx rfl (hb hby at_90) rfl (teq (by decide : (0 : Int32) = (0 : Int32))).2 kq) ?_
      show own_Go p.tables e below _ (T6.setTop (mkF m 93 #[.val (.int p1), .val (.int k), .val (.ref a_PUT), .val (.int (1 : Int32)), .val (.int (0 : Int32))] []))
      refine own_Go.by (fun tq kq => XS.iconst X6.here hx rfl (hb hby at_93) kq) ?_
      show own_Go p.tables e below _ (T6.setTop (mkF m 94 #[.val (.int p1), .val (.int k), .val (.ref a_PUT), .val (.int (1 : Int32)), .val (.int (0 : Int32))] [(.int (1 : Int32))]))
      refine own_Go.by (fun tq kq => XS.goto X6.here hx rfl (pc0 := 94) (pc' := 98) rfl (hb hby at_94) (by decide) (by decide) kq) ?_
      show own_Go p.tables e below _ (T6.setTop (mkF m 98 #[.val (.int p1), .val (.int k), .val (.ref a_PUT), .val (.int (1 : Int32)), .val (.int (0 : Int32))] [(.int (1 : Int32))]))
      obtain ⟨fs, hr, hrun, hended, hW, hsame⟩ := X6.leave (v := some (.int (nar .boolean (1 : Int32)))) (fun h => by rw [Bd.returns] at h; cases h)
      refine own_Go.fin (retN X6 hx (t := .boolean) Bd.returns (by simp) (hb hby at_98) hr) ⟨hrun, hended, _, _, rfl, ?_, ⟨_, rfl⟩, hW, hsame.mono (by decide) (by decide)⟩
      show Q0 Z p1 a_OPTIONAL a_REGULATORY_CAPITAL a_PUT a_RATING_AGENCY a_TAX h0 n0 _ T6.heap _
      rw [e6]
      exact ⟨rfl, N6, K0⟩
    ·
      refine own_Go.by (fun tq kq => XS.icmpYes X0.here hx rfl (pc0 := 20) (pc' := 30) rfl (hb hby at_20) rfl (feq hc20_4).2 (by decide) (by decide) kq) ?_
      show own_Go p.tables e below _ (s₁.setTop (mkF m 30 #[.val (.int p1), .val (.int k), .unset, .unset, .unset] []))
      refine own_Go.by (fun tq kq => XS.iloadN X0.here hx rfl (hb hby at_30) rfl kq) ?_
      show own_Go p.tables e below _ (s₁.setTop (mkF m 31 #[.val (.int p1), .val (.int k), .unset, .unset, .unset] [(.int k)]))
      refine own_Go.by (fun tq kq => XS.iconst X0.here hx rfl (hb hby at_31) kq) ?_
      show own_Go p.tables e below _ (s₁.setTop (mkF m 32 #[.val (.int p1), .val (.int k), .unset, .unset, .unset] [(.int (2 : Int32)), (.int k)]))
      by_cases hc32_7 : k = (2 : Int32)
      ·
        refine own_Go.by (fun tq kq => XS.icmpNo X0.here hx rfl (hb hby at_32) rfl (teq hc32_7).2 kq) ?_
        show own_Go p.tables e below _ (s₁.setTop (mkF m 35 #[.val (.int p1), .val (.int k), .unset, .unset, .unset] []))
        obtain ⟨T8, X8, e8, st8⟩ := getS2 X0 hx hZ hown (host := "") (Or.inl (hw _ (List.mem_of_getElem? (i := 24) rfl))) Via.refl e0 (H12.ext O0.2) (g := (mkF m 35 #[.val (.int p1), .val (.int k), .unset, .unset, .unset] [])) rfl (hb hby at_35)
        refine own_Go.by st8 ?_
        show own_Go p.tables e below _ (T8.setTop (mkF m 38 #[.val (.int p1), .val (.int k), .unset, .unset, .unset] [(.ref a_TAX)]))
        refine own_Go.by (fun tq kq => XS.astoreN X8.here hx rfl (hb hby at_38) rfl rfl (l' := #[.val (.int p1), .val (.int k), .val (.ref a_TAX), .unset, .unset]) rfl kq) ?_
        show own_Go p.tables e below _ (T8.setTop (mkF m 39 #[.val (.int p1), .val (.int k), .val (.ref a_TAX), .unset, .unset] []))
        refine own_Go.by (fun tq kq => XS.goto X8.here hx rfl (pc0 := 39) (pc' := 58) rfl (hb hby at_39) (by decide) (by decide) kq) ?_
        show own_Go p.tables e below _ (T8.setTop (mkF m 58 #[.val (.int p1), .val (.int k), .val (.ref a_TAX), .unset, .unset] []))
        refine own_Go.by (fun tq kq => XS.iloadN X8.here hx rfl (hb hby at_58) rfl kq) ?_
        show own_Go p.tables e below _ (T8.setTop (mkF m 59 #[.val (.int p1), .val (.int k), .val (.ref a_TAX), .unset, .unset] [(.int k)]))
        refine own_Go.by (fun tq kq => XS.ifNo X8.here hx rfl (hb hby at_59) rfl ((if0 _ _).trans (feq hc8_1).1) kq) ?_
        show own_Go p.tables e below _ (T8.setTop (mkF m 62 #[.val (.int p1), .val (.int k), .val (.ref a_TAX), .unset, .unset] []))
        refine own_Go.by (fun tq kq => XS.iloadN X8.here hx rfl (hb hby at_62) rfl kq) ?_
        show own_Go p.tables e below _ (T8.setTop (mkF m 63 #[.val (.int p1), .val (.int k), .val (.ref a_TAX), .unset, .unset] [(.int k)]))
        refine own_Go.by (fun tq kq => XS.iconst X8.here hx rfl (hb hby at_63) kq) ?_
        show own_Go p.tables e below _ (T8.setTop (mkF m 64 #[.val (.int p1), .val (.int k), .val (.ref a_TAX), .unset, .unset] [(.int (1 : Int32)), (.int k)]))
        refine own_Go.by (fun tq kq => XS.icmpYes X8.here hx rfl (pc0 := 64) (pc' := 71) rfl (hb hby at_64) rfl (feq hc20_4).2 (by decide) (by decide) kq) ?_
        show own_Go p.tables e below _ (T8.setTop (mkF m 71 #[.val (.int p1), .val (.int k), .val (.ref a_TAX), .unset, .unset] []))
        refine own_Go.by (fun tq kq => XS.iconst X8.here hx rfl (hb hby at_71) kq) ?_
        show own_Go p.tables e below _ (T8.setTop (mkF m 72 #[.val (.int p1), .val (.int k), .val (.ref a_TAX), .unset, .unset] [(.int (0 : Int32))]))
        refine own_Go.by (fun tq kq => XS.istoreN X8.here hx rfl (hb hby at_72) rfl (l' := #[.val (.int p1), .val (.int k), .val (.ref a_TAX), .val (.int (0 : Int32)), .unset]) rfl kq) ?_
        show own_Go p.tables e below _ (T8.setTop (mkF m 73 #[.val (.int p1), .val (.int k), .val (.ref a_TAX), .val (.int (0 : Int32)), .unset] []))
        refine own_Go.by (fun tq kq => XS.iloadN X8.here hx rfl (hb hby at_73) rfl kq) ?_
        show own_Go p.tables e below _ (T8.setTop (mkF m 74 #[.val (.int p1), .val (.int k), .val (.ref a_TAX), .val (.int (0 : Int32)), .unset] [(.int (0 : Int32))]))
        refine own_Go.by (fun tq kq => XS.ifNo X8.here hx rfl (hb hby at_74) rfl ((if0 _ _).trans (teq (by decide : (0 : Int32) = (0 : Int32))).2) kq) ?_
        show own_Go p.tables e below _ (T8.setTop (mkF m 77 #[.val (.int p1), .val (.int k), .val (.ref a_TAX), .val (.int (0 : Int32)), .unset] []))
        refine own_Go.by (fun tq kq => XS.iconst X8.here hx rfl (hb hby at_77) kq) ?_
        show own_Go p.tables e below _ (T8.setTop (mkF m 78 #[.val (.int p1), .val (.int k), .val (.ref a_TAX), .val (.int (0 : Int32)), .unset] [(.int (1 : Int32))]))
        refine own_Go.by (fun tq kq => XS.goto X8.here hx rfl (pc0 := 78) (pc' := 82) rfl (hb hby at_78) (by decide) (by decide) kq) ?_
        show own_Go p.tables e below _ (T8.setTop (mkF m 82 #[.val (.int p1), .val (.int k), .val (.ref a_TAX), .val (.int (0 : Int32)), .unset] [(.int (1 : Int32))]))
        refine own_Go.by (fun tq kq => XS.istore X8.here hx rfl (hb hby at_82) rfl (l' := #[.val (.int p1), .val (.int k), .val (.ref a_TAX), .val (.int (0 : Int32)), .val (.int (1 : Int32))]) rfl kq) ?_
        show own_Go p.tables e below _ (T8.setTop (mkF m 84 #[.val (.int p1), .val (.int k), .val (.ref a_TAX), .val (.int (0 : Int32)), .val (.int (1 : Int32))] []))
        refine own_Go.by (fun tq kq => XS.aloadN X8.here hx rfl (hb hby at_84) rfl rfl kq) ?_
        show own_Go p.tables e below _ (T8.setTop (mkF m 85 #[.val (.int p1), .val (.int k), .val (.ref a_TAX), .val (.int (0 : Int32)), .val (.int (1 : Int32))] [(.ref a_TAX)]))
        obtain ⟨cq9, kq9, q9a, q9b, q9c⟩ := isOf hZ e8 (H13.ext O0.2)
        obtain ⟨_, _, ⟨T9, L9, k9, n9⟩, -, X9, ⟨Lc9, hQ9, l9, y9, z9⟩, st9⟩ := X8.virtualBack hx (y := (⟨"com/example/tierline/tierline/RedemptionReason", "isEvent", "()Z"⟩ : MethodName)) (z := (⟨"com/example/tierline/tierline/RedemptionReason", "isEvent", "()Z"⟩ : MethodName)) hown (mvT hZ (hw _ (List.mem_of_getElem? (i := 4) rfl))) (mvT hZ (hw _ (List.mem_of_getElem? (i := 5) rfl))) (notFace_of_selects (args := #[]) (mvT hZ (hw _ (List.mem_of_getElem? (i := 7) rfl)))) (mvT hZ (hw _ (List.mem_of_getElem? (i := 7) rfl))) (mvT hZ (hw _ (List.mem_of_getElem? (i := 6) rfl))) (by decide) (backOf (W := 0) (rm1_2 l Z a0 hw [] a_TAX h0 n0 O0 (H13.ext O0.2) (H14.ext O0.2)) hZ (hw _ (List.mem_of_getElem? (i := 8) rfl)) (hw _ (List.mem_of_getElem? (i := 2) rfl)) (by decide) (by decide)) q9a q9c (g := (mkF m 85 #[.val (.int p1), .val (.int k), .val (.ref a_TAX), .val (.int (0 : Int32)), .val (.int (1 : Int32))] [(.ref a_TAX)])) rfl (by rw [hml]; rfl) (Steps.refl _) (argsL := []) (rest := []) (lenOf own_pd1 rfl) rfl (by show 2 * 0 + _ ≤ _; exact Nat.le_of_eq rfl) (hb hby at_85) (fun _ _ => ⟨rfl, e8, (by decide : 0 + 0 ≤ _), (by decide : 0 + 0 ≤ _)⟩)
        dsimp only [Pt.U, Pt.locs, Pt.cells, Pt.slots] at X9 l9 y9 z9 st9 hQ9
        subst l9 y9 z9
        refine own_Go.by (fun tq kq => st9.trans kq) ?_
        obtain ⟨rfl, N9q, e9⟩ := hQ9
        have N9 := Fr.app N0 N9q
        show own_Go p.tables e below _ (T9.setTop (mkF m 88 #[.val (.int p1), .val (.int k), .val (.ref a_TAX), .val (.int (0 : Int32)), .val (.int (1 : Int32))] [(.int (1 : Int32))]))
        refine own_Go.by (fun tq kq => XS.iload X9.here hx rfl (hb hby at_88) rfl kq) ?_
        show own_Go p.tables e below _ (T9.setTop (mkF m 90 #[.val (.int p1), .val (.int k), .val (.ref a_TAX), .val (.int (0 : Int32)), .val (.int (1 : Int32))] [(.int (1 : Int32)), (.int (1 : Int32))]))
        refine own_Go.by (fun tq kq => XS.icmpNo X9.here hx rfl (hb hby at_90) rfl (teq (by decide : (1 : Int32) = (1 : Int32))).2 kq) ?_
        show own_Go p.tables e below _ (T9.setTop (mkF m 93 #[.val (.int p1), .val (.int k), .val (.ref a_TAX), .val (.int (0 : Int32)), .val (.int (1 : Int32))] []))
        refine own_Go.by (fun tq kq => XS.iconst X9.here hx rfl (hb hby at_93) kq) ?_
        show own_Go p.tables e below _ (T9.setTop (mkF m 94 #[.val (.int p1), .val (.int k), .val (.ref a_TAX), .val (.int (0 : Int32)), .val (.int (1 : Int32))] [(.int (1 : Int32))]))
        refine own_Go.by (fun tq kq => XS.goto X9.here hx rfl (pc0 := 94) (pc' := 98) rfl (hb hby at_94) (by decide) (by decide) kq) ?_
        show own_Go p.tables e below _ (T9.setTop (mkF m 98 #[.val (.int p1), .val (.int k), .val (.ref a_TAX), .val (.int (0 : Int32)), .val (.int (1 : Int32))] [(.int (1 : Int32))]))
        obtain ⟨fs, hr, hrun, hended, hW, hsame⟩ := X9.leave (v := some (.int (nar .boolean (1 : Int32)))) (fun h => by rw [Bd.returns] at h; cases h)
        refine own_Go.fin (retN X9 hx (t := .boolean) Bd.returns (by simp) (hb hby at_98) hr) ⟨hrun, hended, _, _, rfl, ?_, ⟨_, rfl⟩, hW, hsame.mono (by decide) (by decide)⟩
        show Q0 Z p1 a_OPTIONAL a_REGULATORY_CAPITAL a_PUT a_RATING_AGENCY a_TAX h0 n0 _ T9.heap _
        rw [e9]
        exact ⟨rfl, N9, K0⟩
      ·
        refine own_Go.by (fun tq kq => XS.icmpYes X0.here hx rfl (pc0 := 32) (pc' := 42) rfl (hb hby at_32) rfl (feq hc32_7).2 (by decide) (by decide) kq) ?_
        show own_Go p.tables e below _ (s₁.setTop (mkF m 42 #[.val (.int p1), .val (.int k), .unset, .unset, .unset] []))
        refine own_Go.by (fun tq kq => XS.iloadN X0.here hx rfl (hb hby at_42) rfl kq) ?_
        show own_Go p.tables e below _ (s₁.setTop (mkF m 43 #[.val (.int p1), .val (.int k), .unset, .unset, .unset] [(.int k)]))
        refine own_Go.by (fun tq kq => XS.iconst X0.here hx rfl (hb hby at_43) kq) ?_
        show own_Go p.tables e below _ (s₁.setTop (mkF m 44 #[.val (.int p1), .val (.int k), .unset, .unset, .unset] [(.int (3 : Int32)), (.int k)]))
        by_cases hc44_10 : k = (3 : Int32)
        ·
          refine own_Go.by (fun tq kq => XS.icmpNo X0.here hx rfl (hb hby at_44) rfl (teq hc44_10).2 kq) ?_
          show own_Go p.tables e below _ (s₁.setTop (mkF m 47 #[.val (.int p1), .val (.int k), .unset, .unset, .unset] []))
          obtain ⟨T11, X11, e11, st11⟩ := getS2 X0 hx hZ hown (host := "") (Or.inl (hw _ (List.mem_of_getElem? (i := 18) rfl))) Via.refl e0 (H3.ext O0.2) (g := (mkF m 47 #[.val (.int p1), .val (.int k), .unset, .unset, .unset] [])) rfl (hb hby at_47)
          refine own_Go.by st11 ?_
          show own_Go p.tables e below _ (T11.setTop (mkF m 50 #[.val (.int p1), .val (.int k), .unset, .unset, .unset] [(.ref a_REGULATORY_CAPITAL)]))
          refine own_Go.by (fun tq kq => XS.astoreN X11.here hx rfl (hb hby at_50) rfl rfl (l' := #[.val (.int p1), .val (.int k), .val (.ref a_REGULATORY_CAPITAL), .unset, .unset]) rfl kq) ?_
          show own_Go p.tables e below _ (T11.setTop (mkF m 51 #[.val (.int p1), .val (.int k), .val (.ref a_REGULATORY_CAPITAL), .unset, .unset] []))
          refine own_Go.by (fun tq kq => XS.goto X11.here hx rfl (pc0 := 51) (pc' := 58) rfl (hb hby at_51) (by decide) (by decide) kq) ?_
          show own_Go p.tables e below _ (T11.setTop (mkF m 58 #[.val (.int p1), .val (.int k), .val (.ref a_REGULATORY_CAPITAL), .unset, .unset] []))
          refine own_Go.by (fun tq kq => XS.iloadN X11.here hx rfl (hb hby at_58) rfl kq) ?_
          show own_Go p.tables e below _ (T11.setTop (mkF m 59 #[.val (.int p1), .val (.int k), .val (.ref a_REGULATORY_CAPITAL), .unset, .unset] [(.int k)]))
          refine own_Go.by (fun tq kq => XS.ifNo X11.here hx rfl (hb hby at_59) rfl ((if0 _ _).trans (feq hc8_1).1) kq) ?_
          show own_Go p.tables e below _ (T11.setTop (mkF m 62 #[.val (.int p1), .val (.int k), .val (.ref a_REGULATORY_CAPITAL), .unset, .unset] []))
          refine own_Go.by (fun tq kq => XS.iloadN X11.here hx rfl (hb hby at_62) rfl kq) ?_
          show own_Go p.tables e below _ (T11.setTop (mkF m 63 #[.val (.int p1), .val (.int k), .val (.ref a_REGULATORY_CAPITAL), .unset, .unset] [(.int k)]))
          refine own_Go.by (fun tq kq => XS.iconst X11.here hx rfl (hb hby at_63) kq) ?_
          show own_Go p.tables e below _ (T11.setTop (mkF m 64 #[.val (.int p1), .val (.int k), .val (.ref a_REGULATORY_CAPITAL), .unset, .unset] [(.int (1 : Int32)), (.int k)]))
          refine own_Go.by (fun tq kq => XS.icmpYes X11.here hx rfl (pc0 := 64) (pc' := 71) rfl (hb hby at_64) rfl (feq hc20_4).2 (by decide) (by decide) kq) ?_
          show own_Go p.tables e below _ (T11.setTop (mkF m 71 #[.val (.int p1), .val (.int k), .val (.ref a_REGULATORY_CAPITAL), .unset, .unset] []))
          refine own_Go.by (fun tq kq => XS.iconst X11.here hx rfl (hb hby at_71) kq) ?_
          show own_Go p.tables e below _ (T11.setTop (mkF m 72 #[.val (.int p1), .val (.int k), .val (.ref a_REGULATORY_CAPITAL), .unset, .unset] [(.int (0 : Int32))]))
          refine own_Go.by (fun tq kq => XS.istoreN X11.here hx rfl (hb hby at_72) rfl (l' := #[.val (.int p1), .val (.int k), .val (.ref a_REGULATORY_CAPITAL), .val (.int (0 : Int32)), .unset]) rfl kq) ?_
          show own_Go p.tables e below _ (T11.setTop (mkF m 73 #[.val (.int p1), .val (.int k), .val (.ref a_REGULATORY_CAPITAL), .val (.int (0 : Int32)), .unset] []))
          refine own_Go.by (fun tq kq => XS.iloadN X11.here hx rfl (hb hby at_73) rfl kq) ?_
          show own_Go p.tables e below _ (T11.setTop (mkF m 74 #[.val (.int p1), .val (.int k), .val (.ref a_REGULATORY_CAPITAL), .val (.int (0 : Int32)), .unset] [(.int (0 : Int32))]))
          refine own_Go.by (fun tq kq => XS.ifNo X11.here hx rfl (hb hby at_74) rfl ((if0 _ _).trans (teq (by decide : (0 : Int32) = (0 : Int32))).2) kq) ?_
          show own_Go p.tables e below _ (T11.setTop (mkF m 77 #[.val (.int p1), .val (.int k), .val (.ref a_REGULATORY_CAPITAL), .val (.int (0 : Int32)), .unset] []))
          refine own_Go.by (fun tq kq => XS.iconst X11.here hx rfl (hb hby at_77) kq) ?_
          show own_Go p.tables e below _ (T11.setTop (mkF m 78 #[.val (.int p1), .val (.int k), .val (.ref a_REGULATORY_CAPITAL), .val (.int (0 : Int32)), .unset] [(.int (1 : Int32))]))
          refine own_Go.by (fun tq kq => XS.goto X11.here hx rfl (pc0 := 78) (pc' := 82) rfl (hb hby at_78) (by decide) (by decide) kq) ?_
          show own_Go p.tables e below _ (T11.setTop (mkF m 82 #[.val (.int p1), .val (.int k), .val (.ref a_REGULATORY_CAPITAL), .val (.int (0 : Int32)), .unset] [(.int (1 : Int32))]))
          refine own_Go.by (fun tq kq => XS.istore X11.here hx rfl (hb hby at_82) rfl (l' := #[.val (.int p1), .val (.int k), .val (.ref a_REGULATORY_CAPITAL), .val (.int (0 : Int32)), .val (.int (1 : Int32))]) rfl kq) ?_
          show own_Go p.tables e below _ (T11.setTop (mkF m 84 #[.val (.int p1), .val (.int k), .val (.ref a_REGULATORY_CAPITAL), .val (.int (0 : Int32)), .val (.int (1 : Int32))] []))
          refine own_Go.by (fun tq kq => XS.aloadN X11.here hx rfl (hb hby at_84) rfl rfl kq) ?_
          show own_Go p.tables e below _ (T11.setTop (mkF m 85 #[.val (.int p1), .val (.int k), .val (.ref a_REGULATORY_CAPITAL), .val (.int (0 : Int32)), .val (.int (1 : Int32))] [(.ref a_REGULATORY_CAPITAL)]))
          obtain ⟨cq12, kq12, q12a, q12b, q12c⟩ := isOf hZ e11 (H4.ext O0.2)
          obtain ⟨_, _, ⟨T12, L12, k12, n12⟩, -, X12, ⟨Lc12, hQ12, l12, y12, z12⟩, st12⟩ := X11.virtualBack hx (y := (⟨"com/example/tierline/tierline/RedemptionReason", "isEvent", "()Z"⟩ : MethodName)) (z := (⟨"com/example/tierline/tierline/RedemptionReason", "isEvent", "()Z"⟩ : MethodName)) hown (mvT hZ (hw _ (List.mem_of_getElem? (i := 4) rfl))) (mvT hZ (hw _ (List.mem_of_getElem? (i := 5) rfl))) (notFace_of_selects (args := #[]) (mvT hZ (hw _ (List.mem_of_getElem? (i := 7) rfl)))) (mvT hZ (hw _ (List.mem_of_getElem? (i := 7) rfl))) (mvT hZ (hw _ (List.mem_of_getElem? (i := 6) rfl))) (by decide) (backOf (W := 0) (rm1_3 l Z a0 hw [] a_REGULATORY_CAPITAL h0 n0 O0 (H4.ext O0.2) (H5.ext O0.2)) hZ (hw _ (List.mem_of_getElem? (i := 8) rfl)) (hw _ (List.mem_of_getElem? (i := 2) rfl)) (by decide) (by decide)) q12a q12c (g := (mkF m 85 #[.val (.int p1), .val (.int k), .val (.ref a_REGULATORY_CAPITAL), .val (.int (0 : Int32)), .val (.int (1 : Int32))] [(.ref a_REGULATORY_CAPITAL)])) rfl (by rw [hml]; rfl) (Steps.refl _) (argsL := []) (rest := []) (lenOf own_pd1 rfl) rfl (by show 2 * 0 + _ ≤ _; exact Nat.le_of_eq rfl) (hb hby at_85) (fun _ _ => ⟨rfl, e11, (by decide : 0 + 0 ≤ _), (by decide : 0 + 0 ≤ _)⟩)
          dsimp only [Pt.U, Pt.locs, Pt.cells, Pt.slots] at X12 l12 y12 z12 st12 hQ12
          subst l12 y12 z12
          refine own_Go.by (fun tq kq => st12.trans kq) ?_
          obtain ⟨rfl, N12q, e12⟩ := hQ12
          have N12 := Fr.app N0 N12q
          show own_Go p.tables e below _ (T12.setTop (mkF m 88 #[.val (.int p1), .val (.int k), .val (.ref a_REGULATORY_CAPITAL), .val (.int (0 : Int32)), .val (.int (1 : Int32))] [(.int (1 : Int32))]))
          refine own_Go.by (fun tq kq => XS.iload X12.here hx rfl (hb hby at_88) rfl kq) ?_
          show own_Go p.tables e below _ (T12.setTop (mkF m 90 #[.val (.int p1), .val (.int k), .val (.ref a_REGULATORY_CAPITAL), .val (.int (0 : Int32)), .val (.int (1 : Int32))] [(.int (1 : Int32)), (.int (1 : Int32))]))
          refine own_Go.by (fun tq kq => XS.icmpNo X12.here hx rfl (hb hby at_90) rfl (teq (by decide : (1 : Int32) = (1 : Int32))).2 kq) ?_
          show own_Go p.tables e below _ (T12.setTop (mkF m 93 #[.val (.int p1), .val (.int k), .val (.ref a_REGULATORY_CAPITAL), .val (.int (0 : Int32)), .val (.int (1 : Int32))] []))
          refine own_Go.by (fun tq kq => XS.iconst X12.here hx rfl (hb hby at_93) kq) ?_
          show own_Go p.tables e below _ (T12.setTop (mkF m 94 #[.val (.int p1), .val (.int k), .val (.ref a_REGULATORY_CAPITAL), .val (.int (0 : Int32)), .val (.int (1 : Int32))] [(.int (1 : Int32))]))
          refine own_Go.by (fun tq kq => XS.goto X12.here hx rfl (pc0 := 94) (pc' := 98) rfl (hb hby at_94) (by decide) (by decide) kq) ?_
          show own_Go p.tables e below _ (T12.setTop (mkF m 98 #[.val (.int p1), .val (.int k), .val (.ref a_REGULATORY_CAPITAL), .val (.int (0 : Int32)), .val (.int (1 : Int32))] [(.int (1 : Int32))]))
          obtain ⟨fs, hr, hrun, hended, hW, hsame⟩ := X12.leave (v := some (.int (nar .boolean (1 : Int32)))) (fun h => by rw [Bd.returns] at h; cases h)
          refine own_Go.fin (retN X12 hx (t := .boolean) Bd.returns (by simp) (hb hby at_98) hr) ⟨hrun, hended, _, _, rfl, ?_, ⟨_, rfl⟩, hW, hsame.mono (by decide) (by decide)⟩
          show Q0 Z p1 a_OPTIONAL a_REGULATORY_CAPITAL a_PUT a_RATING_AGENCY a_TAX h0 n0 _ T12.heap _
          rw [e12]
          exact ⟨rfl, N12, K0⟩
        ·
          refine own_Go.by (fun tq kq => XS.icmpYes X0.here hx rfl (pc0 := 44) (pc' := 54) rfl (hb hby at_44) rfl (feq hc44_10).2 (by decide) (by decide) kq) ?_
          show own_Go p.tables e below _ (s₁.setTop (mkF m 54 #[.val (.int p1), .val (.int k), .unset, .unset, .unset] []))
          obtain ⟨T13, X13, e13, st13⟩ := getS2 X0 hx hZ hown (host := "") (Or.inl (hw _ (List.mem_of_getElem? (i := 22) rfl))) Via.refl e0 (H9.ext O0.2) (g := (mkF m 54 #[.val (.int p1), .val (.int k), .unset, .unset, .unset] [])) rfl (hb hby at_54)
          refine own_Go.by st13 ?_
          show own_Go p.tables e below _ (T13.setTop (mkF m 57 #[.val (.int p1), .val (.int k), .unset, .unset, .unset] [(.ref a_RATING_AGENCY)]))
          refine own_Go.by (fun tq kq => XS.astoreN X13.here hx rfl (hb hby at_57) rfl rfl (l' := #[.val (.int p1), .val (.int k), .val (.ref a_RATING_AGENCY), .unset, .unset]) rfl kq) ?_
          show own_Go p.tables e below _ (T13.setTop (mkF m 58 #[.val (.int p1), .val (.int k), .val (.ref a_RATING_AGENCY), .unset, .unset] []))
          refine own_Go.by (fun tq kq => XS.iloadN X13.here hx rfl (hb hby at_58) rfl kq) ?_
          show own_Go p.tables e below _ (T13.setTop (mkF m 59 #[.val (.int p1), .val (.int k), .val (.ref a_RATING_AGENCY), .unset, .unset] [(.int k)]))
          refine own_Go.by (fun tq kq => XS.ifNo X13.here hx rfl (hb hby at_59) rfl ((if0 _ _).trans (feq hc8_1).1) kq) ?_
          show own_Go p.tables e below _ (T13.setTop (mkF m 62 #[.val (.int p1), .val (.int k), .val (.ref a_RATING_AGENCY), .unset, .unset] []))
          refine own_Go.by (fun tq kq => XS.iloadN X13.here hx rfl (hb hby at_62) rfl kq) ?_
          show own_Go p.tables e below _ (T13.setTop (mkF m 63 #[.val (.int p1), .val (.int k), .val (.ref a_RATING_AGENCY), .unset, .unset] [(.int k)]))
          refine own_Go.by (fun tq kq => XS.iconst X13.here hx rfl (hb hby at_63) kq) ?_
          show own_Go p.tables e below _ (T13.setTop (mkF m 64 #[.val (.int p1), .val (.int k), .val (.ref a_RATING_AGENCY), .unset, .unset] [(.int (1 : Int32)), (.int k)]))
          refine own_Go.by (fun tq kq => XS.icmpYes X13.here hx rfl (pc0 := 64) (pc' := 71) rfl (hb hby at_64) rfl (feq hc20_4).2 (by decide) (by decide) kq) ?_
          show own_Go p.tables e below _ (T13.setTop (mkF m 71 #[.val (.int p1), .val (.int k), .val (.ref a_RATING_AGENCY), .unset, .unset] []))
          refine own_Go.by (fun tq kq => XS.iconst X13.here hx rfl (hb hby at_71) kq) ?_
          show own_Go p.tables e below _ (T13.setTop (mkF m 72 #[.val (.int p1), .val (.int k), .val (.ref a_RATING_AGENCY), .unset, .unset] [(.int (0 : Int32))]))
          refine own_Go.by (fun tq kq => XS.istoreN X13.here hx rfl (hb hby at_72) rfl (l' := #[.val (.int p1), .val (.int k), .val (.ref a_RATING_AGENCY), .val (.int (0 : Int32)), .unset]) rfl kq) ?_
          show own_Go p.tables e below _ (T13.setTop (mkF m 73 #[.val (.int p1), .val (.int k), .val (.ref a_RATING_AGENCY), .val (.int (0 : Int32)), .unset] []))
          refine own_Go.by (fun tq kq => XS.iloadN X13.here hx rfl (hb hby at_73) rfl kq) ?_
          show own_Go p.tables e below _ (T13.setTop (mkF m 74 #[.val (.int p1), .val (.int k), .val (.ref a_RATING_AGENCY), .val (.int (0 : Int32)), .unset] [(.int (0 : Int32))]))
          refine own_Go.by (fun tq kq => XS.ifNo X13.here hx rfl (hb hby at_74) rfl ((if0 _ _).trans (teq (by decide : (0 : Int32) = (0 : Int32))).2) kq) ?_
          show own_Go p.tables e below _ (T13.setTop (mkF m 77 #[.val (.int p1), .val (.int k), .val (.ref a_RATING_AGENCY), .val (.int (0 : Int32)), .unset] []))
          refine own_Go.by (fun tq kq => XS.iconst X13.here hx rfl (hb hby at_77) kq) ?_
          show own_Go p.tables e below _ (T13.setTop (mkF m 78 #[.val (.int p1), .val (.int k), .val (.ref a_RATING_AGENCY), .val (.int (0 : Int32)), .unset] [(.int (1 : Int32))]))
          refine own_Go.by (fun tq kq => XS.goto X13.here hx rfl (pc0 := 78) (pc' := 82) rfl (hb hby at_78) (by decide) (by decide) kq) ?_
          show own_Go p.tables e below _ (T13.setTop (mkF m 82 #[.val (.int p1), .val (.int k), .val (.ref a_RATING_AGENCY), .val (.int (0 : Int32)), .unset] [(.int (1 : Int32))]))
          refine own_Go.by (fun tq kq => XS.istore X13.here hx rfl (hb hby at_82) rfl (l' := #[.val (.int p1), .val (.int k), .val (.ref a_RATING_AGENCY), .val (.int (0 : Int32)), .val (.int (1 : Int32))]) rfl kq) ?_
          show own_Go p.tables e below _ (T13.setTop (mkF m 84 #[.val (.int p1), .val (.int k), .val (.ref a_RATING_AGENCY), .val (.int (0 : Int32)), .val (.int (1 : Int32))] []))
          refine own_Go.by (fun tq kq => XS.aloadN X13.here hx rfl (hb hby at_84) rfl rfl kq) ?_
          show own_Go p.tables e below _ (T13.setTop (mkF m 85 #[.val (.int p1), .val (.int k), .val (.ref a_RATING_AGENCY), .val (.int (0 : Int32)), .val (.int (1 : Int32))] [(.ref a_RATING_AGENCY)]))
          obtain ⟨cq14, kq14, q14a, q14b, q14c⟩ := isOf hZ e13 (H10.ext O0.2)
          obtain ⟨_, _, ⟨T14, L14, k14, n14⟩, -, X14, ⟨Lc14, hQ14, l14, y14, z14⟩, st14⟩ := X13.virtualBack hx (y := (⟨"com/example/tierline/tierline/RedemptionReason", "isEvent", "()Z"⟩ : MethodName)) (z := (⟨"com/example/tierline/tierline/RedemptionReason", "isEvent", "()Z"⟩ : MethodName)) hown (mvT hZ (hw _ (List.mem_of_getElem? (i := 4) rfl))) (mvT hZ (hw _ (List.mem_of_getElem? (i := 5) rfl))) (notFace_of_selects (args := #[]) (mvT hZ (hw _ (List.mem_of_getElem? (i := 7) rfl)))) (mvT hZ (hw _ (List.mem_of_getElem? (i := 7) rfl))) (mvT hZ (hw _ (List.mem_of_getElem? (i := 6) rfl))) (by decide) (backOf (W := 0) (rm1_4 l Z a0 hw [] a_RATING_AGENCY h0 n0 O0 (H10.ext O0.2) (H11.ext O0.2)) hZ (hw _ (List.mem_of_getElem? (i := 8) rfl)) (hw _ (List.mem_of_getElem? (i := 2) rfl)) (by decide) (by decide)) q14a q14c (g := (mkF m 85 #[.val (.int p1), .val (.int k), .val (.ref a_RATING_AGENCY), .val (.int (0 : Int32)), .val (.int (1 : Int32))] [(.ref a_RATING_AGENCY)])) rfl (by rw [hml]; rfl) (Steps.refl _) (argsL := []) (rest := []) (lenOf own_pd1 rfl) rfl (by show 2 * 0 + _ ≤ _; exact Nat.le_of_eq rfl) (hb hby at_85) (fun _ _ => ⟨rfl, e13, (by decide : 0 + 0 ≤ _), (by decide : 0 + 0 ≤ _)⟩)
          dsimp only [Pt.U, Pt.locs, Pt.cells, Pt.slots] at X14 l14 y14 z14 st14 hQ14
          subst l14 y14 z14
          refine own_Go.by (fun tq kq => st14.trans kq) ?_
          obtain ⟨rfl, N14q, e14⟩ := hQ14
          have N14 := Fr.app N0 N14q
          show own_Go p.tables e below _ (T14.setTop (mkF m 88 #[.val (.int p1), .val (.int k), .val (.ref a_RATING_AGENCY), .val (.int (0 : Int32)), .val (.int (1 : Int32))] [(.int (1 : Int32))]))
          refine own_Go.by (fun tq kq => XS.iload X14.here hx rfl (hb hby at_88) rfl kq) ?_
          show own_Go p.tables e below _ (T14.setTop (mkF m 90 #[.val (.int p1), .val (.int k), .val (.ref a_RATING_AGENCY), .val (.int (0 : Int32)), .val (.int (1 : Int32))] [(.int (1 : Int32)), (.int (1 : Int32))]))
          refine own_Go.by (fun tq kq => XS.icmpNo X14.here hx rfl (hb hby at_90) rfl (teq (by decide : (1 : Int32) = (1 : Int32))).2 kq) ?_
          show own_Go p.tables e below _ (T14.setTop (mkF m 93 #[.val (.int p1), .val (.int k), .val (.ref a_RATING_AGENCY), .val (.int (0 : Int32)), .val (.int (1 : Int32))] []))
          refine own_Go.by (fun tq kq => XS.iconst X14.here hx rfl (hb hby at_93) kq) ?_
          show own_Go p.tables e below _ (T14.setTop (mkF m 94 #[.val (.int p1), .val (.int k), .val (.ref a_RATING_AGENCY), .val (.int (0 : Int32)), .val (.int (1 : Int32))] [(.int (1 : Int32))]))
          refine own_Go.by (fun tq kq => XS.goto X14.here hx rfl (pc0 := 94) (pc' := 98) rfl (hb hby at_94) (by decide) (by decide) kq) ?_
          show own_Go p.tables e below _ (T14.setTop (mkF m 98 #[.val (.int p1), .val (.int k), .val (.ref a_RATING_AGENCY), .val (.int (0 : Int32)), .val (.int (1 : Int32))] [(.int (1 : Int32))]))
          obtain ⟨fs, hr, hrun, hended, hW, hsame⟩ := X14.leave (v := some (.int (nar .boolean (1 : Int32)))) (fun h => by rw [Bd.returns] at h; cases h)
          refine own_Go.fin (retN X14 hx (t := .boolean) Bd.returns (by simp) (hb hby at_98) hr) ⟨hrun, hended, _, _, rfl, ?_, ⟨_, rfl⟩, hW, hsame.mono (by decide) (by decide)⟩
          show Q0 Z p1 a_OPTIONAL a_REGULATORY_CAPITAL a_PUT a_RATING_AGENCY a_TAX h0 n0 _ T14.heap _
          rw [e14]
          exact ⟨rfl, N14, K0⟩

set_option maxRecDepth 65536 in
set_option maxHeartbeats 40000000 in
theorem comes_1 {Post : Tables → Env → Array Value → State → Outcome → State → Prop} (hpost : ∀ tb e args s v u, (limb_1_1.after args s (.returned v) u = true ∧ limb_1_2.after args s (.returned v) u = true ∧ True) → FrameEnd s (.returned v) u (Jvm.fieldLocs frame_1_writes args s ++ Jvm.arrayLocs frame_1_arrays args s ++ Jvm.staticLocs frame_1_statics s) 0 0 → Post tb e args s (.returned v) u) :
    ArmFor flags0 classFile x code maxLocals ret World_1 tables_1 room_1 Calls_1 rest_1 Pre_1 Post := by
  intro l hfl _ _ p e ha hc hk s m args below hf hA hF happ hP
  obtain ⟨hcalls, hrest, hpre⟩ := hP
  obtain ⟨-, -, -, hnamed, -, -, -, hat⟩ := (Spec.applies_iff hf).mp happ
  obtain ⟨hg, hn⟩ := and_e (Cond.before_iff.mp (show (Jvm.Cond.and given_1 narrow_1).before args s = true from hpre))
  obtain ⟨hcount, hg⟩ := and_e hg
  have hg0 := hg
  obtain ⟨w0, rfl⟩ : ∃ w0 : Value, args = #[w0] := by
    have hs : args.size = 1 := by simpa [Cond.value, given_1] using hcount
    obtain ⟨L⟩ := args
    match L, hs with
    | [w0], _ => exact ⟨w0, rfl⟩
  have hw := fun d (hd : d ∈ tables_1) => atoms_spec (ws := Jvm.Cond.code x code maxLocals ret :: tables_1) hat d (List.mem_cons_of_mem _ hd)
  have hfit : Fit s := fun {y c} hc i hi => by
    obtain ⟨ha, rfl⟩ := Array.getElem?_eq_some_iff.mp hc
    have q := List.all_eq_true.mp ((Array.all_eq_true_iff_forall_mem.mp hF) _ (Array.getElem_mem ha)) i (List.mem_range.mpr hi)
    simpa [Array.getElem?_eq_getElem hi] using q
  obtain ⟨i0, ei0⟩ := is_v hg0
  obtain rfl : w0 = (.int i0) := Option.some.inj ei0
  obtain ⟨hx0, hn⟩ := and_e hn
  obtain ⟨hy0, hn⟩ := and_e hn
  obtain ⟨a0, ea0⟩ := exa_v hx0
  have S0 := Sta.start ea0 (Or.inr ⟨(hw _ (List.mem_of_getElem? (i := 2) rfl)), (hw _ (List.mem_of_getElem? (i := 3) rfl))⟩)
  have E0 := Exa.start ea0 hx0
  have F0 := own_fldInt ea0 hy0
  obtain ⟨hx1, hn⟩ := and_e hn
  obtain ⟨hy1, hn⟩ := and_e hn
  obtain ⟨a1, ea1⟩ := exa_v hx1
  have S1 := Sta.start ea1 (Or.inr ⟨(hw _ (List.mem_of_getElem? (i := 2) rfl)), (hw _ (List.mem_of_getElem? (i := 19) rfl))⟩)
  have E1 := Exa.start ea1 hx1
  have F1 := own_fldInt ea1 hy1
  obtain ⟨hx2, hn⟩ := and_e hn
  obtain ⟨hy2, hn⟩ := and_e hn
  obtain ⟨a2, ea2⟩ := exa_v hx2
  have S2 := Sta.start ea2 (Or.inr ⟨(hw _ (List.mem_of_getElem? (i := 2) rfl)), (hw _ (List.mem_of_getElem? (i := 21) rfl))⟩)
  have E2 := Exa.start ea2 hx2
  have F2 := own_fldInt ea2 hy2
  obtain ⟨hx3, hn⟩ := and_e hn
  obtain ⟨hy3, hn⟩ := and_e hn
  obtain ⟨a3, ea3⟩ := exa_v hx3
  have S3 := Sta.start ea3 (Or.inr ⟨(hw _ (List.mem_of_getElem? (i := 2) rfl)), (hw _ (List.mem_of_getElem? (i := 23) rfl))⟩)
  have E3 := Exa.start ea3 hx3
  have F3 := own_fldInt ea3 hy3
  obtain ⟨hx4, hn⟩ := and_e hn
  have hy4 := hn
  obtain ⟨a4, ea4⟩ := exa_v hx4
  have S4 := Sta.start ea4 (Or.inr ⟨(hw _ (List.mem_of_getElem? (i := 2) rfl)), (hw _ (List.mem_of_getElem? (i := 25) rfl))⟩)
  have E4 := Exa.start ea4 hx4
  have F4 := own_fldInt ea4 hy4
  obtain ⟨n, o, h1, h2, h3, _, L, rfl, ⟨rfl, N, -⟩, hq⟩ := rm0 l s _ hw tables_1 i0 a0 a1 a2 a3 a4 s.heap s.heap.size (Old.start s) S0 E0 F0 S1 E1 F1 S2 E2 F2 S3 E3 F3 S4 E4 F4 p e ha hc hk s m _ below hf ((Spec.applies_iff_loose hf).mp happ).1 ⟨rfl, State.Warmed39.refl s, rfl⟩ trivial
  refine ⟨n, _, h1, h2, h3, hpost _ _ _ _ _ _ ⟨Cond.after_iff.mpr rfl, Cond.after_iff.mpr (eq_i res_at (Term.int_eval (1)) rfl), trivial⟩ ⟨hq.1, hq.2.1, (hq.2.2.sift fun y hy => Or.inr (N y hy)).mono (by decide) (by decide)⟩⟩
theorem main_1_1 : Claimed_1_1 := comes_1 fun _ _ _ _ _ _ h hF => ⟨h.1, hF⟩
theorem main_1_2 : Claimed_1_2 := comes_1 fun _ _ _ _ _ _ h hF => ⟨h.2.1, hF⟩
end Jvm.Pilot.@@N@@
namespace Jvm.Pilot.@@N@@
open Jvm Jvm.ClassFile Sem Op Lib Jvm.Free Jvm.Stand Jvm.Pilot.@@N@@.Jvm.D
/-! MADE BY PROGRAM (witnessworld.py) out of the Statement's table words and the real class files: 12 classes; the members and pool entries that the words name. The judged class is class 1, her method 1. -/
namespace start1
open Jvm.ClassFile
def u (s : String) : CpInfo := .utf8 (stringToUtf16 s)
/-- a pool by its gaps: so many unusable entries, then the entry; so many at the end -/
def gap : Nat → List CpInfo → List CpInfo
  | 0, r => r
  | n + 1, r => .unusable :: gap n r
def poolList (es : List (Nat × CpInfo)) (last : Nat) : List CpInfo := es.foldr (fun e r => gap e.1 (e.2 :: r)) (gap last [])
def pool (es : List (Nat × CpInfo)) (last : Nat) : Array CpInfo := ⟨poolList es last⟩
def fileOf (pool : Array CpInfo) (this : Nat) (attrs : Array Attribute := #[]) (ms : Array MethodInfo := #[]) (fl : Nat := 33) (sup : Nat := 0) (ifs : Array Nat := #[]) (fds : Array FieldInfo := #[]) : ClassFile where
  minorVersion := 0
  majorVersion := 65
  constantPool := pool
  accessFlags := fl
  thisClass := this
  superClass := sup
  interfaces := ifs
  fields := fds
  methods := ms
  attributes := attrs
def plain (name : String) (sup : Option ClassId) : Class where
  name := name
  kind := .ordinary
  loader := none
  accessFlags := 33
  super := sup
  interfaces := #[]
  cf := none
  fields := #[]
  methods := #[]
  instanceTypes := #[]
  staticTypes := #[]
  resolved := #[]
  callSites := []
  init := .initialized
  statics := none
  mirror := none

def pool0 : Array CpInfo := pool [(5, u "<init>"), (0, u "()V"), (1, .class_ 10), (1, u "java/lang/Object")] 113

def k0m0 : Method := { name := "<init>", desc := "()V", sig := { parameters := [], returnType := none }, accessFlags := 1, code := none }
/-- java/lang/Object -/
def k0 : Class := { plain "java/lang/Object" none with
  accessFlags := 33
  interfaces := #[]
  cf := some (fileOf pool0 8 #[] #[{ accessFlags := 1, nameIndex := 5, descriptorIndex := 6, attributes := #[] }] 33 0 #[] #[])
  fields := #[]
  methods := #[k0m0]
  instanceTypes := #[]
  staticTypes := #[]
  resolved := Array.replicate 124 none
  statics := none }

def pool1 : Array CpInfo := pool [(2, .class_ 4), (1, u "java/lang/Object"), (0, u "<init>"), (0, u "()V"), (0, .integer 2147483647), (0, .fieldref 9 10), (0, .class_ 11), (0, .nameAndType 12 13), (0, u "com/example/tierline/tierline/RedemptionReason"), (0, u "OPTIONAL"), (0, u "Lcom/example/tierline/tierline/RedemptionReason;"), (0, .fieldref 9 15), (0, .nameAndType 16 13), (0, u "PUT"), (0, .fieldref 9 18), (0, .nameAndType 19 13), (0, u "TAX"), (0, .fieldref 9 21), (0, .nameAndType 22 13), (0, u "REGULATORY_CAPITAL"), (0, .fieldref 9 24), (0, .nameAndType 25 13), (0, u "RATING_AGENCY"), (0, .methodref 9 27), (0, .nameAndType 28 29), (0, u "isEvent"), (0, u "()Z"), (0, .class_ 31), (0, u "com/example/tierline/tierline/RedemptionReasonIsEventPinLaw"), (2, u "law"), (0, u "(I)Z")] 3

def k1m0 : Method := { name := "<init>", desc := "()V", sig := { parameters := [], returnType := none }, accessFlags := 1, code := none }
def k1c1 : Code := { maxStack := 2, maxLocals := 5, code := code, exceptionTable := #[], attributes := #[] }
def k1m1 : Method := { name := "law", desc := "(I)Z", sig := { parameters := [.int], returnType := some .boolean }, accessFlags := 9, code := some k1c1 }
/-- com/example/tierline/tierline/RedemptionReasonIsEventPinLaw -/
def k1 : Class := { plain "com/example/tierline/tierline/RedemptionReasonIsEventPinLaw" (some 0) with
  accessFlags := 49
  interfaces := #[]
  cf := some (fileOf pool1 30 #[] #[{ accessFlags := 1, nameIndex := 5, descriptorIndex := 6, attributes := #[] }, { accessFlags := 9, nameIndex := 34, descriptorIndex := 35, attributes := #[] }] 49 2 #[] #[])
  fields := #[]
  methods := #[k1m0, k1m1]
  instanceTypes := #[]
  staticTypes := #[]
  resolved := Array.replicate 39 none
  statics := none }

def pool2 : Array CpInfo := pool [(1, .class_ 2), (0, u "java/lang/constant/Constable"), (0, .class_ 4), (0, u "java/lang/Object")] 6

/-- java/lang/constant/Constable -/
def k2 : Class := { plain "java/lang/constant/Constable" (some 0) with
  accessFlags := 1537
  interfaces := #[]
  cf := some (fileOf pool2 1 #[] #[] 1537 3 #[] #[])
  fields := #[]
  methods := #[]
  instanceTypes := #[]
  staticTypes := #[]
  resolved := Array.replicate 11 none
  statics := none }

def pool3 : Array CpInfo := pool [(1, .class_ 2), (0, u "java/lang/Comparable"), (0, .class_ 4), (0, u "java/lang/Object")] 7

/-- java/lang/Comparable -/
def k3 : Class := { plain "java/lang/Comparable" (some 0) with
  accessFlags := 1537
  interfaces := #[]
  cf := some (fileOf pool3 1 #[] #[] 1537 3 #[] #[])
  fields := #[]
  methods := #[]
  instanceTypes := #[]
  staticTypes := #[]
  resolved := Array.replicate 12 none
  statics := none }

def pool4 : Array CpInfo := pool [(1, .class_ 2), (0, u "java/io/Serializable"), (0, .class_ 4), (0, u "java/lang/Object")] 2

/-- java/io/Serializable -/
def k4 : Class := { plain "java/io/Serializable" (some 0) with
  accessFlags := 1537
  interfaces := #[]
  cf := some (fileOf pool4 1 #[] #[] 1537 3 #[] #[])
  fields := #[]
  methods := #[]
  instanceTypes := #[]
  staticTypes := #[]
  resolved := Array.replicate 7 none
  statics := none }

def pool5 : Array CpInfo := pool [(2, .class_ 4), (1, u "java/lang/Enum"), (0, u "name"), (0, u "Ljava/lang/String;"), (0, .fieldref 2 8), (0, .nameAndType 9 10), (0, u "ordinal"), (0, u "I"), (1, .class_ 14), (1, u "java/lang/Object"), (4, u "hash"), (86, .class_ 108), (1, u "java/lang/Enum$EnumDesc"), (2, .class_ 112), (0, u "java/lang/constant/Constable"), (0, .class_ 114), (0, u "java/lang/Comparable"), (0, .class_ 116), (0, u "java/io/Serializable"), (9, u "()I")] 77

def k5c0 : Code := { maxStack := 1, maxLocals := 1, code := jdk_37_method_2_code, exceptionTable := #[], attributes := #[] }
def k5m0 : Method := { name := "ordinal", desc := "()I", sig := { parameters := [], returnType := some .int }, accessFlags := 17, code := some k5c0 }
/-- java/lang/Enum -/
def k5 : Class := { plain "java/lang/Enum" (some 0) with
  accessFlags := 1057
  interfaces := #[2, 3, 4]
  cf := some (fileOf pool5 2 #[.nestMembers #[106]] #[{ accessFlags := 17, nameIndex := 9, descriptorIndex := 126, attributes := #[] }] 1057 12 #[111, 113, 115] #[{ accessFlags := 18, nameIndex := 5, descriptorIndex := 6, attributes := #[] }, { accessFlags := 18, nameIndex := 9, descriptorIndex := 10, attributes := #[] }, { accessFlags := 2, nameIndex := 19, descriptorIndex := 10, attributes := #[] }])
  fields := #[{ name := "name", type := (.object "java/lang/String"), accessFlags := 18, slot := 0, constantValue := 0 }, { name := "ordinal", type := .int, accessFlags := 18, slot := 1, constantValue := 0 }, { name := "hash", type := .int, accessFlags := 2, slot := 2, constantValue := 0 }]
  methods := #[k5m0]
  instanceTypes := #[(.object "java/lang/String"), .int, .int]
  staticTypes := #[]
  resolved := Array.replicate 204 none
  statics := none }

def pool6 : Array CpInfo := pool [(1, .class_ 2), (0, u "com/example/tierline/tierline/RedemptionReason"), (2, u "OPTIONAL"), (0, u "Lcom/example/tierline/tierline/RedemptionReason;"), (2, u "PUT"), (2, u "TAX"), (2, u "REGULATORY_CAPITAL"), (2, u "RATING_AGENCY"), (2, u "$VALUES"), (0, u "[Lcom/example/tierline/tierline/RedemptionReason;"), (6, .class_ 31), (1, u "java/lang/Enum"), (8, u "termsName"), (0, u "Ljava/lang/String;"), (0, .methodref 1 43), (0, .nameAndType 44 45), (0, u "ordinal"), (0, u "()I"), (35, u "isEvent"), (0, u "()Z")] 6

def k6c0 : Code := { maxStack := 4, maxLocals := 1, code := prog_48_method_5_code, exceptionTable := #[], attributes := #[] }
def k6m0 : Method := { name := "isEvent", desc := "()Z", sig := { parameters := [], returnType := some .boolean }, accessFlags := 1, code := some k6c0 }
/-- com/example/tierline/tierline/RedemptionReason -/
def k6 : Class := { plain "com/example/tierline/tierline/RedemptionReason" (some 5) with
  accessFlags := 16433
  interfaces := #[]
  cf := some (fileOf pool6 1 #[] #[{ accessFlags := 1, nameIndex := 81, descriptorIndex := 82, attributes := #[] }] 16433 29 #[] #[{ accessFlags := 16409, nameIndex := 5, descriptorIndex := 6, attributes := #[] }, { accessFlags := 16409, nameIndex := 9, descriptorIndex := 6, attributes := #[] }, { accessFlags := 16409, nameIndex := 12, descriptorIndex := 6, attributes := #[] }, { accessFlags := 16409, nameIndex := 15, descriptorIndex := 6, attributes := #[] }, { accessFlags := 16409, nameIndex := 18, descriptorIndex := 6, attributes := #[] }, { accessFlags := 18, nameIndex := 40, descriptorIndex := 41, attributes := #[] }, { accessFlags := 4122, nameIndex := 21, descriptorIndex := 22, attributes := #[] }])
  fields := #[{ name := "OPTIONAL", type := (.object "com/example/tierline/tierline/RedemptionReason"), accessFlags := 16409, slot := 0, constantValue := 0 }, { name := "PUT", type := (.object "com/example/tierline/tierline/RedemptionReason"), accessFlags := 16409, slot := 1, constantValue := 0 }, { name := "TAX", type := (.object "com/example/tierline/tierline/RedemptionReason"), accessFlags := 16409, slot := 2, constantValue := 0 }, { name := "REGULATORY_CAPITAL", type := (.object "com/example/tierline/tierline/RedemptionReason"), accessFlags := 16409, slot := 3, constantValue := 0 }, { name := "RATING_AGENCY", type := (.object "com/example/tierline/tierline/RedemptionReason"), accessFlags := 16409, slot := 4, constantValue := 0 }, { name := "termsName", type := (.object "java/lang/String"), accessFlags := 18, slot := 3, constantValue := 0 }, { name := "$VALUES", type := (.array (.object "com/example/tierline/tierline/RedemptionReason")), accessFlags := 4122, slot := 5, constantValue := 0 }]
  methods := #[k6m0]
  instanceTypes := #[(.object "java/lang/String"), .int, .int, (.object "java/lang/String")]
  staticTypes := #[(.object "com/example/tierline/tierline/RedemptionReason"), (.object "com/example/tierline/tierline/RedemptionReason"), (.object "com/example/tierline/tierline/RedemptionReason"), (.object "com/example/tierline/tierline/RedemptionReason"), (.object "com/example/tierline/tierline/RedemptionReason"), (.array (.object "com/example/tierline/tierline/RedemptionReason"))]
  resolved := Array.replicate 89 none
  statics := some 0 }

def pool7 : Array CpInfo := pool [(1, u "java/lang/Cloneable"), (0, .class_ 1), (0, u "java/lang/Object"), (0, .class_ 3)] 3

/-- java/lang/Cloneable -/
def k7 : Class := { plain "java/lang/Cloneable" (some 0) with
  accessFlags := 1537
  interfaces := #[]
  cf := some (fileOf pool7 2 #[] #[] 1537 4 #[] #[])
  fields := #[]
  methods := #[]
  instanceTypes := #[]
  staticTypes := #[]
  resolved := Array.replicate 8 none
  statics := none }

/-- the primitive byte -/
def k8 : Class := { plain "byte" none with kind := .primitive 'B', accessFlags := 0x411 }
/-- [B -/
def k9 : Class := { plain "[B" (some 0) with kind := .array 8 .byte, interfaces := #[7, 4], accessFlags := 1041 }

/-- the primitive int -/
def k10 : Class := { plain "int" none with kind := .primitive 'I', accessFlags := 0x411 }
/-- [I -/
def k11 : Class := { plain "[I" (some 0) with kind := .array 10 .int, interfaces := #[7, 4], accessFlags := 1041 }

def heap : Heap := #[{ cls := 6, slots := #[.ref 1, .ref 3, .ref 5, .ref 2, .ref 4, .null], vm := .statics 6 },
  { cls := 6, slots := #[.null, .int 0, .int 0, .null], vm := .none },
  { cls := 6, slots := #[.null, .int 3, .int 0, .null], vm := .none },
  { cls := 6, slots := #[.null, .int 1, .int 0, .null], vm := .none },
  { cls := 6, slots := #[.null, .int 4, .int 0, .null], vm := .none },
  { cls := 6, slots := #[.null, .int 2, .int 0, .null], vm := .none }]
def classes : Array Class := #[k0, k1, k2, k3, k4, k5, k6, k7, k8, k9, k10, k11]
def interned : List (Array UInt16 × Addr) := []
def slotsUsed : Nat := 26
def theMethod : MethodId := ⟨1, 1⟩
def args0 : Array Value := #[.int 5]
def aboutOver (below : List Frame) : State where
  vm := { classes := classes, interned := interned.toArray }
  heap := heap
  slotsUsed := slotsUsed
  threads := #[{ frames := .invoking theMethod args0 :: below }]
def below0 : List Frame := [.native { method := ⟨0, 0⟩, args := #[] }]
def about1 : State := aboutOver below0
def p0 : Program := .bare "" "" ""
def e0 : Env := launch0.env 0 0 0
theorem w_frames : about1.frames = Frame.invoking theMethod args0 :: below0 := rfl
set_option maxRecDepth 65536 in
theorem w_args : argsFit about1.vm theMethod args0 = true := by decide +kernel
set_option maxRecDepth 65536 in
theorem w_heap : heapFits about1 = true := by decide +kernel
set_option maxRecDepth 65536 in
theorem w_runnable : about1.curStatus? = some .runnable := by decide +kernel
set_option maxRecDepth 65536 in
theorem w_alone : about1.alone = true := by decide +kernel
set_option maxRecDepth 65536 in
theorem w_named : about1.methodNamed? x = some theMethod := by decide +kernel
set_option maxRecDepth 65536 in
theorem w_hears : about1.hears theMethod below0 = true := by decide +kernel
set_option maxRecDepth 65536 in
theorem w_ripe : about1.ripe theMethod args0 below0 = true := by decide +kernel
theorem w_running : about1.status = .running := rfl
set_option maxRecDepth 65536 in
theorem w_room : about1.hasRoom e0.platform room_1 = true :=
  launch0.hasRoom_least _ room_1 (by decide +kernel) (by decide +kernel) (by decide +kernel) (by decide +kernel) (by decide +kernel) (by decide +kernel)
theorem allAtoms_all (ts : List Jvm.Cond) (a : Array Jvm.Value) (st : Jvm.State) : (allAtoms ts).before a st = ts.all (fun c => c.before a st) := by
  induction ts with
  | nil => rfl
  | cons c t ih =>
    show (Jvm.Cond.and c (allAtoms t)).before a st = _
    rw [Jvm.Cond.before_and, ih, List.all_cons]
def words1 : List Jvm.Cond := Jvm.Cond.code x code maxLocals ret :: tables_1
/-- a 'code' word, met by the world's own term for the bytes: nothing is compared byte by byte -/
theorem code_word {y : MethodName} {bytes : ByteArray} {mx : Nat} {rt : Option FieldType} {a : Array Value} {s : State} {m : MethodId} {meth : Method} {c : Code} (h1 : s.methodNamed? y = some m) (h2 : s.vm.method? m = some meth) (h3 : meth.code = some c) (h4 : c.code = bytes)
    (h5 : (c.maxLocals == mx && c.exceptionTable.isEmpty && decide (c.maxStack ≤ mostOperands) && decide (meth.sig.returnType = rt) && !meth.locks && decide (parseMethodDescriptor y.desc = some meth.sig)) = true) : (Jvm.Cond.code y bytes mx rt).before a s = true := by
  simp only [Bool.and_eq_true, beq_iff_eq, Bool.not_eq_true', decide_eq_true_eq] at h5
  obtain ⟨⟨⟨⟨⟨g1, g2⟩, g3⟩, g4⟩, g5⟩, g6⟩ := h5
  simp [Cond.before, Cond.holds, Cond.value, h1, h2, h3, h4, g1, g2, g3, g4, g5, g6]
def isCode : Jvm.Cond → Bool
  | .code _ _ _ _ => true
  | _ => false
theorem all_split {L : List Jvm.Cond} {P : Jvm.Cond → Bool} (h1 : L.all (fun c => isCode c || P c) = true) (h2 : ∀ c ∈ L.filter isCode, P c = true) : L.all P = true := by
  refine List.all_eq_true.mpr fun c hc => ?_
  have h := List.all_eq_true.mp h1 c hc
  rcases Bool.eq_false_or_eq_true (isCode c) with hi | hi
  · exact h2 c (List.mem_filter.mpr ⟨hc, hi⟩)
  · simpa [hi] using h
set_option maxRecDepth 65536 in
theorem w_c0 : (Jvm.Cond.code x code maxLocals ret).before args0 about1 = true := code_word (m := ⟨1, 1⟩) (meth := k1m1) (c := k1c1) (by decide +kernel) rfl rfl rfl (by decide +kernel)
set_option maxRecDepth 65536 in
theorem w_c1 : (Jvm.Cond.code ({ cls := "com/example/tierline/tierline/RedemptionReason", name := "isEvent", desc := "()Z" } : Jvm.MethodName) prog_48_method_5_code (1 : Nat) (Option.some Jvm.ClassFile.FieldType.boolean)).before args0 about1 = true := code_word (m := ⟨6, 0⟩) (meth := k6m0) (c := k6c0) (by decide +kernel) rfl rfl rfl (by decide +kernel)
set_option maxRecDepth 65536 in
theorem w_c2 : (Jvm.Cond.code ({ cls := "java/lang/Enum", name := "ordinal", desc := "()I" } : Jvm.MethodName) jdk_37_method_2_code (1 : Nat) (Option.some Jvm.ClassFile.FieldType.int)).before args0 about1 = true := code_word (m := ⟨5, 0⟩) (meth := k5m0) (c := k5c0) (by decide +kernel) rfl rfl rfl (by decide +kernel)
def codes1 : List Jvm.Cond := [Jvm.Cond.code x code maxLocals ret, Jvm.Cond.code ({ cls := "com/example/tierline/tierline/RedemptionReason", name := "isEvent", desc := "()Z" } : Jvm.MethodName) prog_48_method_5_code (1 : Nat) (Option.some Jvm.ClassFile.FieldType.boolean), Jvm.Cond.code ({ cls := "java/lang/Enum", name := "ordinal", desc := "()I" } : Jvm.MethodName) jdk_37_method_2_code (1 : Nat) (Option.some Jvm.ClassFile.FieldType.int)]
set_option maxRecDepth 65536 in
theorem codes_eq : words1.filter isCode = codes1 := rfl
theorem w_codes : ∀ c ∈ words1.filter isCode, c.before args0 about1 = true := by
  rw [codes_eq]
  intro c hc
  simp only [codes1, List.mem_cons, List.not_mem_nil, or_false] at hc
  rcases hc with rfl | rfl | rfl
  · exact w_c0
  · exact w_c1
  · exact w_c2
set_option maxRecDepth 65536 in
theorem w_t1 : (words1.take 24).all (fun c => isCode c || c.before args0 about1) = true := by decide +kernel
set_option maxRecDepth 65536 in
theorem w_t2 : (words1.drop 24).all (fun c => isCode c || c.before args0 about1) = true := by decide +kernel
theorem w_tables : (allAtoms (Jvm.Cond.code x code maxLocals ret :: tables_1)).before args0 about1 = true := by
  rw [allAtoms_all]
  show words1.all (fun c => c.before args0 about1) = true
  refine all_split ?_ w_codes
  rw [← List.take_append_drop 24 words1, List.all_append, w_t1, w_t2]
  rfl
set_option maxRecDepth 65536 in
theorem w_case : (Jvm.Cond.and given_1 narrow_1).before args0 about1 = true := by decide +kernel
theorem w_applies : (headSpec (Jvm.Cond.code x code maxLocals ret :: tables_1) room_1).applies x e0.platform about1 = true :=
  (Spec.applies_iff w_frames).mpr ⟨w_running, w_runnable, w_alone, w_named, w_hears, w_ripe, w_room, w_tables⟩
theorem atStart : AtStart classFile x code maxLocals ret World_1 tables_1 room_1 Calls_1 rest_1 Pre_1 launch0 p0 e0 about1 theMethod args0 below0 :=
  ⟨lists_1, trivial, launch0.admits_env _ _ _, launch0.least_env, fairChoices_fair.cas, fairChoices_fair.clock, w_frames, w_args, w_heap, w_applies, trivial, trivial, w_case⟩
end start1
theorem witness_1 : WitnessClaimed_1 := ⟨start1.p0, start1.e0, start1.about1, start1.theMethod, start1.args0, start1.below0, start1.atStart⟩
end Jvm.Pilot.@@N@@
