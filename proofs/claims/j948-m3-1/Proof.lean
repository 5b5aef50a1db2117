import JvmDerived
import JvmDerived.Pilot.@@N@@Statement
import JvmDerived.Pilot.@@N@@Code
set_option linter.unusedVariables false
set_option linter.unusedSimpArgs false
namespace Jvm.RoadKit
open Sem ClassFile Op Lib Jvm.Stand Jvm.Free Jvm.LawKit
section New
variable {p : Program} {l : Launch} {e : Env} {R : Room} {s : State} {m : MethodId} {args : Array Value} {below : List Frame} {meth : Method} {c : Code} {T : State} {locs : List Loc} {cells slots : Nat}
theorem retI (X : Stand p l e R s m args below meth c T locs cells slots) (hx : p.tables.exec = Jvm.exec) {pc : Nat} {Ls : Array Slot} {z : Int32} {rest : List Value} (hret : meth.sig.returnType = some .int) (hd : decode c.code pc = .ok (.ireturn, 1)) {fs : List Frame}
    (hl : ∀ (f : JFrame) (acts : List Action), f.method = m → f.locked = none → f.entered = [] → (doReturn e (T.setTop f) acts (some (.int z))).1 = T.setFrames fs) : Steps p.tables e below (T.setTop (mkF m pc Ls (.int z :: rest))) (T.setFrames fs) := by
  have hm' : T.vm.method? m = some meth := X.method'
  have hn : narrow .int (.int z) = .int z := rfl
  show Steps p.tables e below (T.setTop { method := m, pc := pc, locals := Ls, stack := _ :: rest, locked := none }) _
  jvm_step X.here [X.here.top, hx, hd, hm', hret, hn]
  first | (intro acts; rw [hl _ acts rfl rfl rfl]) | rw [hl _ _ rfl rfl rfl]
  exact Steps.refl _
end New
end Jvm.RoadKit

namespace Jvm.Pilot.@@N@@
open Jvm Jvm.ClassFile Sem Op Lib Jvm.Free Jvm.Stand Jvm.LawKit Jvm.RoadKit Bundle Jvm.Pilot.@@N@@.Jvm.D
def own_Go (tb : Tables) (e : Env) (below : List Frame) (K : State → Outcome → Prop) (S : State) : Prop := ∃ t o, Steps tb e below S t ∧ K t o
theorem own_Go.by {tb : Tables} {e : Env} {below : List Frame} {K : State → Outcome → Prop} {S S' : State} (h : ∀ t, Steps tb e below S' t → Steps tb e below S t) (g : own_Go tb e below K S') : own_Go tb e below K S := by
  obtain ⟨t, o, a, b⟩ := g
  exact ⟨t, o, h t a, b⟩
theorem own_Go.fin {tb : Tables} {e : Env} {below : List Frame} {K : State → Outcome → Prop} {S t : State} {o : Outcome} (h : Steps tb e below S t) (k : K t o) : own_Go tb e below K S := ⟨t, o, h, k⟩
theorem own_merge {α : Type} {P : α → Prop} {F : α → State} {tb : Tables} {e : Env} {below : List Frame} {K : State → Outcome → Prop} {S : State} (g : ∀ v, P v → own_Go tb e below K (F v)) (h : (∀ v, P v → own_Go tb e below K (F v)) → own_Go tb e below K S) : own_Go tb e below K S := h g
theorem own_old_le {Z : State} {n0 : Nat} {h : Heap} (O : Old Z n0 h) : n0 ≤ h.size := O.1 ▸ O.2.1
theorem own_rew {s t : State} {o : Outcome} {L : List Loc} {k n k' n' : Nat} (h : ReturnedEndW s o t L k n) (hk : k ≤ k') (hn : n ≤ n') : ReturnedEndW s o t L k' n' := ⟨h.1, h.2.1, h.2.2.1, h.2.2.2.mono hk hn⟩
theorem own_privsel {s : State} {a1 a2 args : Array Value} {y : MethodName} {n : Nat} (wi : (Jvm.Cond.instantiable y.cls n).before a1 s = true) (wp : (Jvm.Cond.privateMethod y).before a2 s = true) (wm : (Jvm.Cond.instanceMethod y).before args s = true) (hy : y.cls ≠ "java/lang/invoke/MethodHandle" ∧ y.cls ≠ "java/lang/invoke/VarHandle") : (Jvm.Cond.selects y.cls y y).before args s = true := by
  obtain ⟨c, k, h1, h2, -, h4, -⟩ := Cond.instantiable_spec wi
  simp only [Bool.or_eq_false_iff] at h4
  exact selects_self_of_private h1 h2 h4.1 (Cond.privateMethod_at wp) wm hy
theorem own_arr_keep {Z : State} {h h' : Heap} {a : Addr} {c : Cell} {ty : FieldType} {ws : List Addr} (A : Arr Z h a c ty) (K : Keep h h' ws) (q : a ∉ ws) : Arr Z h' a c ty := ⟨K.2.1 a c A.1 q, A.2⟩

theorem own_wS : ∀ d ∈ Bundle.stringAtoms, d ∈ tables_1 := by decide +kernel
theorem own_fldInt {args : Array Value} {s : State} {t : Term} {C n dd : String} {a : Addr} {v : Int32} (ht : t.eval args s none [] s = some (.ref a)) (h : (Jvm.Cond.eq (Term.field t C n dd) (Term.int v)).value args s none s [] = some true) : Fld s s.heap a C n dd (.int v) := by
  refine Fld.start ?_
  obtain ⟨x, y, e1, e2, k1, k2⟩ := cmp_v (Or.inl h)
  obtain rfl : Value.int v = y := Option.some.inj e2
  obtain ⟨z, rfl⟩ := k2
  have q := gotT (Cond.eq_ints e1 e2) h
  subst q
  rw [← fld_at ht]
  exact e1

theorem d3_0 : decode jdk_30_method_1_code 0 = .ok (.aload_n 0, 1) := by decide +kernel
theorem d3_1 : decode jdk_30_method_1_code 1 = .ok (.invokespecial 1, 3) := by decide +kernel
theorem d3_4 : decode jdk_30_method_1_code 4 = .ok (.return_, 1) := by decide +kernel
theorem own_pn_java_lang_Record : plainName "java/lang/Record" = true := by first | (simp [plainName, overriddenIn]; done) | decide +kernel
theorem own_ef_3 (m : MethodId) (a1 : Addr) : entryFrame m #[(.ref a1)] 1 = mkF m 0 #[.val (.ref a1)] [] := by first | (simp [entryFrame, mkF, argsToLocals, Value.category]; done) | rfl
def Q3 (Z : State) (a1 : Addr) (h0 : Heap) (n0 : Nat) (v : Option Value) (h : Heap) (L : List Loc) : Prop := v = none ∧ Fr n0 L ∧ h = h0
set_option maxRecDepth 65536 in
set_option maxHeartbeats 40000000 in
theorem rm3 (l : Launch) (Z : State) (a0 : Array Value) (hw : ∀ d ∈ tables_1, d.before a0 Z = true) (ws : List Jvm.Cond) (a1 : Addr) (h0 : Heap) (n0 : Nat) (O0 : Old Z n0 h0) :
    MetFree l (⟨"java/lang/Record", "<init>", "()V"⟩ : MethodName) (head1 (Jvm.Cond.code (⟨"java/lang/Record", "<init>", "()V"⟩ : MethodName) jdk_30_method_1_code 1 none :: ws) ({ frames := 1, cells := 0, slots := 0, locals := 12 } : Room)) (fun a U => a = #[(.ref a1)] ∧ Z.Warmed39 U.vm ∧ U.heap = h0) (fun _ _ _ _ _ => True) (fun _ U o U' => ∃ v L, o = .returned v ∧ Q3 Z a1 h0 n0 v U'.heap L ∧ FrameEnd U o U' L ({ frames := 1, cells := 0, slots := 0, locals := 12 } : Room).cells ({ frames := 1, cells := 0, slots := 0, locals := 12 } : Room).slots) := by
  refine MetFree.of_bodySF (plainFor_of_name own_pn_java_lang_Record) hisR ?_
  intro p e s m args below meth c s₁ Bd hml0 hP hK
  obtain ⟨rfl, hZ, hh⟩ := hP
  have hx := Bd.exec
  have hby := Bd.bytes
  have hml : c.maxLocals = 1 := hml0
  have hown : s.vm.findClass "java/lang/Record" = some m.cls := findClass_of_methodNamed Bd.named
  have hnm := (name_of_methodNamed Bd.named Bd.method).1
  have X0 : Stand p l e ({ frames := 1, cells := 0, slots := 0, locals := 12 } : Room) s m #[(.ref a1)] below meth c s₁ [] 0 0 := Stand.of_body Bd
  have e0 : s₁.heap = h0 := by rw [← hh, Bd.state]; rfl
  have N0 := Fr.nil n0
  have K0 : Keep h0 h0 [] := Keep.refl h0 []
  show own_Go p.tables e below _ (s₁.setTop (entryFrame m #[(.ref a1)] 1))
  refine own_Go.by (fun tq kq => castTop (own_ef_3 m a1) kq) ?_
  show own_Go p.tables e below _ (s₁.setTop (mkF m 0 #[.val (.ref a1)] []))
  refine own_Go.by (fun tq kq => XS.aloadN X0.here hx rfl (hb hby d3_0) rfl rfl kq) ?_
  show own_Go p.tables e below _ (s₁.setTop (mkF m 1 #[.val (.ref a1)] [(.ref a1)]))
  obtain ⟨T1, X1, e1, st1⟩ := initO X0 hx hZ hown (hw _ (List.mem_of_getElem? (i := 20) rfl)) (hw _ (List.mem_of_getElem? (i := 21) rfl)) (hw _ (List.mem_of_getElem? (i := 22) rfl)) e0 (g := (mkF m 1 #[.val (.ref a1)] [(.ref a1)])) rfl (by rw [hml]; rfl) rfl (hb hby d3_1) (by decide) (W := 0) (by show 2 * 0 + _ ≤ _; exact Nat.le_of_eq rfl) (by decide)
  refine own_Go.by st1 ?_
  show own_Go p.tables e below _ (T1.setTop (mkF m 4 #[.val (.ref a1)] []))
  obtain ⟨fs, hr, hrun, hended, hW, hsame⟩ := X1.leave (v := none) (fun _ => rfl)
  refine own_Go.fin (X1.returnOut hx Bd.returns (hb hby d3_4) hr) ⟨hrun, hended, _, _, rfl, ?_, ⟨_, rfl⟩, hW, hsame.mono (by decide) (by decide)⟩
  show Q3 Z a1 h0 n0 _ T1.heap _
  rw [e1]
  exact ⟨rfl, N0, rfl⟩

theorem own_pd0 : parseMethodDescriptor "()V" = some ⟨[], none⟩ := by decide +kernel
theorem d2_0 : decode prog_4_method_1_code 0 = .ok (.aload_n 0, 1) := by decide +kernel
theorem d2_1 : decode prog_4_method_1_code 1 = .ok (.invokespecial 1, 3) := by decide +kernel
theorem d2_4 : decode prog_4_method_1_code 4 = .ok (.aload_n 0, 1) := by decide +kernel
theorem d2_5 : decode prog_4_method_1_code 5 = .ok (.aload_n 1, 1) := by decide +kernel
theorem d2_6 : decode prog_4_method_1_code 6 = .ok (.putfield 7, 3) := by decide +kernel
theorem d2_9 : decode prog_4_method_1_code 9 = .ok (.aload_n 0, 1) := by decide +kernel
theorem d2_10 : decode prog_4_method_1_code 10 = .ok (.aload_n 2, 1) := by decide +kernel
theorem d2_11 : decode prog_4_method_1_code 11 = .ok (.putfield 13, 3) := by decide +kernel
theorem d2_14 : decode prog_4_method_1_code 14 = .ok (.return_, 1) := by decide +kernel
theorem own_pn_com_example_concordat_concordat_core_Preparation : plainName "com/example/concordat/concordat/core/Preparation" = true := by first | (simp [plainName, overriddenIn]; done) | decide +kernel
theorem own_ef_2 (m : MethodId) (a1 : Addr) (a2 : Addr) (a3 : Addr) : entryFrame m #[(.ref a1), (.ref a2), (.ref a3)] 3 = mkF m 0 #[.val (.ref a1), .val (.ref a2), .val (.ref a3)] [] := by first | (simp [entryFrame, mkF, argsToLocals, Value.category]; done) | rfl
def Q2 (Z : State) (a1 : Addr) (a2 : Addr) (a3 : Addr) (h0 : Heap) (n0 : Nat) (v : Option Value) (h : Heap) (L : List Loc) : Prop := v = none ∧ Fr n0 L ∧ Keep h0 h [a1] ∧ (Exa Z h a1 "com/example/concordat/concordat/core/Preparation") ∧ (Fld Z h a1 "com/example/concordat/concordat/core/Preparation" "vote" "Lcom/example/concordat/concordat/core/Vote;" (.ref a2)) ∧ (Fld Z h a1 "com/example/concordat/concordat/core/Preparation" "redo" "[B" (.ref a3))
set_option maxRecDepth 65536 in
set_option maxHeartbeats 40000000 in
theorem rm2 (l : Launch) (Z : State) (a0 : Array Value) (hw : ∀ d ∈ tables_1, d.before a0 Z = true) (ws : List Jvm.Cond) (a1 : Addr) (a2 : Addr) (a3 : Addr) (h0 : Heap) (n0 : Nat) (O0 : Old Z n0 h0) (H0 : Exa Z h0 a1 "com/example/concordat/concordat/core/Preparation") (H1 : Fld Z h0 a1 "com/example/concordat/concordat/core/Preparation" "vote" "Lcom/example/concordat/concordat/core/Vote;" .null) (H2 : Fld Z h0 a1 "com/example/concordat/concordat/core/Preparation" "redo" "[B" .null) (H3 : n0 ≤ a1) :
    MetFree l (⟨"com/example/concordat/concordat/core/Preparation", "<init>", "(Lcom/example/concordat/concordat/core/Vote;[B)V"⟩ : MethodName) (head1 (Jvm.Cond.code (⟨"com/example/concordat/concordat/core/Preparation", "<init>", "(Lcom/example/concordat/concordat/core/Vote;[B)V"⟩ : MethodName) prog_4_method_1_code 3 none :: ws) ({ frames := 2, cells := 0, slots := 0, locals := 24 } : Room)) (fun a U => a = #[(.ref a1), (.ref a2), (.ref a3)] ∧ Z.Warmed39 U.vm ∧ U.heap = h0) (fun _ _ _ _ _ => True) (fun _ U o U' => ∃ v L, o = .returned v ∧ Q2 Z a1 a2 a3 h0 n0 v U'.heap L ∧ FrameEnd U o U' L ({ frames := 2, cells := 0, slots := 0, locals := 24 } : Room).cells ({ frames := 2, cells := 0, slots := 0, locals := 24 } : Room).slots) := by
  refine MetFree.of_bodySF (plainFor_of_name own_pn_com_example_concordat_concordat_core_Preparation) hisR ?_
  intro p e s m args below meth c s₁ Bd hml0 hP hK
  obtain ⟨rfl, hZ, hh⟩ := hP
  have hx := Bd.exec
  have hby := Bd.bytes
  have hml : c.maxLocals = 3 := hml0
  have hown : s.vm.findClass "com/example/concordat/concordat/core/Preparation" = some m.cls := findClass_of_methodNamed Bd.named
  have hnm := (name_of_methodNamed Bd.named Bd.method).1
  have X0 : Stand p l e ({ frames := 2, cells := 0, slots := 0, locals := 24 } : Room) s m #[(.ref a1), (.ref a2), (.ref a3)] below meth c s₁ [] 0 0 := Stand.of_body Bd
  have e0 : s₁.heap = h0 := by rw [← hh, Bd.state]; rfl
  have N0 := Fr.nil n0
  have K0 := Keep.refl h0 [a1]
  show own_Go p.tables e below _ (s₁.setTop (entryFrame m #[(.ref a1), (.ref a2), (.ref a3)] 3))
  refine own_Go.by (fun tq kq => castTop (own_ef_2 m a1 a2 a3) kq) ?_
  show own_Go p.tables e below _ (s₁.setTop (mkF m 0 #[.val (.ref a1), .val (.ref a2), .val (.ref a3)] []))
  refine own_Go.by (fun tq kq => XS.aloadN X0.here hx rfl (hb hby d2_0) rfl rfl kq) ?_
  show own_Go p.tables e below _ (s₁.setTop (mkF m 1 #[.val (.ref a1), .val (.ref a2), .val (.ref a3)] [(.ref a1)]))
  obtain ⟨_, _, ⟨T1, L1, k1, n1⟩, -, X1, ⟨Lc1, hQ1, l1, y1, z1⟩, st1⟩ := X0.specialBack hx (y := (⟨"java/lang/Record", "<init>", "()V"⟩ : MethodName)) rfl hown (mvT hZ (hw _ (List.mem_of_getElem? (i := 15) rfl))) (mvT hZ (hw _ (List.mem_of_getElem? (i := 16) rfl))) (mvT hZ (hw _ (List.mem_of_getElem? (i := 19) rfl))) (by decide) (backOf (W := 0) (rm3 l Z a0 hw [] a1 h0 n0 O0 ) hZ (hw _ (List.mem_of_getElem? (i := 19) rfl)) (hw _ (List.mem_of_getElem? (i := 18) rfl)) (by decide) (by decide)) (g := (mkF m 1 #[.val (.ref a1), .val (.ref a2), .val (.ref a3)] [(.ref a1)])) rfl (by rw [hml]; rfl) (Steps.refl _) (a := a1) (argsL := []) (rest := []) (lenOf own_pd0 rfl) rfl (by show 2 * 0 + _ ≤ _; exact Nat.le_of_eq rfl) (hb hby d2_1) (fun _ _ => ⟨rfl, e0, (by decide : 0 + 0 ≤ _), (by decide : 0 + 0 ≤ _)⟩)
  dsimp only [Pt.U, Pt.locs, Pt.cells, Pt.slots] at X1 l1 y1 z1 st1 hQ1
  subst l1 y1 z1
  refine own_Go.by (fun tq kq => st1.trans kq) ?_
  obtain ⟨rfl, N1q, e1⟩ := hQ1
  have N1 := Fr.app N0 N1q
  show own_Go p.tables e below _ (T1.setTop (mkF m 4 #[.val (.ref a1), .val (.ref a2), .val (.ref a3)] []))
  refine own_Go.by (fun tq kq => XS.aloadN X1.here hx rfl (hb hby d2_4) rfl rfl kq) ?_
  show own_Go p.tables e below _ (T1.setTop (mkF m 5 #[.val (.ref a1), .val (.ref a2), .val (.ref a3)] [(.ref a1)]))
  refine own_Go.by (fun tq kq => XS.aloadN X1.here hx rfl (hb hby d2_5) rfl rfl kq) ?_
  show own_Go p.tables e below _ (T1.setTop (mkF m 6 #[.val (.ref a1), .val (.ref a2), .val (.ref a3)] [(.ref a2), (.ref a1)]))
  obtain ⟨T2, h2, X2, e2, W2, st2⟩ := putF X1 hx hZ hown (host := "") (Or.inl (hw _ (List.mem_of_getElem? (i := 23) rfl))) Via.refl e1 H1 H0 (Or.inr ⟨(hw _ (List.mem_of_getElem? (i := 24) rfl)), rfl, hnm⟩) (hw _ (List.mem_of_getElem? (i := 6) rfl)) (ty := (.object "com/example/concordat/concordat/core/Vote")) (by decide) rfl rfl (g := (mkF m 6 #[.val (.ref a1), .val (.ref a2), .val (.ref a3)] [(.ref a2), (.ref a1)])) rfl rfl (hb hby d2_6)
  refine own_Go.by st2 ?_
  have N2 := Fr.snoc X2 N1 H3
  have O3 := O0.wr W2 H3
  have K3 := K0.wr W2 (Or.inl (List.mem_of_getElem? (i := 0) rfl))
  have F2 := H1.same W2
  show own_Go p.tables e below _ (T2.setTop (mkF m 9 #[.val (.ref a1), .val (.ref a2), .val (.ref a3)] []))
  refine own_Go.by (fun tq kq => XS.aloadN X2.here hx rfl (hb hby d2_9) rfl rfl kq) ?_
  show own_Go p.tables e below _ (T2.setTop (mkF m 10 #[.val (.ref a1), .val (.ref a2), .val (.ref a3)] [(.ref a1)]))
  refine own_Go.by (fun tq kq => XS.aloadN X2.here hx rfl (hb hby d2_10) rfl rfl kq) ?_
  show own_Go p.tables e below _ (T2.setTop (mkF m 11 #[.val (.ref a1), .val (.ref a2), .val (.ref a3)] [(.ref a3), (.ref a1)]))
  have c4 := (H2.other W2 (Or.inr (slot_ne (Or.inr (hw _ (List.mem_of_getElem? (i := 26) rfl))) (Or.inr (hw _ (List.mem_of_getElem? (i := 24) rfl))) (by decide) (t := (.array .byte)) (t' := (.object "com/example/concordat/concordat/core/Vote")) (by decide) (by decide))))
  have c5 := (H0.wr W2)
  obtain ⟨T6, h6, X6, e6, W6, st6⟩ := putF X2 hx hZ hown (host := "") (Or.inl (hw _ (List.mem_of_getElem? (i := 25) rfl))) Via.refl e2 c4 c5 (Or.inr ⟨(hw _ (List.mem_of_getElem? (i := 26) rfl)), rfl, hnm⟩) (hw _ (List.mem_of_getElem? (i := 6) rfl)) (ty := (.array .byte)) (by decide) rfl rfl (g := (mkF m 11 #[.val (.ref a1), .val (.ref a2), .val (.ref a3)] [(.ref a3), (.ref a1)])) rfl rfl (hb hby d2_11)
  refine own_Go.by st6 ?_
  have N6 := Fr.snoc X6 N2 H3
  have O7 := O3.wr W6 H3
  have K7 := K3.wr W6 (Or.inl (List.mem_of_getElem? (i := 0) rfl))
  have F6 := c4.same W6
  show own_Go p.tables e below _ (T6.setTop (mkF m 14 #[.val (.ref a1), .val (.ref a2), .val (.ref a3)] []))
  have c8 := (c5.wr W6)
  have c9 := (F2.other W6 (Or.inr (slot_ne (Or.inr (hw _ (List.mem_of_getElem? (i := 24) rfl))) (Or.inr (hw _ (List.mem_of_getElem? (i := 26) rfl))) (by decide) (t := (.object "com/example/concordat/concordat/core/Vote")) (t' := (.array .byte)) (by decide) (by decide))))
  obtain ⟨fs, hr, hrun, hended, hW, hsame⟩ := X6.leave (v := none) (fun _ => rfl)
  refine own_Go.fin (X6.returnOut hx Bd.returns (hb hby d2_14) hr) ⟨hrun, hended, _, _, rfl, ?_, ⟨_, rfl⟩, hW, hsame.mono (by decide) (by decide)⟩
  show Q2 Z a1 a2 a3 h0 n0 _ T6.heap _
  rw [e6]
  exact ⟨rfl, N6, K7, c8, c9, F6⟩

theorem own_pd1 : parseMethodDescriptor "(Lcom/example/concordat/concordat/core/Vote;[B)V" = some ⟨[(.object "com/example/concordat/concordat/core/Vote"), (.array .byte)], none⟩ := by decide +kernel
theorem d1_0 : decode prog_4_method_3_code 0 = .ok (.new 8, 3) := by decide +kernel
theorem d1_3 : decode prog_4_method_3_code 3 = .ok (.dup, 1) := by decide +kernel
theorem d1_4 : decode prog_4_method_3_code 4 = .ok (.getstatic 28, 3) := by decide +kernel
theorem d1_7 : decode prog_4_method_3_code 7 = .ok (.getstatic 22, 3) := by decide +kernel
theorem d1_10 : decode prog_4_method_3_code 10 = .ok (.invokespecial 25, 3) := by decide +kernel
theorem d1_13 : decode prog_4_method_3_code 13 = .ok (.areturn, 1) := by decide +kernel
theorem own_ef_1 (m : MethodId)  : entryFrame m #[] 0 = mkF m 0 #[] [] := by first | (simp [entryFrame, mkF, argsToLocals, Value.category]; done) | rfl
def Q1 (Z : State) (aV : Addr) (aN : Addr) (h0 : Heap) (n0 : Nat) (v : Option Value) (h : Heap) (L : List Loc) : Prop := ∃ (b : Addr), v = some (.ref b) ∧ Fr n0 L ∧ Keep h0 h [] ∧ (h0.size ≤ b) ∧ (Exa Z h b "com/example/concordat/concordat/core/Preparation") ∧ (Fld Z h b "com/example/concordat/concordat/core/Preparation" "vote" "Lcom/example/concordat/concordat/core/Vote;" (.ref aV)) ∧ (Fld Z h b "com/example/concordat/concordat/core/Preparation" "redo" "[B" (.ref aN))
set_option maxRecDepth 65536 in
set_option maxHeartbeats 40000000 in
theorem rm1 (l : Launch) (Z : State) (a0 : Array Value) (hw : ∀ d ∈ tables_1, d.before a0 Z = true) (ws : List Jvm.Cond) (aV : Addr) (aN : Addr) (h0 : Heap) (n0 : Nat) (O0 : Old Z n0 h0) (H0 : Sta Z Z.heap "com/example/concordat/concordat/core/Vote" "NO" "Lcom/example/concordat/concordat/core/Vote;" (.ref aV)) (H1 : Sta Z Z.heap "com/example/concordat/concordat/core/Preparation" "NOTHING" "[B" (.ref aN)) :
    MetFree l (⟨"com/example/concordat/concordat/core/Preparation", "no", "()Lcom/example/concordat/concordat/core/Preparation;"⟩ : MethodName) (head1 (Jvm.Cond.code (⟨"com/example/concordat/concordat/core/Preparation", "no", "()Lcom/example/concordat/concordat/core/Preparation;"⟩ : MethodName) prog_4_method_3_code 0 (some (.object "com/example/concordat/concordat/core/Preparation")) :: ws) ({ frames := 3, cells := 1, slots := 2, locals := 39 } : Room)) (fun a U => a = #[] ∧ Z.Warmed39 U.vm ∧ U.heap = h0) (fun _ _ _ _ _ => True) (fun _ U o U' => ∃ v L, o = .returned v ∧ Q1 Z aV aN h0 n0 v U'.heap L ∧ FrameEnd U o U' L ({ frames := 3, cells := 1, slots := 2, locals := 39 } : Room).cells ({ frames := 3, cells := 1, slots := 2, locals := 39 } : Room).slots) := by
  refine MetFree.of_bodySF (plainFor_of_name own_pn_com_example_concordat_concordat_core_Preparation) hisR ?_
  intro p e s m args below meth c s₁ Bd hml0 hP hK
  obtain ⟨rfl, hZ, hh⟩ := hP
  have hx := Bd.exec
  have hby := Bd.bytes
  have hml : c.maxLocals = 0 := hml0
  have hown : s.vm.findClass "com/example/concordat/concordat/core/Preparation" = some m.cls := findClass_of_methodNamed Bd.named
  have hnm := (name_of_methodNamed Bd.named Bd.method).1
  have X0 : Stand p l e ({ frames := 3, cells := 1, slots := 2, locals := 39 } : Room) s m #[] below meth c s₁ [] 0 0 := Stand.of_body Bd
  have e0 : s₁.heap = h0 := by rw [← hh, Bd.state]; rfl
  have N0 := Fr.nil n0
  have K0 : Keep h0 h0 [] := Keep.refl h0 []
  show own_Go p.tables e below _ (s₁.setTop (entryFrame m #[] 0))
  refine own_Go.by (fun tq kq => castTop (own_ef_1 m ) kq) ?_
  show own_Go p.tables e below _ (s₁.setTop (mkF m 0 #[] []))
  obtain ⟨T1, h1, X1, e1, E1, A1, D1, -, st1⟩ := newO X0 hx hZ hown (hw _ (List.mem_of_getElem? (i := 5) rfl)) (hw _ (List.mem_of_getElem? (i := 6) rfl)) (hw _ (List.mem_of_getElem? (i := 3) rfl)) e0 (g := (mkF m 0 #[] [])) rfl (hb hby d1_0) (by decide) (by decide)
  obtain ⟨b1, y1⟩ : ∃ z, z = h0.size := ⟨_, rfl⟩
  rw [← y1] at A1 D1 st1
  refine own_Go.by st1 ?_
  have O2 := O0.ext E1
  have K2 := K0.ext E1
  have g3 : n0 ≤ b1 := Nat.le_trans (own_old_le O0) (Nat.le_of_eq y1.symm)
  have z3 : h0.size ≤ b1 := Nat.le_trans K0.1 (Nat.le_of_eq y1.symm)
  have F1_vote : Fld Z h1 b1 "com/example/concordat/concordat/core/Preparation" "vote" "Lcom/example/concordat/concordat/core/Vote;" .null := D1 (Or.inr (hw _ (List.mem_of_getElem? (i := 24) rfl))) (ty := (.object "com/example/concordat/concordat/core/Vote")) (by decide)
  have F1_redo : Fld Z h1 b1 "com/example/concordat/concordat/core/Preparation" "redo" "[B" .null := D1 (Or.inr (hw _ (List.mem_of_getElem? (i := 26) rfl))) (ty := (.array .byte)) (by decide)
  show own_Go p.tables e below _ (T1.setTop (mkF m 3 #[] [(.ref b1)]))
  refine own_Go.by (fun tq kq => XS.dup X1.here hx rfl (hb hby d1_3) rfl rfl kq) ?_
  show own_Go p.tables e below _ (T1.setTop (mkF m 4 #[] [(.ref b1), (.ref b1)]))
  obtain ⟨T4, X4, e4, st4⟩ := getS2 X1 hx hZ hown (host := "") (Or.inl (hw _ (List.mem_of_getElem? (i := 7) rfl))) Via.refl e1 (H0.ext O2.2) (g := (mkF m 4 #[] [(.ref b1), (.ref b1)])) rfl (hb hby d1_4)
  refine own_Go.by st4 ?_
  show own_Go p.tables e below _ (T4.setTop (mkF m 7 #[] [(.ref aV), (.ref b1), (.ref b1)]))
  obtain ⟨T5, X5, e5, st5⟩ := getS2 X4 hx hZ hown (host := "") (Or.inl (hw _ (List.mem_of_getElem? (i := 10) rfl))) Via.refl e4 (H1.ext O2.2) (g := (mkF m 7 #[] [(.ref aV), (.ref b1), (.ref b1)])) rfl (hb hby d1_7)
  refine own_Go.by st5 ?_
  show own_Go p.tables e below _ (T5.setTop (mkF m 10 #[] [(.ref aN), (.ref aV), (.ref b1), (.ref b1)]))
  obtain ⟨_, _, ⟨T6, L6, k6, n6⟩, -, X6, ⟨Lc6, hQ6, l6, y6, z6⟩, st6⟩ := X5.specialBack hx (y := (⟨"com/example/concordat/concordat/core/Preparation", "<init>", "(Lcom/example/concordat/concordat/core/Vote;[B)V"⟩ : MethodName)) rfl hown (mvT hZ (hw _ (List.mem_of_getElem? (i := 12) rfl))) (mvT hZ (hw _ (List.mem_of_getElem? (i := 13) rfl))) (mvT hZ (hw _ (List.mem_of_getElem? (i := 14) rfl))) (by decide) (backOf (W := 1) (rm2 l Z a0 hw [] b1 aV aN h1 n0 O2 A1 F1_vote F1_redo g3) hZ (hw _ (List.mem_of_getElem? (i := 14) rfl)) (hw _ (List.mem_of_getElem? (i := 3) rfl)) (by decide) (by decide)) (g := (mkF m 10 #[] [(.ref aN), (.ref aV), (.ref b1), (.ref b1)])) rfl (by rw [hml]; rfl) (Steps.refl _) (a := b1) (argsL := [(.ref aV), (.ref aN)]) (rest := [(.ref b1)]) (lenOf own_pd1 rfl) rfl (by show 2 * 0 + _ ≤ _; exact Nat.le_of_eq rfl) (hb hby d1_10) (fun _ _ => ⟨rfl, e5, (by decide : 1 + 0 ≤ _), (by decide : 2 + 0 ≤ _)⟩)
  dsimp only [Pt.U, Pt.locs, Pt.cells, Pt.slots] at X6 l6 y6 z6 st6 hQ6
  subst l6 y6 z6
  refine own_Go.by (fun tq kq => st6.trans kq) ?_
  obtain ⟨rfl, N6q, K6q, p6_0, p6_1, p6_2⟩ := hQ6
  have N6 := Fr.app N0 N6q
  have O7 := O2.keep K6q (allS g3 all0)
  have K7 := K2.trans K6q (allS (Or.inr z3) all0)
  show own_Go p.tables e below _ (T6.setTop (mkF m 13 #[] [(.ref b1)]))
  obtain ⟨fs, hr, hrun, hended, hW, hsame⟩ := X6.leave (v := some (.ref b1)) (fun h => by rw [Bd.returns] at h; cases h)
  refine own_Go.fin (retOut X6 hx Bd.returns rfl (Or.inr (Or.inr (Or.inr (Or.inr ⟨rfl, rfl, rfl⟩)))) (hb hby d1_13) hr) ⟨hrun, hended, _, _, rfl, ?_, ⟨_, rfl⟩, hW, hsame.mono (by decide) (by decide)⟩
  show Q1 Z aV aN h0 n0 _ T6.heap _
  exact ⟨b1, rfl, N6, K7, z3, p6_0, p6_1, p6_2⟩

theorem d7_0 : decode prog_4_method_2_code 0 = .ok (.new 8, 3) := by decide +kernel
theorem d7_3 : decode prog_4_method_2_code 3 = .ok (.dup, 1) := by decide +kernel
theorem d7_4 : decode prog_4_method_2_code 4 = .ok (.getstatic 17, 3) := by decide +kernel
theorem d7_7 : decode prog_4_method_2_code 7 = .ok (.getstatic 22, 3) := by decide +kernel
theorem d7_10 : decode prog_4_method_2_code 10 = .ok (.invokespecial 25, 3) := by decide +kernel
theorem d7_13 : decode prog_4_method_2_code 13 = .ok (.areturn, 1) := by decide +kernel
theorem own_ef_7 (m : MethodId)  : entryFrame m #[] 0 = mkF m 0 #[] [] := by first | (simp [entryFrame, mkF, argsToLocals, Value.category]; done) | rfl
def Q7 (Z : State) (aV : Addr) (aN : Addr) (h0 : Heap) (n0 : Nat) (v : Option Value) (h : Heap) (L : List Loc) : Prop := ∃ (b : Addr), v = some (.ref b) ∧ Fr n0 L ∧ Keep h0 h [] ∧ (h0.size ≤ b) ∧ (Exa Z h b "com/example/concordat/concordat/core/Preparation") ∧ (Fld Z h b "com/example/concordat/concordat/core/Preparation" "vote" "Lcom/example/concordat/concordat/core/Vote;" (.ref aV)) ∧ (Fld Z h b "com/example/concordat/concordat/core/Preparation" "redo" "[B" (.ref aN))
set_option maxRecDepth 65536 in
set_option maxHeartbeats 40000000 in
theorem rm7 (l : Launch) (Z : State) (a0 : Array Value) (hw : ∀ d ∈ tables_1, d.before a0 Z = true) (ws : List Jvm.Cond) (aV : Addr) (aN : Addr) (h0 : Heap) (n0 : Nat) (O0 : Old Z n0 h0) (H0 : Sta Z Z.heap "com/example/concordat/concordat/core/Vote" "READ_ONLY" "Lcom/example/concordat/concordat/core/Vote;" (.ref aV)) (H1 : Sta Z Z.heap "com/example/concordat/concordat/core/Preparation" "NOTHING" "[B" (.ref aN)) :
    MetFree l (⟨"com/example/concordat/concordat/core/Preparation", "readOnly", "()Lcom/example/concordat/concordat/core/Preparation;"⟩ : MethodName) (head1 (Jvm.Cond.code (⟨"com/example/concordat/concordat/core/Preparation", "readOnly", "()Lcom/example/concordat/concordat/core/Preparation;"⟩ : MethodName) prog_4_method_2_code 0 (some (.object "com/example/concordat/concordat/core/Preparation")) :: ws) ({ frames := 3, cells := 1, slots := 2, locals := 39 } : Room)) (fun a U => a = #[] ∧ Z.Warmed39 U.vm ∧ U.heap = h0) (fun _ _ _ _ _ => True) (fun _ U o U' => ∃ v L, o = .returned v ∧ Q7 Z aV aN h0 n0 v U'.heap L ∧ FrameEnd U o U' L ({ frames := 3, cells := 1, slots := 2, locals := 39 } : Room).cells ({ frames := 3, cells := 1, slots := 2, locals := 39 } : Room).slots) := by
  refine MetFree.of_bodySF (plainFor_of_name own_pn_com_example_concordat_concordat_core_Preparation) hisR ?_
  intro p e s m args below meth c s₁ Bd hml0 hP hK
  obtain ⟨rfl, hZ, hh⟩ := hP
  have hx := Bd.exec
  have hby := Bd.bytes
  have hml : c.maxLocals = 0 := hml0
  have hown : s.vm.findClass "com/example/concordat/concordat/core/Preparation" = some m.cls := findClass_of_methodNamed Bd.named
  have hnm := (name_of_methodNamed Bd.named Bd.method).1
  have X0 : Stand p l e ({ frames := 3, cells := 1, slots := 2, locals := 39 } : Room) s m #[] below meth c s₁ [] 0 0 := Stand.of_body Bd
  have e0 : s₁.heap = h0 := by rw [← hh, Bd.state]; rfl
  have N0 := Fr.nil n0
  have K0 : Keep h0 h0 [] := Keep.refl h0 []
  show own_Go p.tables e below _ (s₁.setTop (entryFrame m #[] 0))
  refine own_Go.by (fun tq kq => castTop (own_ef_7 m ) kq) ?_
  show own_Go p.tables e below _ (s₁.setTop (mkF m 0 #[] []))
  obtain ⟨T1, h1, X1, e1, E1, A1, D1, -, st1⟩ := newO X0 hx hZ hown (hw _ (List.mem_of_getElem? (i := 5) rfl)) (hw _ (List.mem_of_getElem? (i := 6) rfl)) (hw _ (List.mem_of_getElem? (i := 3) rfl)) e0 (g := (mkF m 0 #[] [])) rfl (hb hby d7_0) (by decide) (by decide)
  obtain ⟨b1, y1⟩ : ∃ z, z = h0.size := ⟨_, rfl⟩
  rw [← y1] at A1 D1 st1
  refine own_Go.by st1 ?_
  have O2 := O0.ext E1
  have K2 := K0.ext E1
  have g3 : n0 ≤ b1 := Nat.le_trans (own_old_le O0) (Nat.le_of_eq y1.symm)
  have z3 : h0.size ≤ b1 := Nat.le_trans K0.1 (Nat.le_of_eq y1.symm)
  have F1_vote : Fld Z h1 b1 "com/example/concordat/concordat/core/Preparation" "vote" "Lcom/example/concordat/concordat/core/Vote;" .null := D1 (Or.inr (hw _ (List.mem_of_getElem? (i := 24) rfl))) (ty := (.object "com/example/concordat/concordat/core/Vote")) (by decide)
  have F1_redo : Fld Z h1 b1 "com/example/concordat/concordat/core/Preparation" "redo" "[B" .null := D1 (Or.inr (hw _ (List.mem_of_getElem? (i := 26) rfl))) (ty := (.array .byte)) (by decide)
  show own_Go p.tables e below _ (T1.setTop (mkF m 3 #[] [(.ref b1)]))
  refine own_Go.by (fun tq kq => XS.dup X1.here hx rfl (hb hby d7_3) rfl rfl kq) ?_
  show own_Go p.tables e below _ (T1.setTop (mkF m 4 #[] [(.ref b1), (.ref b1)]))
  obtain ⟨T4, X4, e4, st4⟩ := getS2 X1 hx hZ hown (host := "") (Or.inl (hw _ (List.mem_of_getElem? (i := 48) rfl))) Via.refl e1 (H0.ext O2.2) (g := (mkF m 4 #[] [(.ref b1), (.ref b1)])) rfl (hb hby d7_4)
  refine own_Go.by st4 ?_
  show own_Go p.tables e below _ (T4.setTop (mkF m 7 #[] [(.ref aV), (.ref b1), (.ref b1)]))
  obtain ⟨T5, X5, e5, st5⟩ := getS2 X4 hx hZ hown (host := "") (Or.inl (hw _ (List.mem_of_getElem? (i := 10) rfl))) Via.refl e4 (H1.ext O2.2) (g := (mkF m 7 #[] [(.ref aV), (.ref b1), (.ref b1)])) rfl (hb hby d7_7)
  refine own_Go.by st5 ?_
  show own_Go p.tables e below _ (T5.setTop (mkF m 10 #[] [(.ref aN), (.ref aV), (.ref b1), (.ref b1)]))
  obtain ⟨_, _, ⟨T6, L6, k6, n6⟩, -, X6, ⟨Lc6, hQ6, l6, y6, z6⟩, st6⟩ := X5.specialBack hx (y := (⟨"com/example/concordat/concordat/core/Preparation", "<init>", "(Lcom/example/concordat/concordat/core/Vote;[B)V"⟩ : MethodName)) rfl hown (mvT hZ (hw _ (List.mem_of_getElem? (i := 12) rfl))) (mvT hZ (hw _ (List.mem_of_getElem? (i := 13) rfl))) (mvT hZ (hw _ (List.mem_of_getElem? (i := 14) rfl))) (by decide) (backOf (W := 1) (rm2 l Z a0 hw [] b1 aV aN h1 n0 O2 A1 F1_vote F1_redo g3) hZ (hw _ (List.mem_of_getElem? (i := 14) rfl)) (hw _ (List.mem_of_getElem? (i := 3) rfl)) (by decide) (by decide)) (g := (mkF m 10 #[] [(.ref aN), (.ref aV), (.ref b1), (.ref b1)])) rfl (by rw [hml]; rfl) (Steps.refl _) (a := b1) (argsL := [(.ref aV), (.ref aN)]) (rest := [(.ref b1)]) (lenOf own_pd1 rfl) rfl (by show 2 * 0 + _ ≤ _; exact Nat.le_of_eq rfl) (hb hby d7_10) (fun _ _ => ⟨rfl, e5, (by decide : 1 + 0 ≤ _), (by decide : 2 + 0 ≤ _)⟩)
  dsimp only [Pt.U, Pt.locs, Pt.cells, Pt.slots] at X6 l6 y6 z6 st6 hQ6
  subst l6 y6 z6
  refine own_Go.by (fun tq kq => st6.trans kq) ?_
  obtain ⟨rfl, N6q, K6q, p6_0, p6_1, p6_2⟩ := hQ6
  have N6 := Fr.app N0 N6q
  have O7 := O2.keep K6q (allS g3 all0)
  have K7 := K2.trans K6q (allS (Or.inr z3) all0)
  show own_Go p.tables e below _ (T6.setTop (mkF m 13 #[] [(.ref b1)]))
  obtain ⟨fs, hr, hrun, hended, hW, hsame⟩ := X6.leave (v := some (.ref b1)) (fun h => by rw [Bd.returns] at h; cases h)
  refine own_Go.fin (retOut X6 hx Bd.returns rfl (Or.inr (Or.inr (Or.inr (Or.inr ⟨rfl, rfl, rfl⟩)))) (hb hby d7_13) hr) ⟨hrun, hended, _, _, rfl, ?_, ⟨_, rfl⟩, hW, hsame.mono (by decide) (by decide)⟩
  show Q7 Z aV aN h0 n0 _ T6.heap _
  exact ⟨b1, rfl, N6, K7, z3, p6_0, p6_1, p6_2⟩

theorem d6_0 : decode jdk_31_method_11_code 0 = .ok (.aload_n 0, 1) := by decide +kernel
theorem d6_1 : decode jdk_31_method_11_code 1 = .ok (.ifnonnull 12, 3) := by decide +kernel
theorem d6_13 : decode jdk_31_method_11_code 13 = .ok (.aload_n 0, 1) := by decide +kernel
theorem d6_14 : decode jdk_31_method_11_code 14 = .ok (.areturn, 1) := by decide +kernel
theorem own_pn_java_util_Objects : plainName "java/util/Objects" = true := by first | (simp [plainName, overriddenIn]; done) | decide +kernel
theorem own_ef_6 (m : MethodId) (a1 : Addr) (a2 : Addr) : entryFrame m #[(.ref a1), (.ref a2)] 2 = mkF m 0 #[.val (.ref a1), .val (.ref a2)] [] := by first | (simp [entryFrame, mkF, argsToLocals, Value.category]; done) | rfl
def Q6 (Z : State) (a1 : Addr) (a2 : Addr) (h0 : Heap) (n0 : Nat) (v : Option Value) (h : Heap) (L : List Loc) : Prop := v = some (.ref a1) ∧ Fr n0 L ∧ h = h0
set_option maxRecDepth 65536 in
set_option maxHeartbeats 40000000 in
theorem rm6 (l : Launch) (Z : State) (a0 : Array Value) (hw : ∀ d ∈ tables_1, d.before a0 Z = true) (ws : List Jvm.Cond) (a1 : Addr) (a2 : Addr) (h0 : Heap) (n0 : Nat) (O0 : Old Z n0 h0) :
    MetFree l (⟨"java/util/Objects", "requireNonNull", "(Ljava/lang/Object;Ljava/lang/String;)Ljava/lang/Object;"⟩ : MethodName) (head1 (Jvm.Cond.code (⟨"java/util/Objects", "requireNonNull", "(Ljava/lang/Object;Ljava/lang/String;)Ljava/lang/Object;"⟩ : MethodName) jdk_31_method_11_code 2 (some (.object "java/lang/Object")) :: ws) ({ frames := 0, cells := 0, slots := 0, locals := 0 } : Room)) (fun a U => a = #[(.ref a1), (.ref a2)] ∧ Z.Warmed39 U.vm ∧ U.heap = h0) (fun _ _ _ _ _ => True) (fun _ U o U' => ∃ v L, o = .returned v ∧ Q6 Z a1 a2 h0 n0 v U'.heap L ∧ FrameEnd U o U' L ({ frames := 0, cells := 0, slots := 0, locals := 0 } : Room).cells ({ frames := 0, cells := 0, slots := 0, locals := 0 } : Room).slots) := by
  refine MetFree.of_bodySF (plainFor_of_name own_pn_java_util_Objects) hisR ?_
  intro p e s m args below meth c s₁ Bd hml0 hP hK
  obtain ⟨rfl, hZ, hh⟩ := hP
  have hx := Bd.exec
  have hby := Bd.bytes
  have hml : c.maxLocals = 2 := hml0
  have hown : s.vm.findClass "java/util/Objects" = some m.cls := findClass_of_methodNamed Bd.named
  have hnm := (name_of_methodNamed Bd.named Bd.method).1
  have X0 : Stand p l e ({ frames := 0, cells := 0, slots := 0, locals := 0 } : Room) s m #[(.ref a1), (.ref a2)] below meth c s₁ [] 0 0 := Stand.of_body Bd
  have e0 : s₁.heap = h0 := by rw [← hh, Bd.state]; rfl
  have N0 := Fr.nil n0
  have K0 : Keep h0 h0 [] := Keep.refl h0 []
  show own_Go p.tables e below _ (s₁.setTop (entryFrame m #[(.ref a1), (.ref a2)] 2))
  refine own_Go.by (fun tq kq => castTop (own_ef_6 m a1 a2) kq) ?_
  show own_Go p.tables e below _ (s₁.setTop (mkF m 0 #[.val (.ref a1), .val (.ref a2)] []))
  refine own_Go.by (fun tq kq => XS.aloadN X0.here hx rfl (hb hby d6_0) rfl rfl kq) ?_
  show own_Go p.tables e below _ (s₁.setTop (mkF m 1 #[.val (.ref a1), .val (.ref a2)] [(.ref a1)]))
  refine own_Go.by (fun tq kq => XS.ifnonnullYes X0.here hx rfl (pc0 := 1) (pc' := 13) rfl (hb hby d6_1) rfl (by decide) (by decide) kq) ?_
  show own_Go p.tables e below _ (s₁.setTop (mkF m 13 #[.val (.ref a1), .val (.ref a2)] []))
  refine own_Go.by (fun tq kq => XS.aloadN X0.here hx rfl (hb hby d6_13) rfl rfl kq) ?_
  show own_Go p.tables e below _ (s₁.setTop (mkF m 14 #[.val (.ref a1), .val (.ref a2)] [(.ref a1)]))
  obtain ⟨fs, hr, hrun, hended, hW, hsame⟩ := X0.leave (v := some (.ref a1)) (fun h => by rw [Bd.returns] at h; cases h)
  refine own_Go.fin (retOut X0 hx Bd.returns rfl (Or.inr (Or.inr (Or.inr (Or.inr ⟨rfl, rfl, rfl⟩)))) (hb hby d6_14) hr) ⟨hrun, hended, _, _, rfl, ?_, ⟨_, rfl⟩, hW, hsame.mono (by decide) (by decide)⟩
  show Q6 Z a1 a2 h0 n0 _ s₁.heap _
  rw [e0]
  exact ⟨rfl, N0, rfl⟩

theorem own_pd2 : parseMethodDescriptor "(Ljava/lang/Object;Ljava/lang/String;)Ljava/lang/Object;" = some ⟨[(.object "java/lang/Object"), (.object "java/lang/String")], some (.object "java/lang/Object")⟩ := by decide +kernel
theorem d5_0 : decode prog_4_method_4_code 0 = .ok (.new 8, 3) := by decide +kernel
theorem d5_3 : decode prog_4_method_4_code 3 = .ok (.dup, 1) := by decide +kernel
theorem d5_4 : decode prog_4_method_4_code 4 = .ok (.getstatic 31, 3) := by decide +kernel
theorem d5_7 : decode prog_4_method_4_code 7 = .ok (.aload_n 0, 1) := by decide +kernel
theorem d5_8 : decode prog_4_method_4_code 8 = .ok (.ldc 34, 2) := by decide +kernel
theorem d5_10 : decode prog_4_method_4_code 10 = .ok (.invokestatic 35, 3) := by decide +kernel
theorem d5_13 : decode prog_4_method_4_code 13 = .ok (.checkcast 41, 3) := by decide +kernel
theorem d5_16 : decode prog_4_method_4_code 16 = .ok (.invokespecial 25, 3) := by decide +kernel
theorem d5_19 : decode prog_4_method_4_code 19 = .ok (.areturn, 1) := by decide +kernel
theorem own_ef_5 (m : MethodId) (a1 : Addr) : entryFrame m #[(.ref a1)] 1 = mkF m 0 #[.val (.ref a1)] [] := by first | (simp [entryFrame, mkF, argsToLocals, Value.category]; done) | rfl
def Q5 (Z : State) (a1 : Addr) (aV : Addr) (h0 : Heap) (n0 : Nat) (v : Option Value) (h : Heap) (L : List Loc) : Prop := ∃ (b : Addr), v = some (.ref b) ∧ Fr n0 L ∧ Keep h0 h [] ∧ (h0.size ≤ b) ∧ (Exa Z h b "com/example/concordat/concordat/core/Preparation") ∧ (Fld Z h b "com/example/concordat/concordat/core/Preparation" "vote" "Lcom/example/concordat/concordat/core/Vote;" (.ref aV)) ∧ (Fld Z h b "com/example/concordat/concordat/core/Preparation" "redo" "[B" (.ref a1))
set_option maxRecDepth 65536 in
set_option maxHeartbeats 40000000 in
theorem rm5 (l : Launch) (Z : State) (a0 : Array Value) (hw : ∀ d ∈ tables_1, d.before a0 Z = true) (ws : List Jvm.Cond) (a1 : Addr) (aV : Addr) (h0 : Heap) (n0 : Nat) (O0 : Old Z n0 h0) (H0 : Sta Z Z.heap "com/example/concordat/concordat/core/Vote" "YES" "Lcom/example/concordat/concordat/core/Vote;" (.ref aV)) (H1 : Exa Z h0 a1 "[B") :
    MetFree l (⟨"com/example/concordat/concordat/core/Preparation", "yes", "([B)Lcom/example/concordat/concordat/core/Preparation;"⟩ : MethodName) (head1 (Jvm.Cond.code (⟨"com/example/concordat/concordat/core/Preparation", "yes", "([B)Lcom/example/concordat/concordat/core/Preparation;"⟩ : MethodName) prog_4_method_4_code 1 (some (.object "com/example/concordat/concordat/core/Preparation")) :: ws) ({ frames := 3, cells := 3, slots := 22, locals := 39 } : Room)) (fun a U => a = #[(.ref a1)] ∧ Z.Warmed39 U.vm ∧ U.heap = h0) (fun _ _ _ _ _ => True) (fun _ U o U' => ∃ v L, o = .returned v ∧ Q5 Z a1 aV h0 n0 v U'.heap L ∧ ReturnedEndW U o U' L ({ frames := 3, cells := 3, slots := 22, locals := 39 } : Room).cells ({ frames := 3, cells := 3, slots := 22, locals := 39 } : Room).slots) := by
  refine MetFree.of_bodySF (plainFor_of_name own_pn_com_example_concordat_concordat_core_Preparation) hisR ?_
  intro p e s m args below meth c s₁ Bd hml0 hP hK
  obtain ⟨rfl, hZ, hh⟩ := hP
  have hx := Bd.exec
  have hby := Bd.bytes
  have hml : c.maxLocals = 1 := hml0
  have hown : s.vm.findClass "com/example/concordat/concordat/core/Preparation" = some m.cls := findClass_of_methodNamed Bd.named
  have hnm := (name_of_methodNamed Bd.named Bd.method).1
  have X0 : Stand p l e ({ frames := 3, cells := 3, slots := 22, locals := 39 } : Room) s m #[(.ref a1)] below meth c s₁ [] 0 0 := Stand.of_body Bd
  have e0 : s₁.heap = h0 := by rw [← hh, Bd.state]; rfl
  have hS0 : s.Since s.vm 0 := (State.WarmedH.refl s).since 0
  have N0 := Fr.nil n0
  have K0 : Keep h0 h0 [] := Keep.refl h0 []
  show own_Go p.tables e below _ (s₁.setTop (entryFrame m #[(.ref a1)] 1))
  refine own_Go.by (fun tq kq => castTop (own_ef_5 m a1) kq) ?_
  show own_Go p.tables e below _ (s₁.setTop (mkF m 0 #[.val (.ref a1)] []))
  obtain ⟨T1, h1, X1, e1, E1, A1, D1, -, st1⟩ := newO X0 hx hZ hown (hw _ (List.mem_of_getElem? (i := 5) rfl)) (hw _ (List.mem_of_getElem? (i := 6) rfl)) (hw _ (List.mem_of_getElem? (i := 3) rfl)) e0 (g := (mkF m 0 #[.val (.ref a1)] [])) rfl (hb hby d5_0) (by decide) (by decide)
  obtain ⟨b1, y1⟩ : ∃ z, z = h0.size := ⟨_, rfl⟩
  rw [← y1] at A1 D1 st1
  refine own_Go.by st1 ?_
  have O2 := O0.ext E1
  have K2 := K0.ext E1
  have g3 : n0 ≤ b1 := Nat.le_trans (own_old_le O0) (Nat.le_of_eq y1.symm)
  have z3 : h0.size ≤ b1 := Nat.le_trans K0.1 (Nat.le_of_eq y1.symm)
  have F1_vote : Fld Z h1 b1 "com/example/concordat/concordat/core/Preparation" "vote" "Lcom/example/concordat/concordat/core/Vote;" .null := D1 (Or.inr (hw _ (List.mem_of_getElem? (i := 24) rfl))) (ty := (.object "com/example/concordat/concordat/core/Vote")) (by decide)
  have F1_redo : Fld Z h1 b1 "com/example/concordat/concordat/core/Preparation" "redo" "[B" .null := D1 (Or.inr (hw _ (List.mem_of_getElem? (i := 26) rfl))) (ty := (.array .byte)) (by decide)
  show own_Go p.tables e below _ (T1.setTop (mkF m 3 #[.val (.ref a1)] [(.ref b1)]))
  refine own_Go.by (fun tq kq => XS.dup X1.here hx rfl (hb hby d5_3) rfl rfl kq) ?_
  show own_Go p.tables e below _ (T1.setTop (mkF m 4 #[.val (.ref a1)] [(.ref b1), (.ref b1)]))
  obtain ⟨T4, X4, e4, st4⟩ := getS2 X1 hx hZ hown (host := "") (Or.inl (hw _ (List.mem_of_getElem? (i := 30) rfl))) Via.refl e1 (H0.ext O2.2) (g := (mkF m 4 #[.val (.ref a1)] [(.ref b1), (.ref b1)])) rfl (hb hby d5_4)
  refine own_Go.by st4 ?_
  show own_Go p.tables e below _ (T4.setTop (mkF m 7 #[.val (.ref a1)] [(.ref aV), (.ref b1), (.ref b1)]))
  refine own_Go.by (fun tq kq => XS.aloadN X4.here hx rfl (hb hby d5_7) rfl rfl kq) ?_
  show own_Go p.tables e below _ (T4.setTop (mkF m 8 #[.val (.ref a1)] [(.ref a1), (.ref aV), (.ref b1), (.ref b1)]))
  obtain ⟨a5, T5, h5, k5, X5, e5, E5, hS5, hk5, hZ5, hown5, st5⟩ := ldcS (s := s) (vm0 := s.vm) X4 hx hZ hown (hw _ (List.mem_of_getElem? (i := 32) rfl)) (fun d hd => hw d (own_wS d hd)) e4 hS0 (Nat.zero_le _) (g := (mkF m 8 #[.val (.ref a1)] [(.ref a1), (.ref aV), (.ref b1), (.ref b1)])) rfl (hb hby d5_8) (n := 16) (by decide) (by decide) (by decide) (by decide)
  refine own_Go.by st5 ?_
  have O6 := O2.ext E5
  have K6 := K2.ext E5
  show own_Go p.tables e below _ (T5.setTop (mkF m 10 #[.val (.ref a1)] [(.ref a5), (.ref a1), (.ref aV), (.ref b1), (.ref b1)]))
  obtain ⟨_, _, ⟨T7, L7, k7, n7⟩, -, X7, ⟨Lc7, hQ7, l7, y7, z7⟩, st7⟩ := Jvm.LawKit.callS X5 hx (y := (⟨"java/util/Objects", "requireNonNull", "(Ljava/lang/Object;Ljava/lang/String;)Ljava/lang/Object;"⟩ : MethodName)) hown5 (mvT hZ5 (hw _ (List.mem_of_getElem? (i := 39) rfl))) (mvT hZ5 (hw _ (List.mem_of_getElem? (i := 40) rfl))) (mvT hZ5 (hw _ (List.mem_of_getElem? (i := 41) rfl))) (mvT hZ5 (hw _ (List.mem_of_getElem? (i := 42) rfl))) (by decide) (backOf (W := 3) (rm6 l Z a0 hw [] a1 a5 h5 n0 O6 ) hZ5 (hw _ (List.mem_of_getElem? (i := 42) rfl)) (hw _ (List.mem_of_getElem? (i := 41) rfl)) (by decide) (by decide)) (g := (mkF m 10 #[.val (.ref a1)] [(.ref a5), (.ref a1), (.ref aV), (.ref b1), (.ref b1)])) rfl (by rw [hml]; rfl) (argsL := [(.ref a1), (.ref a5)]) (rest := [(.ref aV), (.ref b1), (.ref b1)]) (lenOf own_pd2 rfl) rfl (by show 2 * 0 + _ ≤ _; exact Nat.le_of_eq rfl) (hb hby d5_10) (fun _ _ => ⟨rfl, e5, (by decide : 3 + 0 ≤ _), (by decide : 22 + 0 ≤ _)⟩)
  dsimp only [Pt.U, Pt.locs, Pt.cells, Pt.slots] at X7 l7 y7 z7 st7 hQ7
  subst l7 y7 z7
  refine own_Go.by st7 ?_
  obtain ⟨rfl, N7q, e7⟩ := hQ7
  have N7 := Fr.app N0 N7q
  show own_Go p.tables e below _ (T7.setTop (mkF m 13 #[.val (.ref a1)] [(.ref a1), (.ref aV), (.ref b1), (.ref b1)]))
  have c8 := ((H1.ext E1).ext E5)
  obtain ⟨T9, X9, e9, st9⟩ := castY X7 hx hZ5 hown5 (hw _ (List.mem_of_getElem? (i := 43) rfl)) e7 (Ins.self c8) (g := (mkF m 13 #[.val (.ref a1)] [(.ref a1), (.ref aV), (.ref b1), (.ref b1)])) rfl rfl (hb hby d5_13)
  refine own_Go.by st9 ?_
  show own_Go p.tables e below _ (T9.setTop (mkF m 16 #[.val (.ref a1)] [(.ref a1), (.ref aV), (.ref b1), (.ref b1)]))
  have c11 := (A1.ext E5)
  have c12 := (F1_vote.ext E5)
  have c13 := (F1_redo.ext E5)
  obtain ⟨_, _, ⟨T10, L10, k10, n10⟩, -, X10, ⟨Lc10, hQ10, l10, y10, z10⟩, st10⟩ := X9.specialBack hx (y := (⟨"com/example/concordat/concordat/core/Preparation", "<init>", "(Lcom/example/concordat/concordat/core/Vote;[B)V"⟩ : MethodName)) rfl hown5 (mvT hZ5 (hw _ (List.mem_of_getElem? (i := 12) rfl))) (mvT hZ5 (hw _ (List.mem_of_getElem? (i := 13) rfl))) (mvT hZ5 (hw _ (List.mem_of_getElem? (i := 14) rfl))) (by decide) (backOf (W := 1) (rm2 l Z a0 hw [] b1 aV a1 h5 n0 O6 c11 c12 c13 g3) hZ5 (hw _ (List.mem_of_getElem? (i := 14) rfl)) (hw _ (List.mem_of_getElem? (i := 3) rfl)) (by decide) (by decide)) (g := (mkF m 16 #[.val (.ref a1)] [(.ref a1), (.ref aV), (.ref b1), (.ref b1)])) rfl (by rw [hml]; rfl) (Steps.refl _) (a := b1) (argsL := [(.ref aV), (.ref a1)]) (rest := [(.ref b1)]) (lenOf own_pd1 rfl) rfl (by show 2 * 0 + _ ≤ _; exact Nat.le_of_eq rfl) (hb hby d5_16) (fun _ _ => ⟨rfl, e9, (by decide : 3 + 0 ≤ _), (by decide : 22 + 0 ≤ _)⟩)
  dsimp only [Pt.U, Pt.locs, Pt.cells, Pt.slots] at X10 l10 y10 z10 st10 hQ10
  subst l10 y10 z10
  refine own_Go.by (fun tq kq => st10.trans kq) ?_
  obtain ⟨rfl, N10q, K10q, p10_0, p10_1, p10_2⟩ := hQ10
  have N10 := Fr.app N7 N10q
  have O14 := O6.keep K10q (allS g3 all0)
  have K14 := K6.trans K10q (allS (Or.inr z3) all0)
  have hk_14 := Nat.le_trans hk5 K10q.1
  show own_Go p.tables e below _ (T10.setTop (mkF m 19 #[.val (.ref a1)] [(.ref b1)]))
  obtain ⟨fs, hr, hrun, hended, hRE⟩ := Stand.leaveW (s := s) (vm₁ := T5.vm) X10 hS5 hk_14 (v := some (.ref b1)) (fun h => by rw [Bd.returns] at h; cases h)
  refine own_Go.fin (retOut X10 hx Bd.returns rfl (Or.inr (Or.inr (Or.inr (Or.inr ⟨rfl, rfl, rfl⟩)))) (hb hby d5_19) hr) ⟨hrun, hended, _, _, rfl, ?_, own_rew hRE (by decide) (by decide)⟩
  show Q5 Z a1 aV h0 n0 _ T10.heap _
  exact ⟨b1, rfl, N10, K14, z3, p10_0, p10_1, p10_2⟩

theorem d8_0 : decode prog_4_method_8_code 0 = .ok (.aload_n 0, 1) := by decide +kernel
theorem d8_1 : decode prog_4_method_8_code 1 = .ok (.getfield 7, 3) := by decide +kernel
theorem d8_4 : decode prog_4_method_8_code 4 = .ok (.areturn, 1) := by decide +kernel
theorem own_ef_8 (m : MethodId) (a1 : Addr) : entryFrame m #[(.ref a1)] 1 = mkF m 0 #[.val (.ref a1)] [] := by first | (simp [entryFrame, mkF, argsToLocals, Value.category]; done) | rfl
def Q8 (Z : State) (a1 : Addr) (a2 : Addr) (h0 : Heap) (n0 : Nat) (v : Option Value) (h : Heap) (L : List Loc) : Prop := v = some (.ref a2) ∧ Fr n0 L ∧ h = h0
set_option maxRecDepth 65536 in
set_option maxHeartbeats 40000000 in
theorem rm8 (l : Launch) (Z : State) (a0 : Array Value) (hw : ∀ d ∈ tables_1, d.before a0 Z = true) (ws : List Jvm.Cond) (a1 : Addr) (a2 : Addr) (h0 : Heap) (n0 : Nat) (O0 : Old Z n0 h0) (H0 : Fld Z h0 a1 "com/example/concordat/concordat/core/Preparation" "vote" "Lcom/example/concordat/concordat/core/Vote;" (.ref a2)) :
    MetFree l (⟨"com/example/concordat/concordat/core/Preparation", "vote", "()Lcom/example/concordat/concordat/core/Vote;"⟩ : MethodName) (head1 (Jvm.Cond.code (⟨"com/example/concordat/concordat/core/Preparation", "vote", "()Lcom/example/concordat/concordat/core/Vote;"⟩ : MethodName) prog_4_method_8_code 1 (some (.object "com/example/concordat/concordat/core/Vote")) :: ws) ({ frames := 0, cells := 0, slots := 0, locals := 0 } : Room)) (fun a U => a = #[(.ref a1)] ∧ Z.Warmed39 U.vm ∧ U.heap = h0) (fun _ _ _ _ _ => True) (fun _ U o U' => ∃ v L, o = .returned v ∧ Q8 Z a1 a2 h0 n0 v U'.heap L ∧ FrameEnd U o U' L ({ frames := 0, cells := 0, slots := 0, locals := 0 } : Room).cells ({ frames := 0, cells := 0, slots := 0, locals := 0 } : Room).slots) := by
  refine MetFree.of_bodySF (plainFor_of_name own_pn_com_example_concordat_concordat_core_Preparation) hisR ?_
  intro p e s m args below meth c s₁ Bd hml0 hP hK
  obtain ⟨rfl, hZ, hh⟩ := hP
  have hx := Bd.exec
  have hby := Bd.bytes
  have hml : c.maxLocals = 1 := hml0
  have hown : s.vm.findClass "com/example/concordat/concordat/core/Preparation" = some m.cls := findClass_of_methodNamed Bd.named
  have hnm := (name_of_methodNamed Bd.named Bd.method).1
  have X0 : Stand p l e ({ frames := 0, cells := 0, slots := 0, locals := 0 } : Room) s m #[(.ref a1)] below meth c s₁ [] 0 0 := Stand.of_body Bd
  have e0 : s₁.heap = h0 := by rw [← hh, Bd.state]; rfl
  have N0 := Fr.nil n0
  have K0 : Keep h0 h0 [] := Keep.refl h0 []
  show own_Go p.tables e below _ (s₁.setTop (entryFrame m #[(.ref a1)] 1))
  refine own_Go.by (fun tq kq => castTop (own_ef_8 m a1) kq) ?_
  show own_Go p.tables e below _ (s₁.setTop (mkF m 0 #[.val (.ref a1)] []))
  refine own_Go.by (fun tq kq => XS.aloadN X0.here hx rfl (hb hby d8_0) rfl rfl kq) ?_
  show own_Go p.tables e below _ (s₁.setTop (mkF m 1 #[.val (.ref a1)] [(.ref a1)]))
  obtain ⟨T1, X1, e1, st1⟩ := getF X0 hx hZ hown (host := "") (Or.inl (hw _ (List.mem_of_getElem? (i := 23) rfl))) Via.refl e0 H0 (g := (mkF m 1 #[.val (.ref a1)] [(.ref a1)])) rfl rfl (hb hby d8_1)
  refine own_Go.by st1 ?_
  show own_Go p.tables e below _ (T1.setTop (mkF m 4 #[.val (.ref a1)] [(.ref a2)]))
  obtain ⟨fs, hr, hrun, hended, hW, hsame⟩ := X1.leave (v := some (.ref a2)) (fun h => by rw [Bd.returns] at h; cases h)
  refine own_Go.fin (retOut X1 hx Bd.returns rfl (Or.inr (Or.inr (Or.inr (Or.inr ⟨rfl, rfl, rfl⟩)))) (hb hby d8_4) hr) ⟨hrun, hended, _, _, rfl, ?_, ⟨_, rfl⟩, hW, hsame.mono (by decide) (by decide)⟩
  show Q8 Z a1 a2 h0 n0 _ T1.heap _
  rw [e1]
  exact ⟨rfl, N0, rfl⟩

theorem d9_0 : decode prog_4_method_9_code 0 = .ok (.aload_n 0, 1) := by decide +kernel
theorem d9_1 : decode prog_4_method_9_code 1 = .ok (.getfield 13, 3) := by decide +kernel
theorem d9_4 : decode prog_4_method_9_code 4 = .ok (.areturn, 1) := by decide +kernel
theorem own_ef_9 (m : MethodId) (a1 : Addr) : entryFrame m #[(.ref a1)] 1 = mkF m 0 #[.val (.ref a1)] [] := by first | (simp [entryFrame, mkF, argsToLocals, Value.category]; done) | rfl
def Q9 (Z : State) (a1 : Addr) (a2 : Addr) (h0 : Heap) (n0 : Nat) (v : Option Value) (h : Heap) (L : List Loc) : Prop := v = some (.ref a2) ∧ Fr n0 L ∧ h = h0
set_option maxRecDepth 65536 in
set_option maxHeartbeats 40000000 in
theorem rm9 (l : Launch) (Z : State) (a0 : Array Value) (hw : ∀ d ∈ tables_1, d.before a0 Z = true) (ws : List Jvm.Cond) (a1 : Addr) (a2 : Addr) (h0 : Heap) (n0 : Nat) (O0 : Old Z n0 h0) (H0 : Fld Z h0 a1 "com/example/concordat/concordat/core/Preparation" "redo" "[B" (.ref a2)) :
    MetFree l (⟨"com/example/concordat/concordat/core/Preparation", "redo", "()[B"⟩ : MethodName) (head1 (Jvm.Cond.code (⟨"com/example/concordat/concordat/core/Preparation", "redo", "()[B"⟩ : MethodName) prog_4_method_9_code 1 (some (.array .byte)) :: ws) ({ frames := 0, cells := 0, slots := 0, locals := 0 } : Room)) (fun a U => a = #[(.ref a1)] ∧ Z.Warmed39 U.vm ∧ U.heap = h0) (fun _ _ _ _ _ => True) (fun _ U o U' => ∃ v L, o = .returned v ∧ Q9 Z a1 a2 h0 n0 v U'.heap L ∧ FrameEnd U o U' L ({ frames := 0, cells := 0, slots := 0, locals := 0 } : Room).cells ({ frames := 0, cells := 0, slots := 0, locals := 0 } : Room).slots) := by
  refine MetFree.of_bodySF (plainFor_of_name own_pn_com_example_concordat_concordat_core_Preparation) hisR ?_
  intro p e s m args below meth c s₁ Bd hml0 hP hK
  obtain ⟨rfl, hZ, hh⟩ := hP
  have hx := Bd.exec
  have hby := Bd.bytes
  have hml : c.maxLocals = 1 := hml0
  have hown : s.vm.findClass "com/example/concordat/concordat/core/Preparation" = some m.cls := findClass_of_methodNamed Bd.named
  have hnm := (name_of_methodNamed Bd.named Bd.method).1
  have X0 : Stand p l e ({ frames := 0, cells := 0, slots := 0, locals := 0 } : Room) s m #[(.ref a1)] below meth c s₁ [] 0 0 := Stand.of_body Bd
  have e0 : s₁.heap = h0 := by rw [← hh, Bd.state]; rfl
  have N0 := Fr.nil n0
  have K0 : Keep h0 h0 [] := Keep.refl h0 []
  show own_Go p.tables e below _ (s₁.setTop (entryFrame m #[(.ref a1)] 1))
  refine own_Go.by (fun tq kq => castTop (own_ef_9 m a1) kq) ?_
  show own_Go p.tables e below _ (s₁.setTop (mkF m 0 #[.val (.ref a1)] []))
  refine own_Go.by (fun tq kq => XS.aloadN X0.here hx rfl (hb hby d9_0) rfl rfl kq) ?_
  show own_Go p.tables e below _ (s₁.setTop (mkF m 1 #[.val (.ref a1)] [(.ref a1)]))
  obtain ⟨T1, X1, e1, st1⟩ := getF X0 hx hZ hown (host := "") (Or.inl (hw _ (List.mem_of_getElem? (i := 25) rfl))) Via.refl e0 H0 (g := (mkF m 1 #[.val (.ref a1)] [(.ref a1)])) rfl rfl (hb hby d9_1)
  refine own_Go.by st1 ?_
  show own_Go p.tables e below _ (T1.setTop (mkF m 4 #[.val (.ref a1)] [(.ref a2)]))
  obtain ⟨fs, hr, hrun, hended, hW, hsame⟩ := X1.leave (v := some (.ref a2)) (fun h => by rw [Bd.returns] at h; cases h)
  refine own_Go.fin (retOut X1 hx Bd.returns rfl (Or.inr (Or.inr (Or.inr (Or.inr ⟨rfl, rfl, rfl⟩)))) (hb hby d9_4) hr) ⟨hrun, hended, _, _, rfl, ?_, ⟨_, rfl⟩, hW, hsame.mono (by decide) (by decide)⟩
  show Q9 Z a1 a2 h0 n0 _ T1.heap _
  rw [e1]
  exact ⟨rfl, N0, rfl⟩

theorem own_pd3 : parseMethodDescriptor "()Lcom/example/concordat/concordat/core/Preparation;" = some ⟨[], some (.object "com/example/concordat/concordat/core/Preparation")⟩ := by decide +kernel
theorem own_pd4 : parseMethodDescriptor "([B)Lcom/example/concordat/concordat/core/Preparation;" = some ⟨[(.array .byte)], some (.object "com/example/concordat/concordat/core/Preparation")⟩ := by decide +kernel
theorem own_pd5 : parseMethodDescriptor "()Lcom/example/concordat/concordat/core/Vote;" = some ⟨[], some (.object "com/example/concordat/concordat/core/Vote")⟩ := by decide +kernel
theorem own_pd6 : parseMethodDescriptor "()[B" = some ⟨[], some (.array .byte)⟩ := by decide +kernel
theorem own_pn_com_example_concordat_concordat_core_PreparationNoPinLaw : plainName "com/example/concordat/concordat/core/PreparationNoPinLaw" = true := by first | (simp [plainName, overriddenIn]; done) | decide +kernel
theorem own_ef_0 (m : MethodId) (p1 : Int32) : entryFrame m #[(.int p1)] maxLocals = mkF m 0 #[.val (.int p1), .unset, .unset, .unset, .unset, .unset] [] := by first | (simp [entryFrame, mkF, argsToLocals, Value.category, maxLocals]; done) | rfl
def Q0 (Z : State) (p1 : Int32) (aNo : Addr) (aYes : Addr) (aRo : Addr) (aN : Addr) (cl : Cell) (h0 : Heap) (n0 : Nat) (v : Option Value) (h : Heap) (L : List Loc) : Prop := v = some (.int (1 : Int32)) ∧ Fr n0 L ∧ Keep h0 h []
set_option maxRecDepth 65536 in
set_option maxHeartbeats 40000000 in
theorem rm0 (l : Launch) (Z : State) (a0 : Array Value) (hw : ∀ d ∈ tables_1, d.before a0 Z = true) (ws : List Jvm.Cond) (p1 : Int32) (aNo : Addr) (aYes : Addr) (aRo : Addr) (aN : Addr) (cl : Cell) (h0 : Heap) (n0 : Nat) (O0 : Old Z n0 h0) (H0 : Sta Z Z.heap "com/example/concordat/concordat/core/Vote" "NO" "Lcom/example/concordat/concordat/core/Vote;" (.ref aNo)) (H1 : Sta Z Z.heap "com/example/concordat/concordat/core/Vote" "YES" "Lcom/example/concordat/concordat/core/Vote;" (.ref aYes)) (H2 : Sta Z Z.heap "com/example/concordat/concordat/core/Vote" "READ_ONLY" "Lcom/example/concordat/concordat/core/Vote;" (.ref aRo)) (H3 : Sta Z Z.heap "com/example/concordat/concordat/core/Preparation" "NOTHING" "[B" (.ref aN)) (H4 : Arr Z Z.heap aN cl .byte) (hS : cl.slots.size = (0 : Int32).toNatClampNeg) (hM : ¬ ((0 : Int32) < 0)) (H7 : aYes ≠ aNo) (H8 : aRo ≠ aNo) :
    MetFree l x (head1 (Jvm.Cond.code x code maxLocals ret :: ws) room_1) (fun a U => a = #[(.int p1)] ∧ Z.Warmed39 U.vm ∧ U.heap = h0) (fun _ _ _ _ _ => True) (fun _ U o U' => ∃ v L, o = .returned v ∧ Q0 Z p1 aNo aYes aRo aN cl h0 n0 v U'.heap L ∧ ReturnedEndW U o U' L room_1.cells room_1.slots) := by
  refine MetFree.of_bodySF (plainFor_of_name own_pn_com_example_concordat_concordat_core_PreparationNoPinLaw) hisR ?_
  intro p e s m args below meth c s₁ Bd hml0 hP hK
  obtain ⟨rfl, hZ, hh⟩ := hP
  have hx := Bd.exec
  have hby := Bd.bytes
  have hml : c.maxLocals = 6 := hml0
  have hown : s.vm.findClass "com/example/concordat/concordat/core/PreparationNoPinLaw" = some m.cls := findClass_of_methodNamed Bd.named
  have hnm := (name_of_methodNamed Bd.named Bd.method).1
  have X0 : Stand p l e room_1 s m #[(.int p1)] below meth c s₁ [] 0 0 := Stand.of_body Bd
  have e0 : s₁.heap = h0 := by rw [← hh, Bd.state]; rfl
  have hS0 : s.Since s.vm 0 := (State.WarmedH.refl s).since 0
  have N0 := Fr.nil n0
  have K0 : Keep h0 h0 [] := Keep.refl h0 []
  show own_Go p.tables e below _ (s₁.setTop (entryFrame m #[(.int p1)] maxLocals))
  refine own_Go.by (fun tq kq => castTop (own_ef_0 m p1) kq) ?_
  show own_Go p.tables e below _ (s₁.setTop (mkF m 0 #[.val (.int p1), .unset, .unset, .unset, .unset, .unset] []))
  refine own_Go.by (fun tq kq => XS.iconst X0.here hx rfl (hb hby at_0) kq) ?_
  show own_Go p.tables e below _ (s₁.setTop (mkF m 1 #[.val (.int p1), .unset, .unset, .unset, .unset, .unset] [(.int (1 : Int32))]))
  obtain ⟨T1, h1, k1, X1, e1, E1, A1, Ea1, st1⟩ := newPE X0 hx hZ (hw _ (List.mem_of_getElem? (i := 0) rfl)) e0 (g := (mkF m 1 #[.val (.int p1), .unset, .unset, .unset, .unset, .unset] [(.int (1 : Int32))])) rfl (hb hby at_1) rfl (by decide : ¬ ((1 : Int32) < (0 : Int32))) (cap := 1) (by decide : (1 : Int32).toNatClampNeg ≤ 1) (by decide) (by decide) (by decide) (ad := "[B") rfl
  obtain ⟨b1, y1⟩ : ∃ z, z = h0.size := ⟨_, rfl⟩
  rw [← y1] at A1 Ea1 st1
  refine own_Go.by st1 ?_
  have O2 := O0.ext E1
  have K2 := K0.ext E1
  have g3 : n0 ≤ b1 := Nat.le_trans (own_old_le O0) (Nat.le_of_eq y1.symm)
  have z3 : h0.size ≤ b1 := Nat.le_trans K0.1 (Nat.le_of_eq y1.symm)
  have V1 : Arv Z h1 b1 k1 .byte (1 : Int32) [(.int (0 : Int32))] (.int (0 : Int32)) := (Arv.new A1 (by decide : ¬ ((1 : Int32) < (0 : Int32)))).pad (pad_rep [] (.int (0 : Int32)) 1)
  show own_Go p.tables e below _ (T1.setTop (mkF m 3 #[.val (.int p1), .unset, .unset, .unset, .unset, .unset] [(.ref b1)]))
  refine own_Go.by (fun tq kq => XS.dup X1.here hx rfl (hb hby at_3) rfl rfl kq) ?_
  show own_Go p.tables e below _ (T1.setTop (mkF m 4 #[.val (.int p1), .unset, .unset, .unset, .unset, .unset] [(.ref b1), (.ref b1)]))
  refine own_Go.by (fun tq kq => XS.iconst X1.here hx rfl (hb hby at_4) kq) ?_
  show own_Go p.tables e below _ (T1.setTop (mkF m 5 #[.val (.int p1), .unset, .unset, .unset, .unset, .unset] [(.int (0 : Int32)), (.ref b1), (.ref b1)]))
  refine own_Go.by (fun tq kq => XS.iloadN X1.here hx rfl (hb hby at_5) rfl kq) ?_
  show own_Go p.tables e below _ (T1.setTop (mkF m 6 #[.val (.int p1), .unset, .unset, .unset, .unset, .unset] [(.int p1), (.int (0 : Int32)), (.ref b1), (.ref b1)]))
  refine own_Go.by (fun tq kq => XS.i2b X1.here hx rfl (hb hby at_6) rfl kq) ?_
  show own_Go p.tables e below _ (T1.setTop (mkF m 7 #[.val (.int p1), .unset, .unset, .unset, .unset, .unset] [(.int (p1.toInt8.toInt32)), (.int (0 : Int32)), (.ref b1), (.ref b1)]))
  obtain ⟨cl4, Ar4, q4, S4, M4, Hh4, G4⟩ := id V1
  obtain ⟨T5, h5, X5, e5, W5, st5⟩ := stB X1 hx hZ e1 Ar4 (j := (0 : Int32)) (inb_of S4 ⟨(by decide : ¬ ((0 : Int32) < (0 : Int32))), (by decide : (0 : Int32) < (1 : Int32))⟩) (g := (mkF m 7 #[.val (.int p1), .unset, .unset, .unset, .unset, .unset] [(.int (p1.toInt8.toInt32)), (.int (0 : Int32)), (.ref b1), (.ref b1)])) rfl rfl (hb hby at_7)
  refine own_Go.by st5 ?_
  have N5 := Fr.snoc X5 N0 g3
  have O6 := O2.wr W5 g3
  have K6 := K2.wr W5 (Or.inr z3)
  have V5 : Arv Z h5 b1 k1 .byte (1 : Int32) [(.int ((p1.toInt8.toInt32).toInt8.toInt32))] (.int (0 : Int32)) := Arv.set Ar4 q4 S4 M4 Hh4 G4 (fits_nar_byte _) W5 0 rfl (Nat.le_of_ble_eq_true rfl)
  show own_Go p.tables e below _ (T5.setTop (mkF m 8 #[.val (.int p1), .unset, .unset, .unset, .unset, .unset] [(.ref b1)]))
  refine own_Go.by (fun tq kq => XS.astoreN X5.here hx rfl (hb hby at_8) rfl rfl (l' := #[.val (.int p1), .val (.ref b1), .unset, .unset, .unset, .unset]) rfl kq) ?_
  show own_Go p.tables e below _ (T5.setTop (mkF m 9 #[.val (.int p1), .val (.ref b1), .unset, .unset, .unset, .unset] []))
  obtain ⟨_, _, ⟨T7, L7, k7, n7⟩, -, X7, ⟨Lc7, hQ7, l7, y7, z7⟩, st7⟩ := Jvm.LawKit.callS X5 hx (y := (⟨"com/example/concordat/concordat/core/Preparation", "no", "()Lcom/example/concordat/concordat/core/Preparation;"⟩ : MethodName)) hown (mvT hZ (hw _ (List.mem_of_getElem? (i := 1) rfl))) (mvT hZ (hw _ (List.mem_of_getElem? (i := 2) rfl))) (mvT hZ (hw _ (List.mem_of_getElem? (i := 3) rfl))) (mvT hZ (hw _ (List.mem_of_getElem? (i := 4) rfl))) (by decide) (backOf (W := 0) (rm1 l Z a0 hw [] aNo aN h5 n0 O6 H0 H3) hZ (hw _ (List.mem_of_getElem? (i := 4) rfl)) (hw _ (List.mem_of_getElem? (i := 3) rfl)) (by decide) (by decide)) (g := (mkF m 9 #[.val (.int p1), .val (.ref b1), .unset, .unset, .unset, .unset] [])) rfl (by rw [hml]; rfl) (argsL := []) (rest := []) (lenOf own_pd3 rfl) rfl (by show 2 * 0 + _ ≤ _; exact Nat.le_of_eq rfl) (hb hby at_9) (fun _ _ => ⟨rfl, e5, (by decide : 1 + 1 ≤ _), (by decide : 1 + 2 ≤ _)⟩)
  dsimp only [Pt.U, Pt.locs, Pt.cells, Pt.slots] at X7 l7 y7 z7 st7 hQ7
  subst l7 y7 z7
  refine own_Go.by st7 ?_
  obtain ⟨b_7, rfl, N7q, K7q, p7_0, p7_1, p7_2, p7_3⟩ := hQ7
  have N7 := Fr.app N5 N7q
  have O8 := O6.keep K7q all0
  have K8 := K6.trans K7q all0
  have g9 : n0 ≤ b_7 := Nat.le_trans (own_old_le O6) p7_0
  have z9 : h0.size ≤ b_7 := Nat.le_trans K6.1 p7_0
  show own_Go p.tables e below _ (T7.setTop (mkF m 12 #[.val (.int p1), .val (.ref b1), .unset, .unset, .unset, .unset] [(.ref b_7)]))
  refine own_Go.by (fun tq kq => XS.astoreN X7.here hx rfl (hb hby at_12) rfl rfl (l' := #[.val (.int p1), .val (.ref b1), .val (.ref b_7), .unset, .unset, .unset]) rfl kq) ?_
  show own_Go p.tables e below _ (T7.setTop (mkF m 13 #[.val (.int p1), .val (.ref b1), .val (.ref b_7), .unset, .unset, .unset] []))
  refine own_Go.by (fun tq kq => XS.aloadN X7.here hx rfl (hb hby at_13) rfl rfl kq) ?_
  show own_Go p.tables e below _ (T7.setTop (mkF m 14 #[.val (.int p1), .val (.ref b1), .val (.ref b_7), .unset, .unset, .unset] [(.ref b1)]))
  have c11 := ((Ea1.wr W5).keep K7q)
  obtain ⟨_, _, ⟨T10, L10, k10, n10⟩, -, X10, hs10, hg10, ⟨Lc10, hQ10, l10, y10, z10⟩, st10⟩ := Jvm.RoadKit.callSS X7 hx (y := (⟨"com/example/concordat/concordat/core/Preparation", "yes", "([B)Lcom/example/concordat/concordat/core/Preparation;"⟩ : MethodName)) hown (mvT hZ (hw _ (List.mem_of_getElem? (i := 27) rfl))) (mvT hZ (hw _ (List.mem_of_getElem? (i := 28) rfl))) (mvT hZ (hw _ (List.mem_of_getElem? (i := 3) rfl))) (mvT hZ (hw _ (List.mem_of_getElem? (i := 29) rfl))) (by decide) (backOfS (W := 0) (rm5 l Z a0 hw [] b1 aYes T7.heap n0 O8 H1 c11) hZ (hw _ (List.mem_of_getElem? (i := 29) rfl)) (hw _ (List.mem_of_getElem? (i := 3) rfl)) (by decide) (by decide)) (g := (mkF m 14 #[.val (.int p1), .val (.ref b1), .val (.ref b_7), .unset, .unset, .unset] [(.ref b1)])) rfl (by rw [hml]; rfl) (argsL := [(.ref b1)]) (rest := []) (lenOf own_pd4 rfl) rfl (by show 2 * 0 + _ ≤ _; exact Nat.le_of_eq rfl) (hb hby at_14) (fun _ _ => ⟨rfl, rfl, (by decide : 2 + 3 ≤ _), (by decide : 3 + 22 ≤ _)⟩)
  dsimp only [Pt.U, Pt.locs, Pt.cells, Pt.slots] at X10 l10 y10 z10 st10 hQ10 hs10 hg10
  subst l10 y10 z10
  obtain ⟨X10, hS10, hZ10, hown10⟩ := rebS (s := s) (vm0 := s.vm) hS0 (Nat.zero_le _) X10 hs10 hg10 hZ hown
  refine own_Go.by (fun tq kq => st10.trans kq) ?_
  obtain ⟨b_10, rfl, N10q, K10q, p10_0, p10_1, p10_2, p10_3⟩ := hQ10
  have N10 := Fr.app N7 N10q
  have O12 := O8.keep K10q all0
  have K12 := K8.trans K10q all0
  have g13 : n0 ≤ b_10 := Nat.le_trans (own_old_le O8) p10_0
  have z13 : h0.size ≤ b_10 := Nat.le_trans K8.1 p10_0
  show own_Go p.tables e below _ (T10.setTop (mkF m 17 #[.val (.int p1), .val (.ref b1), .val (.ref b_7), .unset, .unset, .unset] [(.ref b_10)]))
  refine own_Go.by (fun tq kq => XS.astoreN X10.here hx rfl (hb hby at_17) rfl rfl (l' := #[.val (.int p1), .val (.ref b1), .val (.ref b_7), .val (.ref b_10), .unset, .unset]) rfl kq) ?_
  show own_Go p.tables e below _ (T10.setTop (mkF m 18 #[.val (.int p1), .val (.ref b1), .val (.ref b_7), .val (.ref b_10), .unset, .unset] []))
  obtain ⟨_, _, ⟨T14, L14, k14, n14⟩, -, X14, ⟨Lc14, hQ14, l14, y14, z14⟩, st14⟩ := Jvm.LawKit.callS X10 hx (y := (⟨"com/example/concordat/concordat/core/Preparation", "readOnly", "()Lcom/example/concordat/concordat/core/Preparation;"⟩ : MethodName)) hown10 (mvT hZ10 (hw _ (List.mem_of_getElem? (i := 45) rfl))) (mvT hZ10 (hw _ (List.mem_of_getElem? (i := 46) rfl))) (mvT hZ10 (hw _ (List.mem_of_getElem? (i := 3) rfl))) (mvT hZ10 (hw _ (List.mem_of_getElem? (i := 47) rfl))) (by decide) (backOf (W := 0) (rm7 l Z a0 hw [] aRo aN T10.heap n0 O12 H2 H3) hZ10 (hw _ (List.mem_of_getElem? (i := 47) rfl)) (hw _ (List.mem_of_getElem? (i := 3) rfl)) (by decide) (by decide)) (g := (mkF m 18 #[.val (.int p1), .val (.ref b1), .val (.ref b_7), .val (.ref b_10), .unset, .unset] [])) rfl (by rw [hml]; rfl) (argsL := []) (rest := []) (lenOf own_pd3 rfl) rfl (by show 2 * 0 + _ ≤ _; exact Nat.le_of_eq rfl) (hb hby at_18) (fun _ _ => ⟨rfl, rfl, (by decide : 5 + 1 ≤ _), (by decide : 25 + 2 ≤ _)⟩)
  dsimp only [Pt.U, Pt.locs, Pt.cells, Pt.slots] at X14 l14 y14 z14 st14 hQ14
  subst l14 y14 z14
  refine own_Go.by st14 ?_
  obtain ⟨b_14, rfl, N14q, K14q, p14_0, p14_1, p14_2, p14_3⟩ := hQ14
  have N14 := Fr.app N10 N14q
  have O15 := O12.keep K14q all0
  have K15 := K12.trans K14q all0
  have hk_15 := K14q.1
  have g16 : n0 ≤ b_14 := Nat.le_trans (own_old_le O12) p14_0
  have z16 : h0.size ≤ b_14 := Nat.le_trans K12.1 p14_0
  show own_Go p.tables e below _ (T14.setTop (mkF m 21 #[.val (.int p1), .val (.ref b1), .val (.ref b_7), .val (.ref b_10), .unset, .unset] [(.ref b_14)]))
  refine own_Go.by (fun tq kq => XS.astore X14.here hx rfl (hb hby at_21) rfl rfl (l' := #[.val (.int p1), .val (.ref b1), .val (.ref b_7), .val (.ref b_10), .val (.ref b_14), .unset]) rfl kq) ?_
  show own_Go p.tables e below _ (T14.setTop (mkF m 23 #[.val (.int p1), .val (.ref b1), .val (.ref b_7), .val (.ref b_10), .val (.ref b_14), .unset] []))
  refine own_Go.by (fun tq kq => XS.aloadN X14.here hx rfl (hb hby at_23) rfl rfl kq) ?_
  show own_Go p.tables e below _ (T14.setTop (mkF m 24 #[.val (.int p1), .val (.ref b1), .val (.ref b_7), .val (.ref b_10), .val (.ref b_14), .unset] [(.ref b_7)]))
  have c18 := ((p7_2.keep K10q nin0).keep K14q nin0)
  have c19 := ((p7_1.keep K10q).keep K14q)
  obtain ⟨cq17, kq17, q17a, q17b, q17c⟩ := isOf hZ10 rfl c19
  obtain ⟨_, _, ⟨T17, L17, k17, n17⟩, -, X17, ⟨Lc17, hQ17, l17, y17, z17⟩, st17⟩ := X14.virtualBack hx (y := (⟨"com/example/concordat/concordat/core/Preparation", "vote", "()Lcom/example/concordat/concordat/core/Vote;"⟩ : MethodName)) (z := (⟨"com/example/concordat/concordat/core/Preparation", "vote", "()Lcom/example/concordat/concordat/core/Vote;"⟩ : MethodName)) hown10 (mvT hZ10 (hw _ (List.mem_of_getElem? (i := 50) rfl))) (mvT hZ10 (hw _ (List.mem_of_getElem? (i := 51) rfl))) (notFace_of_selects (args := #[]) (mvT hZ10 (hw _ (List.mem_of_getElem? (i := 53) rfl)))) (mvT hZ10 (hw _ (List.mem_of_getElem? (i := 53) rfl))) (mvT hZ10 (hw _ (List.mem_of_getElem? (i := 52) rfl))) (by decide) (backOf (W := 0) (rm8 l Z a0 hw [] b_7 aNo T14.heap n0 O15 c18) hZ10 (hw _ (List.mem_of_getElem? (i := 54) rfl)) (hw _ (List.mem_of_getElem? (i := 3) rfl)) (by decide) (by decide)) q17a q17c (g := (mkF m 24 #[.val (.int p1), .val (.ref b1), .val (.ref b_7), .val (.ref b_10), .val (.ref b_14), .unset] [(.ref b_7)])) rfl (by rw [hml]; rfl) (Steps.refl _) (argsL := []) (rest := []) (lenOf own_pd5 rfl) rfl (by show 2 * 0 + _ ≤ _; exact Nat.le_of_eq rfl) (hb hby at_24) (fun _ _ => ⟨rfl, rfl, (by decide : 6 + 0 ≤ _), (by decide : 27 + 0 ≤ _)⟩)
  dsimp only [Pt.U, Pt.locs, Pt.cells, Pt.slots] at X17 l17 y17 z17 st17 hQ17
  subst l17 y17 z17
  refine own_Go.by (fun tq kq => st17.trans kq) ?_
  obtain ⟨rfl, N17q, e17⟩ := hQ17
  have N17 := Fr.app N14 N17q
  show own_Go p.tables e below _ (T17.setTop (mkF m 27 #[.val (.int p1), .val (.ref b1), .val (.ref b_7), .val (.ref b_10), .val (.ref b_14), .unset] [(.ref aNo)]))
  obtain ⟨T20, X20, e20, st20⟩ := getS2 X17 hx hZ10 hown10 (host := "") (Or.inl (hw _ (List.mem_of_getElem? (i := 55) rfl))) Via.refl e17 (H0.ext O15.2) (g := (mkF m 27 #[.val (.int p1), .val (.ref b1), .val (.ref b_7), .val (.ref b_10), .val (.ref b_14), .unset] [(.ref aNo)])) rfl (hb hby at_27)
  refine own_Go.by st20 ?_
  show own_Go p.tables e below _ (T20.setTop (mkF m 30 #[.val (.int p1), .val (.ref b1), .val (.ref b_7), .val (.ref b_10), .val (.ref b_14), .unset] [(.ref aNo), (.ref aNo)]))
  refine own_Go.by (fun tq kq => Jvm.RoadKit.acmp (g := (mkF m 30 #[.val (.int p1), .val (.ref b1), .val (.ref b_7), .val (.ref b_10), .val (.ref b_14), .unset] [(.ref aNo), (.ref aNo)])) X20 hx rfl rfl rfl (pc0 := 30) (pc' := 35) (same := true) rfl (hb hby at_30) rfl (decide_eq_true rfl) (by decide) (by decide) kq) ?_
  show own_Go p.tables e below _ (T20.setTop (mkF m 35 #[.val (.int p1), .val (.ref b1), .val (.ref b_7), .val (.ref b_10), .val (.ref b_14), .unset] []))
  refine own_Go.by (fun tq kq => XS.aloadN X20.here hx rfl (hb hby at_35) rfl rfl kq) ?_
  show own_Go p.tables e below _ (T20.setTop (mkF m 36 #[.val (.int p1), .val (.ref b1), .val (.ref b_7), .val (.ref b_10), .val (.ref b_14), .unset] [(.ref b_7)]))
  have c22 := ((p7_3.keep K10q nin0).keep K14q nin0)
  obtain ⟨cq21, kq21, q21a, q21b, q21c⟩ := isOf hZ10 e20 c19
  obtain ⟨_, _, ⟨T21, L21, k21, n21⟩, -, X21, ⟨Lc21, hQ21, l21, y21, z21⟩, st21⟩ := X20.virtualBack hx (y := (⟨"com/example/concordat/concordat/core/Preparation", "redo", "()[B"⟩ : MethodName)) (z := (⟨"com/example/concordat/concordat/core/Preparation", "redo", "()[B"⟩ : MethodName)) hown10 (mvT hZ10 (hw _ (List.mem_of_getElem? (i := 56) rfl))) (mvT hZ10 (hw _ (List.mem_of_getElem? (i := 57) rfl))) (notFace_of_selects (args := #[]) (mvT hZ10 (hw _ (List.mem_of_getElem? (i := 59) rfl)))) (mvT hZ10 (hw _ (List.mem_of_getElem? (i := 59) rfl))) (mvT hZ10 (hw _ (List.mem_of_getElem? (i := 58) rfl))) (by decide) (backOf (W := 0) (rm9 l Z a0 hw [] b_7 aN T14.heap n0 O15 c22) hZ10 (hw _ (List.mem_of_getElem? (i := 60) rfl)) (hw _ (List.mem_of_getElem? (i := 3) rfl)) (by decide) (by decide)) q21a q21c (g := (mkF m 36 #[.val (.int p1), .val (.ref b1), .val (.ref b_7), .val (.ref b_10), .val (.ref b_14), .unset] [(.ref b_7)])) rfl (by rw [hml]; rfl) (Steps.refl _) (argsL := []) (rest := []) (lenOf own_pd6 rfl) rfl (by show 2 * 0 + _ ≤ _; exact Nat.le_of_eq rfl) (hb hby at_36) (fun _ _ => ⟨rfl, e20, (by decide : 6 + 0 ≤ _), (by decide : 27 + 0 ≤ _)⟩)
  dsimp only [Pt.U, Pt.locs, Pt.cells, Pt.slots] at X21 l21 y21 z21 st21 hQ21
  subst l21 y21 z21
  refine own_Go.by (fun tq kq => st21.trans kq) ?_
  obtain ⟨rfl, N21q, e21⟩ := hQ21
  have N21 := Fr.app N17 N21q
  show own_Go p.tables e below _ (T21.setTop (mkF m 39 #[.val (.int p1), .val (.ref b1), .val (.ref b_7), .val (.ref b_10), .val (.ref b_14), .unset] [(.ref aN)]))
  refine own_Go.by (fun tq kq => XS.astore X21.here hx rfl (hb hby at_39) rfl rfl (l' := #[.val (.int p1), .val (.ref b1), .val (.ref b_7), .val (.ref b_10), .val (.ref b_14), .val (.ref aN)]) rfl kq) ?_
  show own_Go p.tables e below _ (T21.setTop (mkF m 41 #[.val (.int p1), .val (.ref b1), .val (.ref b_7), .val (.ref b_10), .val (.ref b_14), .val (.ref aN)] []))
  refine own_Go.by (fun tq kq => XS.aload X21.here hx rfl (hb hby at_41) rfl rfl kq) ?_
  show own_Go p.tables e below _ (T21.setTop (mkF m 43 #[.val (.int p1), .val (.ref b1), .val (.ref b_7), .val (.ref b_10), .val (.ref b_14), .val (.ref aN)] [(.ref aN)]))
  refine own_Go.by (fun tq kq => XS.ifnonnullYes X21.here hx rfl (pc0 := 43) (pc' := 48) rfl (hb hby at_43) rfl (by decide) (by decide) kq) ?_
  show own_Go p.tables e below _ (T21.setTop (mkF m 48 #[.val (.int p1), .val (.ref b1), .val (.ref b_7), .val (.ref b_10), .val (.ref b_14), .val (.ref aN)] []))
  refine own_Go.by (fun tq kq => XS.aload X21.here hx rfl (hb hby at_48) rfl rfl kq) ?_
  show own_Go p.tables e below _ (T21.setTop (mkF m 50 #[.val (.int p1), .val (.ref b1), .val (.ref b_7), .val (.ref b_10), .val (.ref b_14), .val (.ref aN)] [(.ref aN)]))
  refine own_Go.by (fun tq kq => X21.arraylength hx (by rw [e21]; exact (H4.ext O15.2).1) (State.isArrayOf_alike hZ10.alike (H4.ext O15.2).2.1) (g := (mkF m 50 #[.val (.int p1), .val (.ref b1), .val (.ref b_7), .val (.ref b_10), .val (.ref b_14), .val (.ref aN)] [(.ref aN)])) rfl rfl (hb hby at_50) _ kq) ?_
  rw [len_of hS hM]
  show own_Go p.tables e below _ (T21.setTop (mkF m 51 #[.val (.int p1), .val (.ref b1), .val (.ref b_7), .val (.ref b_10), .val (.ref b_14), .val (.ref aN)] [(.int (0 : Int32))]))
  refine own_Go.by (fun tq kq => XS.ifYes X21.here hx rfl (pc0 := 51) (pc' := 56) rfl (hb hby at_51) rfl ((if0 _ _).trans (teq (by decide : (0 : Int32) = (0 : Int32))).1) (by decide) (by decide) kq) ?_
  show own_Go p.tables e below _ (T21.setTop (mkF m 56 #[.val (.int p1), .val (.ref b1), .val (.ref b_7), .val (.ref b_10), .val (.ref b_14), .val (.ref aN)] []))
  refine own_Go.by (fun tq kq => XS.aloadN X21.here hx rfl (hb hby at_56) rfl rfl kq) ?_
  show own_Go p.tables e below _ (T21.setTop (mkF m 57 #[.val (.int p1), .val (.ref b1), .val (.ref b_7), .val (.ref b_10), .val (.ref b_14), .val (.ref aN)] [(.ref b_10)]))
  have c24 := (p10_2.keep K14q nin0)
  have c25 := (p10_1.keep K14q)
  obtain ⟨cq23, kq23, q23a, q23b, q23c⟩ := isOf hZ10 e21 c25
  obtain ⟨_, _, ⟨T23, L23, k23, n23⟩, -, X23, ⟨Lc23, hQ23, l23, y23, z23⟩, st23⟩ := X21.virtualBack hx (y := (⟨"com/example/concordat/concordat/core/Preparation", "vote", "()Lcom/example/concordat/concordat/core/Vote;"⟩ : MethodName)) (z := (⟨"com/example/concordat/concordat/core/Preparation", "vote", "()Lcom/example/concordat/concordat/core/Vote;"⟩ : MethodName)) hown10 (mvT hZ10 (hw _ (List.mem_of_getElem? (i := 50) rfl))) (mvT hZ10 (hw _ (List.mem_of_getElem? (i := 51) rfl))) (notFace_of_selects (args := #[]) (mvT hZ10 (hw _ (List.mem_of_getElem? (i := 53) rfl)))) (mvT hZ10 (hw _ (List.mem_of_getElem? (i := 53) rfl))) (mvT hZ10 (hw _ (List.mem_of_getElem? (i := 52) rfl))) (by decide) (backOf (W := 0) (rm8 l Z a0 hw [] b_10 aYes T14.heap n0 O15 c24) hZ10 (hw _ (List.mem_of_getElem? (i := 54) rfl)) (hw _ (List.mem_of_getElem? (i := 3) rfl)) (by decide) (by decide)) q23a q23c (g := (mkF m 57 #[.val (.int p1), .val (.ref b1), .val (.ref b_7), .val (.ref b_10), .val (.ref b_14), .val (.ref aN)] [(.ref b_10)])) rfl (by rw [hml]; rfl) (Steps.refl _) (argsL := []) (rest := []) (lenOf own_pd5 rfl) rfl (by show 2 * 0 + _ ≤ _; exact Nat.le_of_eq rfl) (hb hby at_57) (fun _ _ => ⟨rfl, e21, (by decide : 6 + 0 ≤ _), (by decide : 27 + 0 ≤ _)⟩)
  dsimp only [Pt.U, Pt.locs, Pt.cells, Pt.slots] at X23 l23 y23 z23 st23 hQ23
  subst l23 y23 z23
  refine own_Go.by (fun tq kq => st23.trans kq) ?_
  obtain ⟨rfl, N23q, e23⟩ := hQ23
  have N23 := Fr.app N21 N23q
  show own_Go p.tables e below _ (T23.setTop (mkF m 60 #[.val (.int p1), .val (.ref b1), .val (.ref b_7), .val (.ref b_10), .val (.ref b_14), .val (.ref aN)] [(.ref aYes)]))
  refine own_Go.by (fun tq kq => XS.aloadN X23.here hx rfl (hb hby at_60) rfl rfl kq) ?_
  show own_Go p.tables e below _ (T23.setTop (mkF m 61 #[.val (.int p1), .val (.ref b1), .val (.ref b_7), .val (.ref b_10), .val (.ref b_14), .val (.ref aN)] [(.ref b_7), (.ref aYes)]))
  obtain ⟨cq26, kq26, q26a, q26b, q26c⟩ := isOf hZ10 e23 c19
  obtain ⟨_, _, ⟨T26, L26, k26, n26⟩, -, X26, ⟨Lc26, hQ26, l26, y26, z26⟩, st26⟩ := X23.virtualBack hx (y := (⟨"com/example/concordat/concordat/core/Preparation", "vote", "()Lcom/example/concordat/concordat/core/Vote;"⟩ : MethodName)) (z := (⟨"com/example/concordat/concordat/core/Preparation", "vote", "()Lcom/example/concordat/concordat/core/Vote;"⟩ : MethodName)) hown10 (mvT hZ10 (hw _ (List.mem_of_getElem? (i := 50) rfl))) (mvT hZ10 (hw _ (List.mem_of_getElem? (i := 51) rfl))) (notFace_of_selects (args := #[]) (mvT hZ10 (hw _ (List.mem_of_getElem? (i := 53) rfl)))) (mvT hZ10 (hw _ (List.mem_of_getElem? (i := 53) rfl))) (mvT hZ10 (hw _ (List.mem_of_getElem? (i := 52) rfl))) (by decide) (backOf (W := 1) (rm8 l Z a0 hw [] b_7 aNo T14.heap n0 O15 c18) hZ10 (hw _ (List.mem_of_getElem? (i := 54) rfl)) (hw _ (List.mem_of_getElem? (i := 3) rfl)) (by decide) (by decide)) q26a q26c (g := (mkF m 61 #[.val (.int p1), .val (.ref b1), .val (.ref b_7), .val (.ref b_10), .val (.ref b_14), .val (.ref aN)] [(.ref b_7), (.ref aYes)])) rfl (by rw [hml]; rfl) (Steps.refl _) (argsL := []) (rest := [(.ref aYes)]) (lenOf own_pd5 rfl) rfl (by show 2 * 0 + _ ≤ _; exact Nat.le_of_eq rfl) (hb hby at_61) (fun _ _ => ⟨rfl, e23, (by decide : 6 + 0 ≤ _), (by decide : 27 + 0 ≤ _)⟩)
  dsimp only [Pt.U, Pt.locs, Pt.cells, Pt.slots] at X26 l26 y26 z26 st26 hQ26
  subst l26 y26 z26
  refine own_Go.by (fun tq kq => st26.trans kq) ?_
  obtain ⟨rfl, N26q, e26⟩ := hQ26
  have N26 := Fr.app N23 N26q
  show own_Go p.tables e below _ (T26.setTop (mkF m 64 #[.val (.int p1), .val (.ref b1), .val (.ref b_7), .val (.ref b_10), .val (.ref b_14), .val (.ref aN)] [(.ref aNo), (.ref aYes)]))
  refine own_Go.by (fun tq kq => Jvm.RoadKit.acmp (g := (mkF m 64 #[.val (.int p1), .val (.ref b1), .val (.ref b_7), .val (.ref b_10), .val (.ref b_14), .val (.ref aN)] [(.ref aNo), (.ref aYes)])) X26 hx rfl rfl rfl (pc0 := 64) (pc' := 67) (same := false) rfl (hb hby at_64) rfl (decide_eq_false fun q => H7 (Value.ref.inj q)) (by decide) (by decide) kq) ?_
  show own_Go p.tables e below _ (T26.setTop (mkF m 67 #[.val (.int p1), .val (.ref b1), .val (.ref b_7), .val (.ref b_10), .val (.ref b_14), .val (.ref aN)] []))
  refine own_Go.by (fun tq kq => XS.aload X26.here hx rfl (hb hby at_67) rfl rfl kq) ?_
  show own_Go p.tables e below _ (T26.setTop (mkF m 69 #[.val (.int p1), .val (.ref b1), .val (.ref b_7), .val (.ref b_10), .val (.ref b_14), .val (.ref aN)] [(.ref b_14)]))
  obtain ⟨cq27, kq27, q27a, q27b, q27c⟩ := isOf hZ10 e26 p14_1
  obtain ⟨_, _, ⟨T27, L27, k27, n27⟩, -, X27, ⟨Lc27, hQ27, l27, y27, z27⟩, st27⟩ := X26.virtualBack hx (y := (⟨"com/example/concordat/concordat/core/Preparation", "vote", "()Lcom/example/concordat/concordat/core/Vote;"⟩ : MethodName)) (z := (⟨"com/example/concordat/concordat/core/Preparation", "vote", "()Lcom/example/concordat/concordat/core/Vote;"⟩ : MethodName)) hown10 (mvT hZ10 (hw _ (List.mem_of_getElem? (i := 50) rfl))) (mvT hZ10 (hw _ (List.mem_of_getElem? (i := 51) rfl))) (notFace_of_selects (args := #[]) (mvT hZ10 (hw _ (List.mem_of_getElem? (i := 53) rfl)))) (mvT hZ10 (hw _ (List.mem_of_getElem? (i := 53) rfl))) (mvT hZ10 (hw _ (List.mem_of_getElem? (i := 52) rfl))) (by decide) (backOf (W := 0) (rm8 l Z a0 hw [] b_14 aRo T14.heap n0 O15 p14_2) hZ10 (hw _ (List.mem_of_getElem? (i := 54) rfl)) (hw _ (List.mem_of_getElem? (i := 3) rfl)) (by decide) (by decide)) q27a q27c (g := (mkF m 69 #[.val (.int p1), .val (.ref b1), .val (.ref b_7), .val (.ref b_10), .val (.ref b_14), .val (.ref aN)] [(.ref b_14)])) rfl (by rw [hml]; rfl) (Steps.refl _) (argsL := []) (rest := []) (lenOf own_pd5 rfl) rfl (by show 2 * 0 + _ ≤ _; exact Nat.le_of_eq rfl) (hb hby at_69) (fun _ _ => ⟨rfl, e26, (by decide : 6 + 0 ≤ _), (by decide : 27 + 0 ≤ _)⟩)
  dsimp only [Pt.U, Pt.locs, Pt.cells, Pt.slots] at X27 l27 y27 z27 st27 hQ27
  subst l27 y27 z27
  refine own_Go.by (fun tq kq => st27.trans kq) ?_
  obtain ⟨rfl, N27q, e27⟩ := hQ27
  have N27 := Fr.app N26 N27q
  show own_Go p.tables e below _ (T27.setTop (mkF m 72 #[.val (.int p1), .val (.ref b1), .val (.ref b_7), .val (.ref b_10), .val (.ref b_14), .val (.ref aN)] [(.ref aRo)]))
  refine own_Go.by (fun tq kq => XS.aloadN X27.here hx rfl (hb hby at_72) rfl rfl kq) ?_
  show own_Go p.tables e below _ (T27.setTop (mkF m 73 #[.val (.int p1), .val (.ref b1), .val (.ref b_7), .val (.ref b_10), .val (.ref b_14), .val (.ref aN)] [(.ref b_7), (.ref aRo)]))
  obtain ⟨cq28, kq28, q28a, q28b, q28c⟩ := isOf hZ10 e27 c19
  obtain ⟨_, _, ⟨T28, L28, k28, n28⟩, -, X28, ⟨Lc28, hQ28, l28, y28, z28⟩, st28⟩ := X27.virtualBack hx (y := (⟨"com/example/concordat/concordat/core/Preparation", "vote", "()Lcom/example/concordat/concordat/core/Vote;"⟩ : MethodName)) (z := (⟨"com/example/concordat/concordat/core/Preparation", "vote", "()Lcom/example/concordat/concordat/core/Vote;"⟩ : MethodName)) hown10 (mvT hZ10 (hw _ (List.mem_of_getElem? (i := 50) rfl))) (mvT hZ10 (hw _ (List.mem_of_getElem? (i := 51) rfl))) (notFace_of_selects (args := #[]) (mvT hZ10 (hw _ (List.mem_of_getElem? (i := 53) rfl)))) (mvT hZ10 (hw _ (List.mem_of_getElem? (i := 53) rfl))) (mvT hZ10 (hw _ (List.mem_of_getElem? (i := 52) rfl))) (by decide) (backOf (W := 1) (rm8 l Z a0 hw [] b_7 aNo T14.heap n0 O15 c18) hZ10 (hw _ (List.mem_of_getElem? (i := 54) rfl)) (hw _ (List.mem_of_getElem? (i := 3) rfl)) (by decide) (by decide)) q28a q28c (g := (mkF m 73 #[.val (.int p1), .val (.ref b1), .val (.ref b_7), .val (.ref b_10), .val (.ref b_14), .val (.ref aN)] [(.ref b_7), (.ref aRo)])) rfl (by rw [hml]; rfl) (Steps.refl _) (argsL := []) (rest := [(.ref aRo)]) (lenOf own_pd5 rfl) rfl (by show 2 * 0 + _ ≤ _; exact Nat.le_of_eq rfl) (hb hby at_73) (fun _ _ => ⟨rfl, e27, (by decide : 6 + 0 ≤ _), (by decide : 27 + 0 ≤ _)⟩)
  dsimp only [Pt.U, Pt.locs, Pt.cells, Pt.slots] at X28 l28 y28 z28 st28 hQ28
  subst l28 y28 z28
  refine own_Go.by (fun tq kq => st28.trans kq) ?_
  obtain ⟨rfl, N28q, e28⟩ := hQ28
  have N28 := Fr.app N27 N28q
  show own_Go p.tables e below _ (T28.setTop (mkF m 76 #[.val (.int p1), .val (.ref b1), .val (.ref b_7), .val (.ref b_10), .val (.ref b_14), .val (.ref aN)] [(.ref aNo), (.ref aRo)]))
  refine own_Go.by (fun tq kq => Jvm.RoadKit.acmp (g := (mkF m 76 #[.val (.int p1), .val (.ref b1), .val (.ref b_7), .val (.ref b_10), .val (.ref b_14), .val (.ref aN)] [(.ref aNo), (.ref aRo)])) X28 hx rfl rfl rfl (pc0 := 76) (pc' := 79) (same := false) rfl (hb hby at_76) rfl (decide_eq_false fun q => H8 (Value.ref.inj q)) (by decide) (by decide) kq) ?_
  show own_Go p.tables e below _ (T28.setTop (mkF m 79 #[.val (.int p1), .val (.ref b1), .val (.ref b_7), .val (.ref b_10), .val (.ref b_14), .val (.ref aN)] []))
  refine own_Go.by (fun tq kq => XS.iconst X28.here hx rfl (hb hby at_79) kq) ?_
  show own_Go p.tables e below _ (T28.setTop (mkF m 80 #[.val (.int p1), .val (.ref b1), .val (.ref b_7), .val (.ref b_10), .val (.ref b_14), .val (.ref aN)] [(.int (1 : Int32))]))
  refine own_Go.by (fun tq kq => XS.goto X28.here hx rfl (pc0 := 80) (pc' := 84) rfl (hb hby at_80) (by decide) (by decide) kq) ?_
  show own_Go p.tables e below _ (T28.setTop (mkF m 84 #[.val (.int p1), .val (.ref b1), .val (.ref b_7), .val (.ref b_10), .val (.ref b_14), .val (.ref aN)] [(.int (1 : Int32))]))
  obtain ⟨fs, hr, hrun, hended, hRE⟩ := Stand.leaveW (s := s) (vm₁ := T10.vm) X28 hS10 (by rw [e28]; exact hk_15) (v := some (.int (nar .boolean (1 : Int32)))) (fun h => by rw [Bd.returns] at h; cases h)
  refine own_Go.fin (retN X28 hx (t := .boolean) Bd.returns (by simp) (hb hby at_84) hr) ⟨hrun, hended, _, _, rfl, ?_, own_rew hRE (by decide) (by decide)⟩
  show Q0 Z p1 aNo aYes aRo aN cl h0 n0 _ T28.heap _
  rw [e28]
  exact ⟨rfl, N28, K15⟩

theorem own_len0 {args : Array Value} {s : State} {t : Term} {a : Addr} {cl : Cell} (ht : t.eval args s none [] s = some (.ref a)) (ha : s.arrayAt? a = some cl) (h : (Jvm.Cond.eq (Term.length t) (Term.int (0 : Int32))).value args s none s [] = some true) : cl.slots.size = (0 : Int32).toNatClampNeg := by
  by_cases q : cl.slots.size < 2 ^ 31
  · have r := gotT (Cond.eq_ints (len_f ht ha q) rfl) h
    have e := congrArg Int32.toInt r
    rw [len_toInt q] at e
    have e1 : (0 : Int32).toInt = 0 := rfl
    rw [e1] at e
    show cl.slots.size = 0
    omega
  · exfalso
    simp [Cond.value, Term.eval, ht, ha, q] at h

set_option maxRecDepth 65536 in
set_option maxHeartbeats 40000000 in
theorem comes_1 {Post : Tables → Env → Array Value → State → Outcome → State → Prop} (hpost : ∀ tb e args s v u, (limb_1_1.after args s (.returned v) u = true ∧ limb_1_2.after args s (.returned v) u = true ∧ True) → ReturnedEndW s (.returned v) u (Jvm.fieldLocs frame_1_writes args s ++ Jvm.arrayLocs frame_1_arrays args s ++ Jvm.staticLocs frame_1_statics s) 24 1152 → Post tb e args s (.returned v) u) :
    ArmFor flags0 classFile x code maxLocals ret World_1 tables_1 room_1 Calls_1 rest_1 Pre_1 Post := by
  intro l hfl _ _ p e ha hc hk s m args below hf hA hF happ hP
  obtain ⟨hcalls, hrest, hpre⟩ := hP
  obtain ⟨-, -, -, hnamed, -, -, -, hat⟩ := (Spec.applies_iff hf).mp happ
  obtain ⟨hg, hn⟩ := and_e (Cond.before_iff.mp (show (Jvm.Cond.and given_1 narrow_1).before args s = true from hpre))
  obtain ⟨hcount, hg⟩ := and_e hg
  have hg0 := hg
  obtain ⟨w0, rfl⟩ : ∃ w0 : Value, args = #[w0] := by
    have hs : args.size = 1 := by simpa [Cond.value, given_1] using hcount
    obtain ⟨L⟩ := args
    match L, hs with
    | [w0], _ => exact ⟨w0, rfl⟩
  have hw := fun d (hd : d ∈ tables_1) => atoms_spec (ws := Jvm.Cond.code x code maxLocals ret :: tables_1) hat d (List.mem_cons_of_mem _ hd)
  have hfit : Fit s := fun {y c} hc i hi => by
    obtain ⟨ha, rfl⟩ := Array.getElem?_eq_some_iff.mp hc
    have q := List.all_eq_true.mp ((Array.all_eq_true_iff_forall_mem.mp hF) _ (Array.getElem_mem ha)) i (List.mem_range.mpr hi)
    simpa [Array.getElem?_eq_getElem hi] using q
  obtain ⟨i0, ei0⟩ := is_v hg0
  obtain rfl : w0 = (.int i0) := Option.some.inj ei0
  obtain ⟨hNo, hn⟩ := and_e hn
  obtain ⟨hNa, hn⟩ := and_e hn
  obtain ⟨hNl, hn⟩ := and_e hn
  obtain ⟨hYes, hn⟩ := and_e hn
  obtain ⟨hRo, hn⟩ := and_e hn
  obtain ⟨hO0, hn⟩ := and_e hn
  obtain ⟨hO1, hO2⟩ := and_e hn
  obtain ⟨aNo, eNo⟩ := exa_v hNo
  have SNo := Sta.start eNo (Or.inr ⟨(hw _ (List.mem_of_getElem? (i := 8) rfl)), (hw _ (List.mem_of_getElem? (i := 9) rfl))⟩)
  obtain ⟨aYes, eYes⟩ := exa_v hYes
  have SYes := Sta.start eYes (Or.inr ⟨(hw _ (List.mem_of_getElem? (i := 8) rfl)), (hw _ (List.mem_of_getElem? (i := 31) rfl))⟩)
  obtain ⟨aRo, eRo⟩ := exa_v hRo
  have SRo := Sta.start eRo (Or.inr ⟨(hw _ (List.mem_of_getElem? (i := 8) rfl)), (hw _ (List.mem_of_getElem? (i := 49) rfl))⟩)
  obtain ⟨aN, eN⟩ := arr_v hNa
  have SN := Sta.start eN (Or.inr ⟨(hw _ (List.mem_of_getElem? (i := 3) rfl)), (hw _ (List.mem_of_getElem? (i := 11) rfl))⟩)
  obtain ⟨cl, ArN⟩ := Arr.start eN hNa
  have hSz := own_len0 eN (ArN.fin (Vm.Alike.refl _)) hNl
  have FY := own_fldInt eYes hO0
  have FN := own_fldInt eNo hO1
  have FR := own_fldInt eRo hO2
  have ne1 := Fld.ne FY FN (by decide)
  have ne2 := Fld.ne FR FN (by decide)
  obtain ⟨n, o, h1, h2, h3, _, L, rfl, ⟨rfl, N, -⟩, hq⟩ := rm0 l s _ hw tables_1 i0 aNo aYes aRo aN cl s.heap s.heap.size (Old.start s) SNo SYes SRo SN ArN hSz (by decide) ne1 ne2 p e ha hc hk s m _ below hf ((Spec.applies_iff_loose hf).mp happ).1 ⟨rfl, State.Warmed39.refl s, rfl⟩ trivial
  refine ⟨n, _, h1, h2, h3, hpost _ _ _ _ _ _ ⟨Cond.after_iff.mpr rfl, Cond.after_iff.mpr (eq_i res_at (Term.int_eval (1)) rfl), trivial⟩ ⟨hq.1, hq.2.1, hq.2.2.1, (hq.2.2.2.sift fun y hy => Or.inr (N y hy)).mono (by decide) (by decide)⟩⟩
theorem main_1_1 : Claimed_1_1 := comes_1 fun _ _ _ _ _ _ h hF => ⟨h.1, hF⟩
theorem main_1_2 : Claimed_1_2 := comes_1 fun _ _ _ _ _ _ h hF => ⟨h.2.1, hF⟩
end Jvm.Pilot.@@N@@
namespace Jvm.Pilot.@@N@@
open Jvm Jvm.ClassFile Sem Op Lib Jvm.Free Jvm.Stand Jvm.Pilot.@@N@@.Jvm.D
/-! MADE BY PROGRAM (witnessworld.py) out of the Statement's table words and the real class files: 18 classes; the members and pool entries that the words name. The judged class is class 1, her method 1. -/
namespace start1
open Jvm.ClassFile
def u (s : String) : CpInfo := .utf8 (stringToUtf16 s)
/-- a pool by its gaps: so many unusable entries, then the entry; so many at the end -/
def gap : Nat → List CpInfo → List CpInfo
  | 0, r => r
  | n + 1, r => .unusable :: gap n r
def poolList (es : List (Nat × CpInfo)) (last : Nat) : List CpInfo := es.foldr (fun e r => gap e.1 (e.2 :: r)) (gap last [])
def pool (es : List (Nat × CpInfo)) (last : Nat) : Array CpInfo := ⟨poolList es last⟩
def fileOf (pool : Array CpInfo) (this : Nat) (attrs : Array Attribute := #[]) (ms : Array MethodInfo := #[]) (fl : Nat := 33) (sup : Nat := 0) (ifs : Array Nat := #[]) (fds : Array FieldInfo := #[]) : ClassFile where
  minorVersion := 0
  majorVersion := 65
  constantPool := pool
  accessFlags := fl
  thisClass := this
  superClass := sup
  interfaces := ifs
  fields := fds
  methods := ms
  attributes := attrs
def plain (name : String) (sup : Option ClassId) : Class where
  name := name
  kind := .ordinary
  loader := none
  accessFlags := 33
  super := sup
  interfaces := #[]
  cf := none
  fields := #[]
  methods := #[]
  instanceTypes := #[]
  staticTypes := #[]
  resolved := #[]
  callSites := []
  init := .initialized
  statics := none
  mirror := none

def pool0 : Array CpInfo := pool [(5, u "<init>"), (0, u "()V"), (1, .class_ 10), (1, u "java/lang/Object")] 113

def k0c0 : Code := { maxStack := 0, maxLocals := 1, code := object_method_1_code, exceptionTable := #[], attributes := #[] }
def k0m0 : Method := { name := "<init>", desc := "()V", sig := { parameters := [], returnType := none }, accessFlags := 1, code := some k0c0 }
/-- java/lang/Object -/
def k0 : Class := { plain "java/lang/Object" none with
  accessFlags := 33
  interfaces := #[]
  cf := some (fileOf pool0 8 #[] #[{ accessFlags := 1, nameIndex := 5, descriptorIndex := 6, attributes := #[] }] 33 0 #[] #[])
  fields := #[]
  methods := #[k0m0]
  instanceTypes := #[]
  staticTypes := #[]
  resolved := Array.replicate 124 none
  statics := none }

def pool1 : Array CpInfo := pool [(2, .class_ 4), (1, u "java/lang/Object"), (0, u "<init>"), (0, u "()V"), (0, .methodref 8 9), (0, .class_ 10), (0, .nameAndType 11 12), (0, u "com/example/concordat/concordat/core/Preparation"), (0, u "no"), (0, u "()Lcom/example/concordat/concordat/core/Preparation;"), (0, .methodref 8 14), (0, .nameAndType 15 16), (0, u "yes"), (0, u "([B)Lcom/example/concordat/concordat/core/Preparation;"), (0, .methodref 8 18), (0, .nameAndType 19 12), (0, u "readOnly"), (0, .methodref 8 21), (0, .nameAndType 22 23), (0, u "vote"), (0, u "()Lcom/example/concordat/concordat/core/Vote;"), (0, .fieldref 25 26), (0, .class_ 27), (0, .nameAndType 28 29), (0, u "com/example/concordat/concordat/core/Vote"), (0, u "NO"), (0, u "Lcom/example/concordat/concordat/core/Vote;"), (0, .methodref 8 31), (0, .nameAndType 32 33), (0, u "redo"), (0, u "()[B"), (0, .class_ 35), (0, u "com/example/concordat/concordat/core/PreparationNoPinLaw"), (2, u "law"), (0, u "(I)Z")] 5

def k1m0 : Method := { name := "<init>", desc := "()V", sig := { parameters := [], returnType := none }, accessFlags := 1, code := none }
def k1c1 : Code := { maxStack := 4, maxLocals := 6, code := code, exceptionTable := #[], attributes := #[] }
def k1m1 : Method := { name := "law", desc := "(I)Z", sig := { parameters := [.int], returnType := some .boolean }, accessFlags := 9, code := some k1c1 }
/-- com/example/concordat/concordat/core/PreparationNoPinLaw -/
def k1 : Class := { plain "com/example/concordat/concordat/core/PreparationNoPinLaw" (some 0) with
  accessFlags := 49
  interfaces := #[]
  cf := some (fileOf pool1 34 #[] #[{ accessFlags := 1, nameIndex := 5, descriptorIndex := 6, attributes := #[] }, { accessFlags := 9, nameIndex := 38, descriptorIndex := 39, attributes := #[] }] 49 2 #[] #[])
  fields := #[]
  methods := #[k1m0, k1m1]
  instanceTypes := #[]
  staticTypes := #[]
  resolved := Array.replicate 45 none
  statics := none }

def pool2 : Array CpInfo := pool [(1, .methodref 2 3), (0, .class_ 4), (0, .nameAndType 5 6), (0, u "java/lang/Object"), (0, u "<init>"), (0, u "()V"), (0, .class_ 8), (0, u "java/lang/Record")] 13

def k2c0 : Code := { maxStack := 1, maxLocals := 1, code := jdk_30_method_1_code, exceptionTable := #[], attributes := #[] }
def k2m0 : Method := { name := "<init>", desc := "()V", sig := { parameters := [], returnType := none }, accessFlags := 4, code := some k2c0 }
/-- java/lang/Record -/
def k2 : Class := { plain "java/lang/Record" (some 0) with
  accessFlags := 1057
  interfaces := #[]
  cf := some (fileOf pool2 7 #[] #[{ accessFlags := 4, nameIndex := 5, descriptorIndex := 6, attributes := #[] }] 1057 2 #[] #[])
  fields := #[]
  methods := #[k2m0]
  instanceTypes := #[]
  staticTypes := #[]
  resolved := Array.replicate 22 none
  statics := none }

def pool3 : Array CpInfo := pool [(1, .methodref 2 3), (0, .class_ 4), (0, .nameAndType 5 6), (0, u "java/lang/Record"), (0, u "<init>"), (0, u "()V"), (0, .fieldref 8 9), (0, .class_ 10), (0, .nameAndType 11 12), (0, u "com/example/concordat/concordat/core/Preparation"), (0, u "vote"), (0, u "Lcom/example/concordat/concordat/core/Vote;"), (0, .fieldref 8 14), (0, .nameAndType 15 16), (0, u "redo"), (0, u "[B"), (0, .fieldref 18 19), (0, .class_ 20), (0, .nameAndType 21 12), (0, u "com/example/concordat/concordat/core/Vote"), (0, u "READ_ONLY"), (0, .fieldref 8 23), (0, .nameAndType 24 16), (0, u "NOTHING"), (0, .methodref 8 26), (0, .nameAndType 5 27), (0, u "(Lcom/example/concordat/concordat/core/Vote;[B)V"), (0, .fieldref 18 29), (0, .nameAndType 30 12), (0, u "NO"), (0, .fieldref 18 32), (0, .nameAndType 33 12), (0, u "YES"), (0, .string 15), (0, .methodref 36 37), (0, .class_ 38), (0, .nameAndType 39 40), (0, u "java/util/Objects"), (0, u "requireNonNull"), (0, u "(Ljava/lang/Object;Ljava/lang/String;)Ljava/lang/Object;"), (0, .class_ 16), (15, u "readOnly"), (0, u "()Lcom/example/concordat/concordat/core/Preparation;"), (0, u "no"), (0, u "yes"), (0, u "([B)Lcom/example/concordat/concordat/core/Preparation;"), (3, u "()Lcom/example/concordat/concordat/core/Vote;"), (0, u "()[B")] 22

def k3c0 : Code := { maxStack := 2, maxLocals := 3, code := prog_4_method_1_code, exceptionTable := #[], attributes := #[] }
def k3m0 : Method := { name := "<init>", desc := "(Lcom/example/concordat/concordat/core/Vote;[B)V", sig := { parameters := [(.object "com/example/concordat/concordat/core/Vote"), (.array .byte)], returnType := none }, accessFlags := 1, code := some k3c0 }
def k3c1 : Code := { maxStack := 4, maxLocals := 0, code := prog_4_method_2_code, exceptionTable := #[], attributes := #[] }
def k3m1 : Method := { name := "readOnly", desc := "()Lcom/example/concordat/concordat/core/Preparation;", sig := { parameters := [], returnType := some (.object "com/example/concordat/concordat/core/Preparation") }, accessFlags := 9, code := some k3c1 }
def k3c2 : Code := { maxStack := 4, maxLocals := 0, code := prog_4_method_3_code, exceptionTable := #[], attributes := #[] }
def k3m2 : Method := { name := "no", desc := "()Lcom/example/concordat/concordat/core/Preparation;", sig := { parameters := [], returnType := some (.object "com/example/concordat/concordat/core/Preparation") }, accessFlags := 9, code := some k3c2 }
def k3c3 : Code := { maxStack := 5, maxLocals := 1, code := prog_4_method_4_code, exceptionTable := #[], attributes := #[] }
def k3m3 : Method := { name := "yes", desc := "([B)Lcom/example/concordat/concordat/core/Preparation;", sig := { parameters := [(.array .byte)], returnType := some (.object "com/example/concordat/concordat/core/Preparation") }, accessFlags := 9, code := some k3c3 }
def k3c4 : Code := { maxStack := 1, maxLocals := 1, code := prog_4_method_8_code, exceptionTable := #[], attributes := #[] }
def k3m4 : Method := { name := "vote", desc := "()Lcom/example/concordat/concordat/core/Vote;", sig := { parameters := [], returnType := some (.object "com/example/concordat/concordat/core/Vote") }, accessFlags := 1, code := some k3c4 }
def k3c5 : Code := { maxStack := 1, maxLocals := 1, code := prog_4_method_9_code, exceptionTable := #[], attributes := #[] }
def k3m5 : Method := { name := "redo", desc := "()[B", sig := { parameters := [], returnType := some (.array .byte) }, accessFlags := 1, code := some k3c5 }
/-- com/example/concordat/concordat/core/Preparation -/
def k3 : Class := { plain "com/example/concordat/concordat/core/Preparation" (some 2) with
  accessFlags := 49
  interfaces := #[]
  cf := some (fileOf pool3 8 #[] #[{ accessFlags := 1, nameIndex := 5, descriptorIndex := 27, attributes := #[] }, { accessFlags := 9, nameIndex := 57, descriptorIndex := 58, attributes := #[] }, { accessFlags := 9, nameIndex := 59, descriptorIndex := 58, attributes := #[] }, { accessFlags := 9, nameIndex := 60, descriptorIndex := 61, attributes := #[] }, { accessFlags := 1, nameIndex := 11, descriptorIndex := 65, attributes := #[] }, { accessFlags := 1, nameIndex := 15, descriptorIndex := 66, attributes := #[] }] 49 2 #[] #[{ accessFlags := 18, nameIndex := 11, descriptorIndex := 12, attributes := #[] }, { accessFlags := 18, nameIndex := 15, descriptorIndex := 16, attributes := #[] }, { accessFlags := 26, nameIndex := 24, descriptorIndex := 16, attributes := #[] }])
  fields := #[{ name := "vote", type := (.object "com/example/concordat/concordat/core/Vote"), accessFlags := 18, slot := 0, constantValue := 0 }, { name := "redo", type := (.array .byte), accessFlags := 18, slot := 1, constantValue := 0 }, { name := "NOTHING", type := (.array .byte), accessFlags := 26, slot := 0, constantValue := 0 }]
  methods := #[k3m0, k3m1, k3m2, k3m3, k3m4, k3m5]
  instanceTypes := #[(.object "com/example/concordat/concordat/core/Vote"), (.array .byte)]
  staticTypes := #[(.array .byte)]
  resolved := Array.replicate 89 none
  statics := some 0 }

def pool4 : Array CpInfo := pool [(1, .class_ 2), (0, u "java/lang/constant/Constable"), (0, .class_ 4), (0, u "java/lang/Object")] 6

/-- java/lang/constant/Constable -/
def k4 : Class := { plain "java/lang/constant/Constable" (some 0) with
  accessFlags := 1537
  interfaces := #[]
  cf := some (fileOf pool4 1 #[] #[] 1537 3 #[] #[])
  fields := #[]
  methods := #[]
  instanceTypes := #[]
  staticTypes := #[]
  resolved := Array.replicate 11 none
  statics := none }

def pool5 : Array CpInfo := pool [(1, .class_ 2), (0, u "java/lang/Comparable"), (0, .class_ 4), (0, u "java/lang/Object")] 7

/-- java/lang/Comparable -/
def k5 : Class := { plain "java/lang/Comparable" (some 0) with
  accessFlags := 1537
  interfaces := #[]
  cf := some (fileOf pool5 1 #[] #[] 1537 3 #[] #[])
  fields := #[]
  methods := #[]
  instanceTypes := #[]
  staticTypes := #[]
  resolved := Array.replicate 12 none
  statics := none }

def pool6 : Array CpInfo := pool [(1, .class_ 2), (0, u "java/io/Serializable"), (0, .class_ 4), (0, u "java/lang/Object")] 2

/-- java/io/Serializable -/
def k6 : Class := { plain "java/io/Serializable" (some 0) with
  accessFlags := 1537
  interfaces := #[]
  cf := some (fileOf pool6 1 #[] #[] 1537 3 #[] #[])
  fields := #[]
  methods := #[]
  instanceTypes := #[]
  staticTypes := #[]
  resolved := Array.replicate 7 none
  statics := none }

def pool7 : Array CpInfo := pool [(2, .class_ 4), (1, u "java/lang/Enum"), (0, u "name"), (0, u "Ljava/lang/String;"), (2, u "ordinal"), (0, u "I"), (1, .class_ 14), (1, u "java/lang/Object"), (4, u "hash"), (86, .class_ 108), (1, u "java/lang/Enum$EnumDesc"), (2, .class_ 112), (0, u "java/lang/constant/Constable"), (0, .class_ 114), (0, u "java/lang/Comparable"), (0, .class_ 116), (0, u "java/io/Serializable")] 87

/-- java/lang/Enum -/
def k7 : Class := { plain "java/lang/Enum" (some 0) with
  accessFlags := 1057
  interfaces := #[4, 5, 6]
  cf := some (fileOf pool7 2 #[.nestMembers #[106]] #[] 1057 12 #[111, 113, 115] #[{ accessFlags := 18, nameIndex := 5, descriptorIndex := 6, attributes := #[] }, { accessFlags := 18, nameIndex := 9, descriptorIndex := 10, attributes := #[] }, { accessFlags := 2, nameIndex := 19, descriptorIndex := 10, attributes := #[] }])
  fields := #[{ name := "name", type := (.object "java/lang/String"), accessFlags := 18, slot := 0, constantValue := 0 }, { name := "ordinal", type := .int, accessFlags := 18, slot := 1, constantValue := 0 }, { name := "hash", type := .int, accessFlags := 2, slot := 2, constantValue := 0 }]
  methods := #[]
  instanceTypes := #[(.object "java/lang/String"), .int, .int]
  staticTypes := #[]
  resolved := Array.replicate 204 none
  statics := none }

def pool8 : Array CpInfo := pool [(1, .class_ 2), (0, u "com/example/concordat/concordat/core/Vote"), (2, u "YES"), (0, u "Lcom/example/concordat/concordat/core/Vote;"), (2, u "NO"), (2, u "READ_ONLY"), (2, u "$VALUES"), (0, u "[Lcom/example/concordat/concordat/core/Vote;"), (6, .class_ 25), (1, u "java/lang/Enum")] 25

/-- com/example/concordat/concordat/core/Vote -/
def k8 : Class := { plain "com/example/concordat/concordat/core/Vote" (some 7) with
  accessFlags := 16433
  interfaces := #[]
  cf := some (fileOf pool8 1 #[] #[] 16433 23 #[] #[{ accessFlags := 16409, nameIndex := 5, descriptorIndex := 6, attributes := #[] }, { accessFlags := 16409, nameIndex := 9, descriptorIndex := 6, attributes := #[] }, { accessFlags := 16409, nameIndex := 12, descriptorIndex := 6, attributes := #[] }, { accessFlags := 4122, nameIndex := 15, descriptorIndex := 16, attributes := #[] }])
  fields := #[{ name := "YES", type := (.object "com/example/concordat/concordat/core/Vote"), accessFlags := 16409, slot := 0, constantValue := 0 }, { name := "NO", type := (.object "com/example/concordat/concordat/core/Vote"), accessFlags := 16409, slot := 1, constantValue := 0 }, { name := "READ_ONLY", type := (.object "com/example/concordat/concordat/core/Vote"), accessFlags := 16409, slot := 2, constantValue := 0 }, { name := "$VALUES", type := (.array (.object "com/example/concordat/concordat/core/Vote")), accessFlags := 4122, slot := 3, constantValue := 0 }]
  methods := #[]
  instanceTypes := #[(.object "java/lang/String"), .int, .int]
  staticTypes := #[(.object "com/example/concordat/concordat/core/Vote"), (.object "com/example/concordat/concordat/core/Vote"), (.object "com/example/concordat/concordat/core/Vote"), (.array (.object "com/example/concordat/concordat/core/Vote"))]
  resolved := Array.replicate 51 none
  statics := some 1 }

def pool9 : Array CpInfo := pool [(2, .class_ 4), (1, u "java/lang/CharSequence"), (42, .class_ 48), (0, u "java/lang/CharSequence$1CodePointIterator"), (10, .class_ 60), (0, u "java/lang/CharSequence$1CharIterator"), (5, .class_ 67), (0, u "java/lang/Object")] 63

/-- java/lang/CharSequence -/
def k9 : Class := { plain "java/lang/CharSequence" (some 0) with
  accessFlags := 1537
  interfaces := #[]
  cf := some (fileOf pool9 2 #[.nestMembers #[47, 59]] #[] 1537 66 #[] #[])
  fields := #[]
  methods := #[]
  instanceTypes := #[]
  staticTypes := #[]
  resolved := Array.replicate 131 none
  statics := none }

def pool10 : Array CpInfo := pool [(1, .class_ 2), (0, u "java/lang/constant/ConstantDesc"), (0, .class_ 4), (0, u "java/lang/Object")] 32

/-- java/lang/constant/ConstantDesc -/
def k10 : Class := { plain "java/lang/constant/ConstantDesc" (some 0) with
  accessFlags := 1537
  interfaces := #[]
  cf := some (fileOf pool10 1 #[] #[] 1537 3 #[] #[])
  fields := #[]
  methods := #[]
  instanceTypes := #[]
  staticTypes := #[]
  resolved := Array.replicate 37 none
  statics := none }

def pool11 : Array CpInfo := pool [(2, .class_ 4), (1, u "java/lang/Object"), (0, u "<init>"), (0, u "()V"), (3, .class_ 12), (1, u "java/lang/String"), (0, u "value"), (0, u "[B"), (2, u "coder"), (0, u "B"), (2, u "hash"), (0, u "I"), (2, u "hashIsZero"), (0, u "Z"), (13, u "COMPACT_STRINGS"), (534, .class_ 576), (0, u "java/lang/CharSequence"), (22, u "CASE_INSENSITIVE_ORDER"), (0, u "Ljava/util/Comparator;"), (500, u "serialPersistentFields"), (0, u "[Ljava/io/ObjectStreamField;"), (0, .class_ 1104), (0, u "java/lang/String$CaseInsensitiveComparator"), (1, .class_ 1107), (0, u "java/io/Serializable"), (0, .class_ 1109), (0, u "java/lang/Comparable"), (0, .class_ 1111), (0, u "java/lang/constant/Constable"), (0, .class_ 1113), (0, u "java/lang/constant/ConstantDesc"), (2, u "serialVersionUID"), (0, u "J"), (3, u "REPL"), (0, u "C"), (2, u "LATIN1"), (1, u "UTF16")] 323

def k11m0 : Method := { name := "<init>", desc := "()V", sig := { parameters := [], returnType := none }, accessFlags := 1, code := none }
/-- java/lang/String -/
def k11 : Class := { plain "java/lang/String" (some 0) with
  accessFlags := 49
  interfaces := #[6, 5, 9, 4, 10]
  cf := some (fileOf pool11 10 #[.nestMembers #[1103]] #[{ accessFlags := 1, nameIndex := 5, descriptorIndex := 6, attributes := #[] }] 49 2 #[1106, 1108, 575, 1110, 1112] #[{ accessFlags := 18, nameIndex := 13, descriptorIndex := 14, attributes := #[] }, { accessFlags := 18, nameIndex := 17, descriptorIndex := 18, attributes := #[] }, { accessFlags := 2, nameIndex := 21, descriptorIndex := 22, attributes := #[] }, { accessFlags := 2, nameIndex := 25, descriptorIndex := 26, attributes := #[] }, { accessFlags := 26, nameIndex := 1116, descriptorIndex := 1117, attributes := #[] }, { accessFlags := 24, nameIndex := 40, descriptorIndex := 26, attributes := #[] }, { accessFlags := 26, nameIndex := 1101, descriptorIndex := 1102, attributes := #[] }, { accessFlags := 26, nameIndex := 1121, descriptorIndex := 1122, attributes := #[] }, { accessFlags := 25, nameIndex := 599, descriptorIndex := 600, attributes := #[] }, { accessFlags := 24, nameIndex := 1125, descriptorIndex := 18, attributes := #[] }, { accessFlags := 24, nameIndex := 1127, descriptorIndex := 18, attributes := #[] }])
  fields := #[{ name := "value", type := (.array .byte), accessFlags := 18, slot := 0, constantValue := 0 }, { name := "coder", type := .byte, accessFlags := 18, slot := 1, constantValue := 0 }, { name := "hash", type := .int, accessFlags := 2, slot := 2, constantValue := 0 }, { name := "hashIsZero", type := .boolean, accessFlags := 2, slot := 3, constantValue := 0 }, { name := "serialVersionUID", type := .long, accessFlags := 26, slot := 0, constantValue := 0 }, { name := "COMPACT_STRINGS", type := .boolean, accessFlags := 24, slot := 1, constantValue := 0 }, { name := "serialPersistentFields", type := (.array (.object "java/io/ObjectStreamField")), accessFlags := 26, slot := 2, constantValue := 0 }, { name := "REPL", type := .char, accessFlags := 26, slot := 3, constantValue := 0 }, { name := "CASE_INSENSITIVE_ORDER", type := (.object "java/util/Comparator"), accessFlags := 25, slot := 4, constantValue := 0 }, { name := "LATIN1", type := .byte, accessFlags := 24, slot := 5, constantValue := 0 }, { name := "UTF16", type := .byte, accessFlags := 24, slot := 6, constantValue := 0 }]
  methods := #[k11m0]
  instanceTypes := #[(.array .byte), .byte, .int, .boolean]
  staticTypes := #[.long, .boolean, (.array (.object "java/io/ObjectStreamField")), .char, (.object "java/util/Comparator"), .byte, .byte]
  resolved := Array.replicate 1451 none
  statics := none }

def pool12 : Array CpInfo := pool [(2, .class_ 4), (1, u "java/lang/Object"), (0, u "<init>"), (0, u "()V"), (35, .class_ 44), (1, u "java/util/Objects"), (0, u "requireNonNull"), (48, u "(Ljava/lang/Object;Ljava/lang/String;)Ljava/lang/Object;")] 89

def k12m0 : Method := { name := "<init>", desc := "()V", sig := { parameters := [], returnType := none }, accessFlags := 2, code := none }
def k12c1 : Code := { maxStack := 3, maxLocals := 2, code := jdk_31_method_11_code, exceptionTable := #[], attributes := #[] }
def k12m1 : Method := { name := "requireNonNull", desc := "(Ljava/lang/Object;Ljava/lang/String;)Ljava/lang/Object;", sig := { parameters := [(.object "java/lang/Object"), (.object "java/lang/String")], returnType := some (.object "java/lang/Object") }, accessFlags := 9, code := some k12c1 }
/-- java/util/Objects -/
def k12 : Class := { plain "java/util/Objects" (some 0) with
  accessFlags := 49
  interfaces := #[]
  cf := some (fileOf pool12 42 #[] #[{ accessFlags := 2, nameIndex := 5, descriptorIndex := 6, attributes := #[] }, { accessFlags := 9, nameIndex := 45, descriptorIndex := 94, attributes := #[] }] 49 2 #[] #[])
  fields := #[]
  methods := #[k12m0, k12m1]
  instanceTypes := #[]
  staticTypes := #[]
  resolved := Array.replicate 184 none
  statics := none }

def pool13 : Array CpInfo := pool [(1, u "java/lang/Cloneable"), (0, .class_ 1), (0, u "java/lang/Object"), (0, .class_ 3)] 3

/-- java/lang/Cloneable -/
def k13 : Class := { plain "java/lang/Cloneable" (some 0) with
  accessFlags := 1537
  interfaces := #[]
  cf := some (fileOf pool13 2 #[] #[] 1537 4 #[] #[])
  fields := #[]
  methods := #[]
  instanceTypes := #[]
  staticTypes := #[]
  resolved := Array.replicate 8 none
  statics := none }

/-- the primitive byte -/
def k14 : Class := { plain "byte" none with kind := .primitive 'B', accessFlags := 0x411 }
/-- [B -/
def k15 : Class := { plain "[B" (some 0) with kind := .array 14 .byte, interfaces := #[13, 6], accessFlags := 1041 }

/-- the primitive int -/
def k16 : Class := { plain "int" none with kind := .primitive 'I', accessFlags := 0x411 }
/-- [I -/
def k17 : Class := { plain "[I" (some 0) with kind := .array 16 .int, interfaces := #[13, 6], accessFlags := 1041 }

def heap : Heap := #[{ cls := 3, slots := #[.ref 5], vm := .statics 3 },
  { cls := 8, slots := #[.ref 3, .ref 2, .ref 4, .null], vm := .statics 8 },
  { cls := 8, slots := #[.null, .int 1, .int 0], vm := .none },
  { cls := 8, slots := #[.null, .int 0, .int 0], vm := .none },
  { cls := 8, slots := #[.null, .int 2, .int 0], vm := .none },
  { cls := 15, slots := #[], vm := .none }]
def classes : Array Class := #[k0, k1, k2, k3, k4, k5, k6, k7, k8, k9, k10, k11, k12, k13, k14, k15, k16, k17]
def interned : List (Array UInt16 × Addr) := []
def slotsUsed : Nat := 14
def theMethod : MethodId := ⟨1, 1⟩
def args0 : Array Value := #[.int 5]
def aboutOver (below : List Frame) : State where
  vm := { classes := classes, interned := interned.toArray }
  heap := heap
  slotsUsed := slotsUsed
  threads := #[{ frames := .invoking theMethod args0 :: below }]
def below0 : List Frame := [.native { method := ⟨0, 0⟩, args := #[] }]
def about1 : State := aboutOver below0
def p0 : Program := .bare "" "" ""
def e0 : Env := launch0.env 0 0 0
theorem w_frames : about1.frames = Frame.invoking theMethod args0 :: below0 := rfl
set_option maxRecDepth 65536 in
theorem w_args : argsFit about1.vm theMethod args0 = true := by decide +kernel
set_option maxRecDepth 65536 in
theorem w_heap : heapFits about1 = true := by decide +kernel
set_option maxRecDepth 65536 in
theorem w_runnable : about1.curStatus? = some .runnable := by decide +kernel
set_option maxRecDepth 65536 in
theorem w_alone : about1.alone = true := by decide +kernel
set_option maxRecDepth 65536 in
theorem w_named : about1.methodNamed? x = some theMethod := by decide +kernel
set_option maxRecDepth 65536 in
theorem w_hears : about1.hears theMethod below0 = true := by decide +kernel
set_option maxRecDepth 65536 in
theorem w_ripe : about1.ripe theMethod args0 below0 = true := by decide +kernel
theorem w_running : about1.status = .running := rfl
set_option maxRecDepth 65536 in
theorem w_room : about1.hasRoom e0.platform room_1 = true :=
  launch0.hasRoom_least _ room_1 (by decide +kernel) (by decide +kernel) (by decide +kernel) (by decide +kernel) (by decide +kernel) (by decide +kernel)
theorem allAtoms_all (ts : List Jvm.Cond) (a : Array Jvm.Value) (st : Jvm.State) : (allAtoms ts).before a st = ts.all (fun c => c.before a st) := by
  induction ts with
  | nil => rfl
  | cons c t ih =>
    show (Jvm.Cond.and c (allAtoms t)).before a st = _
    rw [Jvm.Cond.before_and, ih, List.all_cons]
def words1 : List Jvm.Cond := Jvm.Cond.code x code maxLocals ret :: tables_1
/-- a 'code' word, met by the world's own term for the bytes: nothing is compared byte by byte -/
theorem code_word {y : MethodName} {bytes : ByteArray} {mx : Nat} {rt : Option FieldType} {a : Array Value} {s : State} {m : MethodId} {meth : Method} {c : Code} (h1 : s.methodNamed? y = some m) (h2 : s.vm.method? m = some meth) (h3 : meth.code = some c) (h4 : c.code = bytes)
    (h5 : (c.maxLocals == mx && c.exceptionTable.isEmpty && decide (c.maxStack ≤ mostOperands) && decide (meth.sig.returnType = rt) && !meth.locks && decide (parseMethodDescriptor y.desc = some meth.sig)) = true) : (Jvm.Cond.code y bytes mx rt).before a s = true := by
  simp only [Bool.and_eq_true, beq_iff_eq, Bool.not_eq_true', decide_eq_true_eq] at h5
  obtain ⟨⟨⟨⟨⟨g1, g2⟩, g3⟩, g4⟩, g5⟩, g6⟩ := h5
  simp [Cond.before, Cond.holds, Cond.value, h1, h2, h3, h4, g1, g2, g3, g4, g5, g6]
def isCode : Jvm.Cond → Bool
  | .code _ _ _ _ => true
  | _ => false
theorem all_split {L : List Jvm.Cond} {P : Jvm.Cond → Bool} (h1 : L.all (fun c => isCode c || P c) = true) (h2 : ∀ c ∈ L.filter isCode, P c = true) : L.all P = true := by
  refine List.all_eq_true.mpr fun c hc => ?_
  have h := List.all_eq_true.mp h1 c hc
  rcases Bool.eq_false_or_eq_true (isCode c) with hi | hi
  · exact h2 c (List.mem_filter.mpr ⟨hc, hi⟩)
  · simpa [hi] using h
set_option maxRecDepth 65536 in
theorem w_c0 : (Jvm.Cond.code x code maxLocals ret).before args0 about1 = true := code_word (m := ⟨1, 1⟩) (meth := k1m1) (c := k1c1) (by decide +kernel) rfl rfl rfl (by decide +kernel)
set_option maxRecDepth 65536 in
theorem w_c1 : (Jvm.Cond.code ({ cls := "com/example/concordat/concordat/core/Preparation", name := "no", desc := "()Lcom/example/concordat/concordat/core/Preparation;" } : Jvm.MethodName) prog_4_method_3_code (0 : Nat) (Option.some (Jvm.ClassFile.FieldType.object "com/example/concordat/concordat/core/Preparation"))).before args0 about1 = true := code_word (m := ⟨3, 2⟩) (meth := k3m2) (c := k3c2) (by decide +kernel) rfl rfl rfl (by decide +kernel)
set_option maxRecDepth 65536 in
theorem w_c2 : (Jvm.Cond.code ({ cls := "com/example/concordat/concordat/core/Preparation", name := "<init>", desc := "(Lcom/example/concordat/concordat/core/Vote;[B)V" } : Jvm.MethodName) prog_4_method_1_code (3 : Nat) (Option.none : Option Jvm.ClassFile.FieldType)).before args0 about1 = true := code_word (m := ⟨3, 0⟩) (meth := k3m0) (c := k3c0) (by decide +kernel) rfl rfl rfl (by decide +kernel)
set_option maxRecDepth 65536 in
theorem w_c3 : (Jvm.Cond.code ({ cls := "java/lang/Record", name := "<init>", desc := "()V" } : Jvm.MethodName) jdk_30_method_1_code (1 : Nat) (Option.none : Option Jvm.ClassFile.FieldType)).before args0 about1 = true := code_word (m := ⟨2, 0⟩) (meth := k2m0) (c := k2c0) (by decide +kernel) rfl rfl rfl (by decide +kernel)
set_option maxRecDepth 65536 in
theorem w_c4 : (Jvm.Cond.code ({ cls := "java/lang/Object", name := "<init>", desc := "()V" } : Jvm.MethodName) object_method_1_code (1 : Nat) (Option.none : Option Jvm.ClassFile.FieldType)).before args0 about1 = true := code_word (m := ⟨0, 0⟩) (meth := k0m0) (c := k0c0) (by decide +kernel) rfl rfl rfl (by decide +kernel)
set_option maxRecDepth 65536 in
theorem w_c5 : (Jvm.Cond.code ({ cls := "com/example/concordat/concordat/core/Preparation", name := "yes", desc := "([B)Lcom/example/concordat/concordat/core/Preparation;" } : Jvm.MethodName) prog_4_method_4_code (1 : Nat) (Option.some (Jvm.ClassFile.FieldType.object "com/example/concordat/concordat/core/Preparation"))).before args0 about1 = true := code_word (m := ⟨3, 3⟩) (meth := k3m3) (c := k3c3) (by decide +kernel) rfl rfl rfl (by decide +kernel)
set_option maxRecDepth 65536 in
theorem w_c6 : (Jvm.Cond.code ({ cls := "java/util/Objects", name := "requireNonNull", desc := "(Ljava/lang/Object;Ljava/lang/String;)Ljava/lang/Object;" } : Jvm.MethodName) jdk_31_method_11_code (2 : Nat) (Option.some (Jvm.ClassFile.FieldType.object "java/lang/Object"))).before args0 about1 = true := code_word (m := ⟨12, 1⟩) (meth := k12m1) (c := k12c1) (by decide +kernel) rfl rfl rfl (by decide +kernel)
set_option maxRecDepth 65536 in
theorem w_c7 : (Jvm.Cond.code ({ cls := "com/example/concordat/concordat/core/Preparation", name := "readOnly", desc := "()Lcom/example/concordat/concordat/core/Preparation;" } : Jvm.MethodName) prog_4_method_2_code (0 : Nat) (Option.some (Jvm.ClassFile.FieldType.object "com/example/concordat/concordat/core/Preparation"))).before args0 about1 = true := code_word (m := ⟨3, 1⟩) (meth := k3m1) (c := k3c1) (by decide +kernel) rfl rfl rfl (by decide +kernel)
set_option maxRecDepth 65536 in
theorem w_c8 : (Jvm.Cond.code ({ cls := "com/example/concordat/concordat/core/Preparation", name := "vote", desc := "()Lcom/example/concordat/concordat/core/Vote;" } : Jvm.MethodName) prog_4_method_8_code (1 : Nat) (Option.some (Jvm.ClassFile.FieldType.object "com/example/concordat/concordat/core/Vote"))).before args0 about1 = true := code_word (m := ⟨3, 4⟩) (meth := k3m4) (c := k3c4) (by decide +kernel) rfl rfl rfl (by decide +kernel)
set_option maxRecDepth 65536 in
theorem w_c9 : (Jvm.Cond.code ({ cls := "com/example/concordat/concordat/core/Preparation", name := "redo", desc := "()[B" } : Jvm.MethodName) prog_4_method_9_code (1 : Nat) (Option.some (Jvm.ClassFile.FieldType.array Jvm.ClassFile.FieldType.byte))).before args0 about1 = true := code_word (m := ⟨3, 5⟩) (meth := k3m5) (c := k3c5) (by decide +kernel) rfl rfl rfl (by decide +kernel)
def codes1 : List Jvm.Cond := [Jvm.Cond.code x code maxLocals ret, Jvm.Cond.code ({ cls := "com/example/concordat/concordat/core/Preparation", name := "no", desc := "()Lcom/example/concordat/concordat/core/Preparation;" } : Jvm.MethodName) prog_4_method_3_code (0 : Nat) (Option.some (Jvm.ClassFile.FieldType.object "com/example/concordat/concordat/core/Preparation")), Jvm.Cond.code ({ cls := "com/example/concordat/concordat/core/Preparation", name := "<init>", desc := "(Lcom/example/concordat/concordat/core/Vote;[B)V" } : Jvm.MethodName) prog_4_method_1_code (3 : Nat) (Option.none : Option Jvm.ClassFile.FieldType), Jvm.Cond.code ({ cls := "java/lang/Record", name := "<init>", desc := "()V" } : Jvm.MethodName) jdk_30_method_1_code (1 : Nat) (Option.none : Option Jvm.ClassFile.FieldType), Jvm.Cond.code ({ cls := "java/lang/Object", name := "<init>", desc := "()V" } : Jvm.MethodName) object_method_1_code (1 : Nat) (Option.none : Option Jvm.ClassFile.FieldType), Jvm.Cond.code ({ cls := "com/example/concordat/concordat/core/Preparation", name := "yes", desc := "([B)Lcom/example/concordat/concordat/core/Preparation;" } : Jvm.MethodName) prog_4_method_4_code (1 : Nat) (Option.some (Jvm.ClassFile.FieldType.object "com/example/concordat/concordat/core/Preparation")), Jvm.Cond.code ({ cls := "java/util/Objects", name := "requireNonNull", desc := "(Ljava/lang/Object;Ljava/lang/String;)Ljava/lang/Object;" } : Jvm.MethodName) jdk_31_method_11_code (2 : Nat) (Option.some (Jvm.ClassFile.FieldType.object "java/lang/Object")), Jvm.Cond.code ({ cls := "com/example/concordat/concordat/core/Preparation", name := "readOnly", desc := "()Lcom/example/concordat/concordat/core/Preparation;" } : Jvm.MethodName) prog_4_method_2_code (0 : Nat) (Option.some (Jvm.ClassFile.FieldType.object "com/example/concordat/concordat/core/Preparation")), Jvm.Cond.code ({ cls := "com/example/concordat/concordat/core/Preparation", name := "vote", desc := "()Lcom/example/concordat/concordat/core/Vote;" } : Jvm.MethodName) prog_4_method_8_code (1 : Nat) (Option.some (Jvm.ClassFile.FieldType.object "com/example/concordat/concordat/core/Vote")), Jvm.Cond.code ({ cls := "com/example/concordat/concordat/core/Preparation", name := "redo", desc := "()[B" } : Jvm.MethodName) prog_4_method_9_code (1 : Nat) (Option.some (Jvm.ClassFile.FieldType.array Jvm.ClassFile.FieldType.byte))]
set_option maxRecDepth 65536 in
theorem codes_eq : words1.filter isCode = codes1 := rfl
theorem w_codes : ∀ c ∈ words1.filter isCode, c.before args0 about1 = true := by
  rw [codes_eq]
  intro c hc
  simp only [codes1, List.mem_cons, List.not_mem_nil, or_false] at hc
  rcases hc with rfl | rfl | rfl | rfl | rfl | rfl | rfl | rfl | rfl | rfl
  · exact w_c0
  · exact w_c1
  · exact w_c2
  · exact w_c3
  · exact w_c4
  · exact w_c5
  · exact w_c6
  · exact w_c7
  · exact w_c8
  · exact w_c9
set_option maxRecDepth 65536 in
theorem w_t1 : (words1.take 24).all (fun c => isCode c || c.before args0 about1) = true := by decide +kernel
set_option maxRecDepth 65536 in
theorem w_t2 : ((words1.drop 24).take 24).all (fun c => isCode c || c.before args0 about1) = true := by decide +kernel
set_option maxRecDepth 65536 in
theorem w_t3 : ((words1.drop 24).drop 24).all (fun c => isCode c || c.before args0 about1) = true := by decide +kernel
theorem w_tables : (allAtoms (Jvm.Cond.code x code maxLocals ret :: tables_1)).before args0 about1 = true := by
  rw [allAtoms_all]
  show words1.all (fun c => c.before args0 about1) = true
  refine all_split ?_ w_codes
  rw [← List.take_append_drop 24 words1, List.all_append, w_t1, ← List.take_append_drop 24 (words1.drop 24), List.all_append, w_t2, w_t3]
  rfl
set_option maxRecDepth 65536 in
theorem w_case : (Jvm.Cond.and given_1 narrow_1).before args0 about1 = true := by decide +kernel
theorem w_applies : (headSpec (Jvm.Cond.code x code maxLocals ret :: tables_1) room_1).applies x e0.platform about1 = true :=
  (Spec.applies_iff w_frames).mpr ⟨w_running, w_runnable, w_alone, w_named, w_hears, w_ripe, w_room, w_tables⟩
theorem atStart : AtStart classFile x code maxLocals ret World_1 tables_1 room_1 Calls_1 rest_1 Pre_1 launch0 p0 e0 about1 theMethod args0 below0 :=
  ⟨lists_1, trivial, launch0.admits_env _ _ _, launch0.least_env, fairChoices_fair.cas, fairChoices_fair.clock, w_frames, w_args, w_heap, w_applies, trivial, trivial, w_case⟩
end start1
theorem witness_1 : WitnessClaimed_1 := ⟨start1.p0, start1.e0, start1.about1, start1.theMethod, start1.args0, start1.below0, start1.atStart⟩
end Jvm.Pilot.@@N@@
