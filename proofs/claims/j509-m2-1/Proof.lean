import JvmDerived
import JvmDerived.Pilot.@@N@@Statement
import JvmDerived.Pilot.@@N@@Code
set_option linter.unusedVariables false
set_option linter.unusedSimpArgs false
namespace Jvm.RoadKit
open Sem ClassFile Op Lib Jvm.Stand Jvm.Free Jvm.LawKit
section New
variable {p : Program} {l : Launch} {e : Env} {R : Room} {s : State} {m : MethodId} {args : Array Value} {below : List Frame} {meth : Method} {c : Code} {T : State} {locs : List Loc} {cells slots : Nat}
theorem retI (X : Stand p l e R s m args below meth c T locs cells slots) (hx : p.tables.exec = Jvm.exec) {pc : Nat} {Ls : Array Slot} {z : Int32} {rest : List Value} (hret : meth.sig.returnType = some .int) (hd : decode c.code pc = .ok (.ireturn, 1)) {fs : List Frame}
    (hl : ∀ (f : JFrame) (acts : List Action), f.method = m → f.locked = none → f.entered = [] → (doReturn e (T.setTop f) acts (some (.int z))).1 = T.setFrames fs) : Steps p.tables e below (T.setTop (mkF m pc Ls (.int z :: rest))) (T.setFrames fs) := by
  have hm' : T.vm.method? m = some meth := X.method'
  have hn : narrow .int (.int z) = .int z := rfl
  show Steps p.tables e below (T.setTop { method := m, pc := pc, locals := Ls, stack := _ :: rest, locked := none }) _
  jvm_step X.here [X.here.top, hx, hd, hm', hret, hn]
  first | (intro acts; rw [hl _ acts rfl rfl rfl]) | rw [hl _ _ rfl rfl rfl]
  exact Steps.refl _
end New
end Jvm.RoadKit

namespace Jvm.Pilot.@@N@@
open Jvm Jvm.ClassFile Sem Op Lib Jvm.Free Jvm.Stand Jvm.LawKit Jvm.RoadKit Bundle Jvm.Pilot.@@N@@.Jvm.D
def own_Go (tb : Tables) (e : Env) (below : List Frame) (K : State → Outcome → Prop) (S : State) : Prop := ∃ t o, Steps tb e below S t ∧ K t o
theorem own_Go.by {tb : Tables} {e : Env} {below : List Frame} {K : State → Outcome → Prop} {S S' : State} (h : ∀ t, Steps tb e below S' t → Steps tb e below S t) (g : own_Go tb e below K S') : own_Go tb e below K S := by
  obtain ⟨t, o, a, b⟩ := g
  exact ⟨t, o, h t a, b⟩
theorem own_Go.fin {tb : Tables} {e : Env} {below : List Frame} {K : State → Outcome → Prop} {S t : State} {o : Outcome} (h : Steps tb e below S t) (k : K t o) : own_Go tb e below K S := ⟨t, o, h, k⟩
theorem own_merge {α : Type} {P : α → Prop} {F : α → State} {tb : Tables} {e : Env} {below : List Frame} {K : State → Outcome → Prop} {S : State} (g : ∀ v, P v → own_Go tb e below K (F v)) (h : (∀ v, P v → own_Go tb e below K (F v)) → own_Go tb e below K S) : own_Go tb e below K S := h g
theorem own_old_le {Z : State} {n0 : Nat} {h : Heap} (O : Old Z n0 h) : n0 ≤ h.size := O.1 ▸ O.2.1
theorem own_rew {s t : State} {o : Outcome} {L : List Loc} {k n k' n' : Nat} (h : ReturnedEndW s o t L k n) (hk : k ≤ k') (hn : n ≤ n') : ReturnedEndW s o t L k' n' := ⟨h.1, h.2.1, h.2.2.1, h.2.2.2.mono hk hn⟩
theorem own_privsel {s : State} {a1 a2 args : Array Value} {y : MethodName} {n : Nat} (wi : (Jvm.Cond.instantiable y.cls n).before a1 s = true) (wp : (Jvm.Cond.privateMethod y).before a2 s = true) (wm : (Jvm.Cond.instanceMethod y).before args s = true) (hy : y.cls ≠ "java/lang/invoke/MethodHandle" ∧ y.cls ≠ "java/lang/invoke/VarHandle") : (Jvm.Cond.selects y.cls y y).before args s = true := by
  obtain ⟨c, k, h1, h2, -, h4, -⟩ := Cond.instantiable_spec wi
  simp only [Bool.or_eq_false_iff] at h4
  exact selects_self_of_private h1 h2 h4.1 (Cond.privateMethod_at wp) wm hy
theorem own_arr_keep {Z : State} {h h' : Heap} {a : Addr} {c : Cell} {ty : FieldType} {ws : List Addr} (A : Arr Z h a c ty) (K : Keep h h' ws) (q : a ∉ ws) : Arr Z h' a c ty := ⟨K.2.1 a c A.1 q, A.2⟩

theorem own_wS : ∀ d ∈ Bundle.stringAtoms, d ∈ tables_1 := by decide +kernel
theorem own_irr (a b : Int64) : (if (a < a ∨ (a = a ∧ b < b)) then (1 : Int32) else (0 : Int32)) = (0 : Int32) := if_neg (by
  rintro (q | ⟨-, q⟩)
  · rw [Int64.lt_iff_toInt_lt] at q; omega
  · rw [Int64.lt_iff_toInt_lt] at q; omega)

theorem d7_0 : decode prog_1_method_1_code 0 = .ok (.aload_n 0, 1) := by decide +kernel
theorem d7_1 : decode prog_1_method_1_code 1 = .ok (.invokespecial 1, 3) := by decide +kernel
theorem d7_4 : decode prog_1_method_1_code 4 = .ok (.return_, 1) := by decide +kernel
theorem own_pn_com_example_gridmatch_gridmatch_BalancedNode : plainName "com/example/gridmatch/gridmatch/BalancedNode" = true := by first | (simp [plainName, overriddenIn]; done) | decide +kernel
theorem own_ef_7 (m : MethodId) (a1 : Addr) : entryFrame m #[(Value.ref a1)] 1 = mkF m 0 #[.val (Value.ref a1)] [] := by first | (simp [entryFrame, mkF, argsToLocals, Value.category]; done) | rfl
def Q7 (Z : State) (a1 : Addr) (h0 : Heap) (n0 : Nat) (v : Option Value) (h : Heap) (L : List Loc) : Prop := v = none ∧ Fr n0 L ∧ h = h0
set_option maxRecDepth 65536 in
set_option maxHeartbeats 40000000 in
theorem rm7 (l : Launch) (Z : State) (a0 : Array Value) (hw : ∀ d ∈ tables_1, d.before a0 Z = true) (ws : List Jvm.Cond) (a1 : Addr) (h0 : Heap) (n0 : Nat) (O0 : Old Z n0 h0) :
    MetFree l (⟨"com/example/gridmatch/gridmatch/BalancedNode", "<init>", "()V"⟩ : MethodName) (head1 (Jvm.Cond.code (⟨"com/example/gridmatch/gridmatch/BalancedNode", "<init>", "()V"⟩ : MethodName) prog_1_method_1_code 1 none :: ws) ({ frames := 1, cells := 0, slots := 0, locals := 12 } : Room)) (fun a U => a = #[(Value.ref a1)] ∧ Z.Warmed39 U.vm ∧ U.heap = h0) (fun _ _ _ _ _ => True) (fun _ U o U' => ∃ v L, o = .returned v ∧ Q7 Z a1 h0 n0 v U'.heap L ∧ FrameEnd U o U' L ({ frames := 1, cells := 0, slots := 0, locals := 12 } : Room).cells ({ frames := 1, cells := 0, slots := 0, locals := 12 } : Room).slots) := by
  refine MetFree.of_bodySF (plainFor_of_name own_pn_com_example_gridmatch_gridmatch_BalancedNode) hisR ?_
  intro p e s m args below meth c s₁ Bd hml0 hP hK
  obtain ⟨rfl, hZ, hh⟩ := hP
  have hx := Bd.exec
  have hby := Bd.bytes
  have hml : c.maxLocals = 1 := hml0
  have hown : s.vm.findClass "com/example/gridmatch/gridmatch/BalancedNode" = some m.cls := findClass_of_methodNamed Bd.named
  have hnm := (name_of_methodNamed Bd.named Bd.method).1
  have X0 : Stand p l e ({ frames := 1, cells := 0, slots := 0, locals := 12 } : Room) s m #[(Value.ref a1)] below meth c s₁ [] 0 0 := Stand.of_body Bd
  have e0 : s₁.heap = h0 := by rw [← hh, Bd.state]; rfl
  have N0 := Fr.nil n0
  have K0 : Keep h0 h0 [] := Keep.refl h0 []
  show own_Go p.tables e below _ (s₁.setTop (entryFrame m #[(Value.ref a1)] 1))
  refine own_Go.by (fun tq kq => castTop (own_ef_7 m a1) kq) ?_
  show own_Go p.tables e below _ (s₁.setTop (mkF m 0 #[.val (Value.ref a1)] []))
  refine own_Go.by (fun tq kq => XS.aloadN X0.here hx rfl (hb hby d7_0) rfl rfl kq) ?_
  show own_Go p.tables e below _ (s₁.setTop (mkF m 1 #[.val (Value.ref a1)] [(Value.ref a1)]))
  obtain ⟨T1, X1, e1, st1⟩ := initO X0 hx hZ hown (hw _ (List.mem_of_getElem? (i := 80) rfl)) (hw _ (List.mem_of_getElem? (i := 32) rfl)) (hw _ (List.mem_of_getElem? (i := 33) rfl)) e0 (g := (mkF m 1 #[.val (Value.ref a1)] [(Value.ref a1)])) rfl (by rw [hml]; rfl) rfl (hb hby d7_1) (by decide) (W := 0) (by show 2 * 0 + _ ≤ _; exact Nat.le_of_eq rfl) (by decide)
  refine own_Go.by st1 ?_
  show own_Go p.tables e below _ (T1.setTop (mkF m 4 #[.val (Value.ref a1)] []))
  obtain ⟨fs, hr, hrun, hended, hW, hsame⟩ := X1.leave (v := none) (fun _ => rfl)
  refine own_Go.fin (X1.returnOut hx Bd.returns (hb hby d7_4) hr) ⟨hrun, hended, _, _, rfl, ?_, ⟨_, rfl⟩, hW, hsame.mono (by decide) (by decide)⟩
  show Q7 Z a1 h0 n0 _ T1.heap _
  rw [e1]
  exact ⟨rfl, N0, rfl⟩

theorem own_pd0 : parseMethodDescriptor "()V" = some ⟨[], none⟩ := by decide +kernel
theorem d6_0 : decode prog_55_method_1_code 0 = .ok (.aload_n 0, 1) := by decide +kernel
theorem d6_1 : decode prog_55_method_1_code 1 = .ok (.invokespecial 1, 3) := by decide +kernel
theorem d6_4 : decode prog_55_method_1_code 4 = .ok (.return_, 1) := by decide +kernel
theorem own_pn_com_example_gridmatch_gridmatch_OrderedNode : plainName "com/example/gridmatch/gridmatch/OrderedNode" = true := by first | (simp [plainName, overriddenIn]; done) | decide +kernel
theorem own_ef_6 (m : MethodId) (a1 : Addr) : entryFrame m #[(Value.ref a1)] 1 = mkF m 0 #[.val (Value.ref a1)] [] := by first | (simp [entryFrame, mkF, argsToLocals, Value.category]; done) | rfl
def Q6 (Z : State) (a1 : Addr) (h0 : Heap) (n0 : Nat) (v : Option Value) (h : Heap) (L : List Loc) : Prop := v = none ∧ Fr n0 L ∧ h = h0
set_option maxRecDepth 65536 in
set_option maxHeartbeats 40000000 in
theorem rm6 (l : Launch) (Z : State) (a0 : Array Value) (hw : ∀ d ∈ tables_1, d.before a0 Z = true) (ws : List Jvm.Cond) (a1 : Addr) (h0 : Heap) (n0 : Nat) (O0 : Old Z n0 h0) :
    MetFree l (⟨"com/example/gridmatch/gridmatch/OrderedNode", "<init>", "()V"⟩ : MethodName) (head1 (Jvm.Cond.code (⟨"com/example/gridmatch/gridmatch/OrderedNode", "<init>", "()V"⟩ : MethodName) prog_55_method_1_code 1 none :: ws) ({ frames := 2, cells := 0, slots := 0, locals := 24 } : Room)) (fun a U => a = #[(Value.ref a1)] ∧ Z.Warmed39 U.vm ∧ U.heap = h0) (fun _ _ _ _ _ => True) (fun _ U o U' => ∃ v L, o = .returned v ∧ Q6 Z a1 h0 n0 v U'.heap L ∧ FrameEnd U o U' L ({ frames := 2, cells := 0, slots := 0, locals := 24 } : Room).cells ({ frames := 2, cells := 0, slots := 0, locals := 24 } : Room).slots) := by
  refine MetFree.of_bodySF (plainFor_of_name own_pn_com_example_gridmatch_gridmatch_OrderedNode) hisR ?_
  intro p e s m args below meth c s₁ Bd hml0 hP hK
  obtain ⟨rfl, hZ, hh⟩ := hP
  have hx := Bd.exec
  have hby := Bd.bytes
  have hml : c.maxLocals = 1 := hml0
  have hown : s.vm.findClass "com/example/gridmatch/gridmatch/OrderedNode" = some m.cls := findClass_of_methodNamed Bd.named
  have hnm := (name_of_methodNamed Bd.named Bd.method).1
  have X0 : Stand p l e ({ frames := 2, cells := 0, slots := 0, locals := 24 } : Room) s m #[(Value.ref a1)] below meth c s₁ [] 0 0 := Stand.of_body Bd
  have e0 : s₁.heap = h0 := by rw [← hh, Bd.state]; rfl
  have N0 := Fr.nil n0
  have K0 : Keep h0 h0 [] := Keep.refl h0 []
  show own_Go p.tables e below _ (s₁.setTop (entryFrame m #[(Value.ref a1)] 1))
  refine own_Go.by (fun tq kq => castTop (own_ef_6 m a1) kq) ?_
  show own_Go p.tables e below _ (s₁.setTop (mkF m 0 #[.val (Value.ref a1)] []))
  refine own_Go.by (fun tq kq => XS.aloadN X0.here hx rfl (hb hby d6_0) rfl rfl kq) ?_
  show own_Go p.tables e below _ (s₁.setTop (mkF m 1 #[.val (Value.ref a1)] [(Value.ref a1)]))
  obtain ⟨_, _, ⟨T1, L1, k1, n1⟩, -, X1, ⟨Lc1, hQ1, l1, y1, z1⟩, st1⟩ := X0.specialBack hx (y := (⟨"com/example/gridmatch/gridmatch/BalancedNode", "<init>", "()V"⟩ : MethodName)) rfl hown (mvT hZ (hw _ (List.mem_of_getElem? (i := 75) rfl))) (mvT hZ (hw _ (List.mem_of_getElem? (i := 76) rfl))) (mvT hZ (hw _ (List.mem_of_getElem? (i := 79) rfl))) (by decide) (backOf (W := 0) (rm7 l Z a0 hw [] a1 h0 n0 O0 ) hZ (hw _ (List.mem_of_getElem? (i := 79) rfl)) (hw _ (List.mem_of_getElem? (i := 78) rfl)) (by decide) (by decide)) (g := (mkF m 1 #[.val (Value.ref a1)] [(Value.ref a1)])) rfl (by rw [hml]; rfl) (Steps.refl _) (a := a1) (argsL := []) (rest := []) (lenOf own_pd0 rfl) rfl (by show 2 * 0 + _ ≤ _; exact Nat.le_of_eq rfl) (hb hby d6_1) (fun _ _ => ⟨rfl, e0, (by decide : 0 + 0 ≤ _), (by decide : 0 + 0 ≤ _)⟩)
  dsimp only [Pt.U, Pt.locs, Pt.cells, Pt.slots] at X1 l1 y1 z1 st1 hQ1
  subst l1 y1 z1
  refine own_Go.by (fun tq kq => st1.trans kq) ?_
  obtain ⟨rfl, N1q, e1⟩ := hQ1
  have N1 := Fr.app N0 N1q
  show own_Go p.tables e below _ (T1.setTop (mkF m 4 #[.val (Value.ref a1)] []))
  obtain ⟨fs, hr, hrun, hended, hW, hsame⟩ := X1.leave (v := none) (fun _ => rfl)
  refine own_Go.fin (X1.returnOut hx Bd.returns (hb hby d6_4) hr) ⟨hrun, hended, _, _, rfl, ?_, ⟨_, rfl⟩, hW, hsame.mono (by decide) (by decide)⟩
  show Q6 Z a1 h0 n0 _ T1.heap _
  rw [e1]
  exact ⟨rfl, N1, rfl⟩

theorem d3_0 : decode prog_38_method_2_code 0 = .ok (.aload_n 0, 1) := by decide +kernel
theorem d3_1 : decode prog_38_method_2_code 1 = .ok (.invokespecial 13, 3) := by decide +kernel
theorem d3_4 : decode prog_38_method_2_code 4 = .ok (.aload_n 0, 1) := by decide +kernel
theorem d3_5 : decode prog_38_method_2_code 5 = .ok (.ldc 18, 2) := by decide +kernel
theorem d3_7 : decode prog_38_method_2_code 7 = .ok (.putfield 20, 3) := by decide +kernel
theorem d3_10 : decode prog_38_method_2_code 10 = .ok (.aload_n 0, 1) := by decide +kernel
theorem d3_11 : decode prog_38_method_2_code 11 = .ok (.getstatic 24, 3) := by decide +kernel
theorem d3_14 : decode prog_38_method_2_code 14 = .ok (.putfield 30, 3) := by decide +kernel
theorem d3_17 : decode prog_38_method_2_code 17 = .ok (.aload_n 0, 1) := by decide +kernel
theorem d3_18 : decode prog_38_method_2_code 18 = .ok (.aload_n 1, 1) := by decide +kernel
theorem d3_19 : decode prog_38_method_2_code 19 = .ok (.putfield 33, 3) := by decide +kernel
theorem d3_22 : decode prog_38_method_2_code 22 = .ok (.aload_n 0, 1) := by decide +kernel
theorem d3_23 : decode prog_38_method_2_code 23 = .ok (.aload_n 2, 1) := by decide +kernel
theorem d3_24 : decode prog_38_method_2_code 24 = .ok (.putfield 36, 3) := by decide +kernel
theorem d3_27 : decode prog_38_method_2_code 27 = .ok (.aload_n 0, 1) := by decide +kernel
theorem d3_28 : decode prog_38_method_2_code 28 = .ok (.aload_n 3, 1) := by decide +kernel
theorem d3_29 : decode prog_38_method_2_code 29 = .ok (.putfield 39, 3) := by decide +kernel
theorem d3_32 : decode prog_38_method_2_code 32 = .ok (.aload_n 0, 1) := by decide +kernel
theorem d3_33 : decode prog_38_method_2_code 33 = .ok (.aload 4, 2) := by decide +kernel
theorem d3_35 : decode prog_38_method_2_code 35 = .ok (.putfield 43, 3) := by decide +kernel
theorem d3_38 : decode prog_38_method_2_code 38 = .ok (.aload_n 0, 1) := by decide +kernel
theorem d3_39 : decode prog_38_method_2_code 39 = .ok (.lload 5, 2) := by decide +kernel
theorem d3_41 : decode prog_38_method_2_code 41 = .ok (.putfield 46, 3) := by decide +kernel
theorem d3_44 : decode prog_38_method_2_code 44 = .ok (.aload_n 0, 1) := by decide +kernel
theorem d3_45 : decode prog_38_method_2_code 45 = .ok (.lload 7, 2) := by decide +kernel
theorem d3_47 : decode prog_38_method_2_code 47 = .ok (.putfield 50, 3) := by decide +kernel
theorem d3_50 : decode prog_38_method_2_code 50 = .ok (.aload_n 0, 1) := by decide +kernel
theorem d3_51 : decode prog_38_method_2_code 51 = .ok (.lload 9, 2) := by decide +kernel
theorem d3_53 : decode prog_38_method_2_code 53 = .ok (.putfield 53, 3) := by decide +kernel
theorem d3_56 : decode prog_38_method_2_code 56 = .ok (.aload_n 0, 1) := by decide +kernel
theorem d3_57 : decode prog_38_method_2_code 57 = .ok (.lload 11, 2) := by decide +kernel
theorem d3_59 : decode prog_38_method_2_code 59 = .ok (.putfield 56, 3) := by decide +kernel
theorem d3_62 : decode prog_38_method_2_code 62 = .ok (.aload_n 0, 1) := by decide +kernel
theorem d3_63 : decode prog_38_method_2_code 63 = .ok (.lload 13, 2) := by decide +kernel
theorem d3_65 : decode prog_38_method_2_code 65 = .ok (.putfield 59, 3) := by decide +kernel
theorem d3_68 : decode prog_38_method_2_code 68 = .ok (.aload_n 0, 1) := by decide +kernel
theorem d3_69 : decode prog_38_method_2_code 69 = .ok (.aload 15, 2) := by decide +kernel
theorem d3_71 : decode prog_38_method_2_code 71 = .ok (.putfield 62, 3) := by decide +kernel
theorem d3_74 : decode prog_38_method_2_code 74 = .ok (.return_, 1) := by decide +kernel
theorem own_pn_com_example_gridmatch_gridmatch_Order : plainName "com/example/gridmatch/gridmatch/Order" = true := by first | (simp [plainName, overriddenIn]; done) | decide +kernel
theorem own_ef_3 (m : MethodId) (a1 : Addr) (a2 : Addr) (a3 : Addr) (a4 : Addr) (a5 : Addr) (q6 : Int64) (q7 : Int64) (q8 : Int64) (q9 : Int64) (q10 : Int64) (a11 : Addr) : entryFrame m #[(Value.ref a1), (Value.ref a2), (Value.ref a3), (Value.ref a4), (Value.ref a5), (Value.long q6), (Value.long q7), (Value.long q8), (Value.long q9), (Value.long q10), (Value.ref a11)] 16 = mkF m 0 #[.val (Value.ref a1), .val (Value.ref a2), .val (Value.ref a3), .val (Value.ref a4), .val (Value.ref a5), .val (Value.long q6), .second, .val (Value.long q7), .second, .val (Value.long q8), .second, .val (Value.long q9), .second, .val (Value.long q10), .second, .val (Value.ref a11)] [] := by first | (simp [entryFrame, mkF, argsToLocals, Value.category]; done) | rfl
def Q3 (Z : State) (a1 : Addr) (a2 : Addr) (a3 : Addr) (a4 : Addr) (a5 : Addr) (q6 : Int64) (q7 : Int64) (q8 : Int64) (q9 : Int64) (q10 : Int64) (a11 : Addr) (aG : Addr) (h0 : Heap) (n0 : Nat) (v : Option Value) (h : Heap) (L : List Loc) : Prop := v = none ∧ Fr n0 L ∧ Keep h0 h [a1] ∧ (Exa Z h a1 "com/example/gridmatch/gridmatch/Order") ∧ (Fld Z h a1 "com/example/gridmatch/gridmatch/Order" "remaining" "J" (Value.long q7)) ∧ (Fld Z h a1 "com/example/gridmatch/gridmatch/Order" "peak" "J" (Value.long q8)) ∧ (Fld Z h a1 "com/example/gridmatch/gridmatch/Order" "shown" "J" (Value.long (0 : Int64))) ∧ (Fld Z h a1 "com/example/gridmatch/gridmatch/Order" "sequence" "J" (Value.long (0 : Int64)))
set_option maxRecDepth 65536 in
set_option maxHeartbeats 40000000 in
theorem rm3 (l : Launch) (Z : State) (a0 : Array Value) (hw : ∀ d ∈ tables_1, d.before a0 Z = true) (ws : List Jvm.Cond) (a1 : Addr) (a2 : Addr) (a3 : Addr) (a4 : Addr) (a5 : Addr) (q6 : Int64) (q7 : Int64) (q8 : Int64) (q9 : Int64) (q10 : Int64) (a11 : Addr) (aG : Addr) (h0 : Heap) (n0 : Nat) (O0 : Old Z n0 h0) (H0 : Exa Z h0 a1 "com/example/gridmatch/gridmatch/Order") (H1 : n0 ≤ a1) (H2 : Sta Z Z.heap "com/example/gridmatch/gridmatch/Validity" "GFS" "Lcom/example/gridmatch/gridmatch/Validity;" (Value.ref aG)) (H3 : Fld Z h0 a1 "com/example/gridmatch/gridmatch/Order" "text" "Ljava/lang/String;" .null) (H4 : Fld Z h0 a1 "com/example/gridmatch/gridmatch/Order" "validity" "Lcom/example/gridmatch/gridmatch/Validity;" .null) (H5 : Fld Z h0 a1 "com/example/gridmatch/gridmatch/Order" "reference" "Ljava/lang/String;" .null) (H6 : Fld Z h0 a1 "com/example/gridmatch/gridmatch/Order" "contract" "Ljava/lang/String;" .null) (H7 : Fld Z h0 a1 "com/example/gridmatch/gridmatch/Order" "side" "Lcom/example/gridmatch/gridmatch/Side;" .null) (H8 : Fld Z h0 a1 "com/example/gridmatch/gridmatch/Order" "type" "Lcom/example/gridmatch/gridmatch/OrderType;" .null) (H9 : Fld Z h0 a1 "com/example/gridmatch/gridmatch/Order" "restriction" "Lcom/example/gridmatch/gridmatch/Restriction;" .null) (H10 : Fld Z h0 a1 "com/example/gridmatch/gridmatch/Order" "price" "J" (Value.long (0 : Int64))) (H11 : Fld Z h0 a1 "com/example/gridmatch/gridmatch/Order" "remaining" "J" (Value.long (0 : Int64))) (H12 : Fld Z h0 a1 "com/example/gridmatch/gridmatch/Order" "peak" "J" (Value.long (0 : Int64))) (H13 : Fld Z h0 a1 "com/example/gridmatch/gridmatch/Order" "peakPriceDelta" "J" (Value.long (0 : Int64))) (H14 : Fld Z h0 a1 "com/example/gridmatch/gridmatch/Order" "stopPrice" "J" (Value.long (0 : Int64))) (H15 : Fld Z h0 a1 "com/example/gridmatch/gridmatch/Order" "shown" "J" (Value.long (0 : Int64))) (H16 : Fld Z h0 a1 "com/example/gridmatch/gridmatch/Order" "sequence" "J" (Value.long (0 : Int64))) :
    MetFree l (⟨"com/example/gridmatch/gridmatch/Order", "<init>", "(Ljava/lang/String;Ljava/lang/String;Lcom/example/gridmatch/gridmatch/Side;Lcom/example/gridmatch/gridmatch/OrderType;JJJJJLcom/example/gridmatch/gridmatch/Restriction;)V"⟩ : MethodName) (head1 (Jvm.Cond.code (⟨"com/example/gridmatch/gridmatch/Order", "<init>", "(Ljava/lang/String;Ljava/lang/String;Lcom/example/gridmatch/gridmatch/Side;Lcom/example/gridmatch/gridmatch/OrderType;JJJJJLcom/example/gridmatch/gridmatch/Restriction;)V"⟩ : MethodName) prog_38_method_2_code 16 none :: ws) ({ frames := 1, cells := 2, slots := 4, locals := 12 } : Room)) (fun a U => a = #[(Value.ref a1), (Value.ref a2), (Value.ref a3), (Value.ref a4), (Value.ref a5), (Value.long q6), (Value.long q7), (Value.long q8), (Value.long q9), (Value.long q10), (Value.ref a11)] ∧ Z.Warmed39 U.vm ∧ U.heap = h0) (fun _ _ _ _ _ => True) (fun _ U o U' => ∃ v L, o = .returned v ∧ Q3 Z a1 a2 a3 a4 a5 q6 q7 q8 q9 q10 a11 aG h0 n0 v U'.heap L ∧ ReturnedEndW U o U' L ({ frames := 1, cells := 2, slots := 4, locals := 12 } : Room).cells ({ frames := 1, cells := 2, slots := 4, locals := 12 } : Room).slots) := by
  refine MetFree.of_bodySF (plainFor_of_name own_pn_com_example_gridmatch_gridmatch_Order) hisR ?_
  intro p e s m args below meth c s₁ Bd hml0 hP hK
  obtain ⟨rfl, hZ, hh⟩ := hP
  have hx := Bd.exec
  have hby := Bd.bytes
  have hml : c.maxLocals = 16 := hml0
  have hown : s.vm.findClass "com/example/gridmatch/gridmatch/Order" = some m.cls := findClass_of_methodNamed Bd.named
  have hnm := (name_of_methodNamed Bd.named Bd.method).1
  have X0 : Stand p l e ({ frames := 1, cells := 2, slots := 4, locals := 12 } : Room) s m #[(Value.ref a1), (Value.ref a2), (Value.ref a3), (Value.ref a4), (Value.ref a5), (Value.long q6), (Value.long q7), (Value.long q8), (Value.long q9), (Value.long q10), (Value.ref a11)] below meth c s₁ [] 0 0 := Stand.of_body Bd
  have e0 : s₁.heap = h0 := by rw [← hh, Bd.state]; rfl
  have hS0 : s.Since s.vm 0 := (State.WarmedH.refl s).since 0
  have N0 := Fr.nil n0
  have K0 := Keep.refl h0 [a1]
  show own_Go p.tables e below _ (s₁.setTop (entryFrame m #[(Value.ref a1), (Value.ref a2), (Value.ref a3), (Value.ref a4), (Value.ref a5), (Value.long q6), (Value.long q7), (Value.long q8), (Value.long q9), (Value.long q10), (Value.ref a11)] 16))
  refine own_Go.by (fun tq kq => castTop (own_ef_3 m a1 a2 a3 a4 a5 q6 q7 q8 q9 q10 a11) kq) ?_
  show own_Go p.tables e below _ (s₁.setTop (mkF m 0 #[.val (Value.ref a1), .val (Value.ref a2), .val (Value.ref a3), .val (Value.ref a4), .val (Value.ref a5), .val (Value.long q6), .second, .val (Value.long q7), .second, .val (Value.long q8), .second, .val (Value.long q9), .second, .val (Value.long q10), .second, .val (Value.ref a11)] []))
  refine own_Go.by (fun tq kq => XS.aloadN X0.here hx rfl (hb hby d3_0) rfl rfl kq) ?_
  show own_Go p.tables e below _ (s₁.setTop (mkF m 1 #[.val (Value.ref a1), .val (Value.ref a2), .val (Value.ref a3), .val (Value.ref a4), .val (Value.ref a5), .val (Value.long q6), .second, .val (Value.long q7), .second, .val (Value.long q8), .second, .val (Value.long q9), .second, .val (Value.long q10), .second, .val (Value.ref a11)] [(Value.ref a1)]))
  obtain ⟨T1, X1, e1, st1⟩ := initO X0 hx hZ hown (hw _ (List.mem_of_getElem? (i := 31) rfl)) (hw _ (List.mem_of_getElem? (i := 32) rfl)) (hw _ (List.mem_of_getElem? (i := 33) rfl)) e0 (g := (mkF m 1 #[.val (Value.ref a1), .val (Value.ref a2), .val (Value.ref a3), .val (Value.ref a4), .val (Value.ref a5), .val (Value.long q6), .second, .val (Value.long q7), .second, .val (Value.long q8), .second, .val (Value.long q9), .second, .val (Value.long q10), .second, .val (Value.ref a11)] [(Value.ref a1)])) rfl (by rw [hml]; rfl) rfl (hb hby d3_1) (by decide) (W := 0) (by show 2 * 0 + _ ≤ _; exact Nat.le_of_eq rfl) (by decide)
  refine own_Go.by st1 ?_
  show own_Go p.tables e below _ (T1.setTop (mkF m 4 #[.val (Value.ref a1), .val (Value.ref a2), .val (Value.ref a3), .val (Value.ref a4), .val (Value.ref a5), .val (Value.long q6), .second, .val (Value.long q7), .second, .val (Value.long q8), .second, .val (Value.long q9), .second, .val (Value.long q10), .second, .val (Value.ref a11)] []))
  refine own_Go.by (fun tq kq => XS.aloadN X1.here hx rfl (hb hby d3_4) rfl rfl kq) ?_
  show own_Go p.tables e below _ (T1.setTop (mkF m 5 #[.val (Value.ref a1), .val (Value.ref a2), .val (Value.ref a3), .val (Value.ref a4), .val (Value.ref a5), .val (Value.long q6), .second, .val (Value.long q7), .second, .val (Value.long q8), .second, .val (Value.long q9), .second, .val (Value.long q10), .second, .val (Value.ref a11)] [(Value.ref a1)]))
  obtain ⟨sa2, T2, h2, k2, X2, e2, E2, hS2, hk2, hZ2, hown2, st2⟩ := ldcS (s := s) (vm0 := s.vm) X1 hx hZ hown (hw _ (List.mem_of_getElem? (i := 34) rfl)) (fun d hd => hw d (own_wS d hd)) e1 hS0 (Nat.zero_le _) (g := (mkF m 5 #[.val (Value.ref a1), .val (Value.ref a2), .val (Value.ref a3), .val (Value.ref a4), .val (Value.ref a5), .val (Value.long q6), .second, .val (Value.long q7), .second, .val (Value.long q8), .second, .val (Value.long q9), .second, .val (Value.long q10), .second, .val (Value.ref a11)] [(Value.ref a1)])) rfl (hb hby d3_5) (n := 0) (by decide) (by decide) (by decide) (by decide)
  refine own_Go.by st2 ?_
  have O3 := O0.ext E2
  have K3 := K0.ext E2
  show own_Go p.tables e below _ (T2.setTop (mkF m 7 #[.val (Value.ref a1), .val (Value.ref a2), .val (Value.ref a3), .val (Value.ref a4), .val (Value.ref a5), .val (Value.long q6), .second, .val (Value.long q7), .second, .val (Value.long q8), .second, .val (Value.long q9), .second, .val (Value.long q10), .second, .val (Value.ref a11)] [(Value.ref sa2), (Value.ref a1)]))
  have c4 := (H3.ext E2)
  have c5 := (H0.ext E2)
  obtain ⟨T6, h6, X6, e6, W6, st6⟩ := putF X2 hx hZ2 hown2 (host := "") (Or.inl (hw _ (List.mem_of_getElem? (i := 35) rfl))) Via.refl e2 c4 c5 (Or.inl (hw _ (List.mem_of_getElem? (i := 36) rfl))) (hw _ (List.mem_of_getElem? (i := 21) rfl)) (ty := (.object "java/lang/String")) (by decide) rfl rfl (g := (mkF m 7 #[.val (Value.ref a1), .val (Value.ref a2), .val (Value.ref a3), .val (Value.ref a4), .val (Value.ref a5), .val (Value.long q6), .second, .val (Value.long q7), .second, .val (Value.long q8), .second, .val (Value.long q9), .second, .val (Value.long q10), .second, .val (Value.ref a11)] [(Value.ref sa2), (Value.ref a1)])) rfl rfl (hb hby d3_7)
  refine own_Go.by st6 ?_
  have N6 := Fr.snoc X6 N0 H1
  have O7 := O3.wr W6 H1
  have K7 := K3.wr W6 (Or.inl (List.mem_of_getElem? (i := 0) rfl))
  have hk_7 := Nat.le_trans hk2 (Keep.of_wr W6).1
  have F6 := c4.same W6
  show own_Go p.tables e below _ (T6.setTop (mkF m 10 #[.val (Value.ref a1), .val (Value.ref a2), .val (Value.ref a3), .val (Value.ref a4), .val (Value.ref a5), .val (Value.long q6), .second, .val (Value.long q7), .second, .val (Value.long q8), .second, .val (Value.long q9), .second, .val (Value.long q10), .second, .val (Value.ref a11)] []))
  refine own_Go.by (fun tq kq => XS.aloadN X6.here hx rfl (hb hby d3_10) rfl rfl kq) ?_
  show own_Go p.tables e below _ (T6.setTop (mkF m 11 #[.val (Value.ref a1), .val (Value.ref a2), .val (Value.ref a3), .val (Value.ref a4), .val (Value.ref a5), .val (Value.long q6), .second, .val (Value.long q7), .second, .val (Value.long q8), .second, .val (Value.long q9), .second, .val (Value.long q10), .second, .val (Value.ref a11)] [(Value.ref a1)]))
  obtain ⟨T8, X8, e8, st8⟩ := getS2 X6 hx hZ2 hown2 (host := "") (Or.inl (hw _ (List.mem_of_getElem? (i := 37) rfl))) Via.refl e6 (H2.ext O7.2) (g := (mkF m 11 #[.val (Value.ref a1), .val (Value.ref a2), .val (Value.ref a3), .val (Value.ref a4), .val (Value.ref a5), .val (Value.long q6), .second, .val (Value.long q7), .second, .val (Value.long q8), .second, .val (Value.long q9), .second, .val (Value.long q10), .second, .val (Value.ref a11)] [(Value.ref a1)])) rfl (hb hby d3_11)
  refine own_Go.by st8 ?_
  show own_Go p.tables e below _ (T8.setTop (mkF m 14 #[.val (Value.ref a1), .val (Value.ref a2), .val (Value.ref a3), .val (Value.ref a4), .val (Value.ref a5), .val (Value.long q6), .second, .val (Value.long q7), .second, .val (Value.long q8), .second, .val (Value.long q9), .second, .val (Value.long q10), .second, .val (Value.ref a11)] [(Value.ref aG), (Value.ref a1)]))
  have c9 := ((H4.ext E2).other W6 (Or.inr (slot_ne (Or.inl (hw _ (List.mem_of_getElem? (i := 41) rfl))) (Or.inl (hw _ (List.mem_of_getElem? (i := 36) rfl))) (by decide) (t := (.object "com/example/gridmatch/gridmatch/Validity")) (t' := (.object "java/lang/String")) (by decide) (by decide))))
  have c10 := (c5.wr W6)
  obtain ⟨T11, h11, X11, e11, W11, st11⟩ := putF X8 hx hZ2 hown2 (host := "") (Or.inl (hw _ (List.mem_of_getElem? (i := 40) rfl))) Via.refl e8 c9 c10 (Or.inl (hw _ (List.mem_of_getElem? (i := 41) rfl))) (hw _ (List.mem_of_getElem? (i := 21) rfl)) (ty := (.object "com/example/gridmatch/gridmatch/Validity")) (by decide) rfl rfl (g := (mkF m 14 #[.val (Value.ref a1), .val (Value.ref a2), .val (Value.ref a3), .val (Value.ref a4), .val (Value.ref a5), .val (Value.long q6), .second, .val (Value.long q7), .second, .val (Value.long q8), .second, .val (Value.long q9), .second, .val (Value.long q10), .second, .val (Value.ref a11)] [(Value.ref aG), (Value.ref a1)])) rfl rfl (hb hby d3_14)
  refine own_Go.by st11 ?_
  have N11 := Fr.snoc X11 N6 H1
  have O12 := O7.wr W11 H1
  have K12 := K7.wr W11 (Or.inl (List.mem_of_getElem? (i := 0) rfl))
  have hk_12 := Nat.le_trans hk_7 (Keep.of_wr W11).1
  have F11 := c9.same W11
  show own_Go p.tables e below _ (T11.setTop (mkF m 17 #[.val (Value.ref a1), .val (Value.ref a2), .val (Value.ref a3), .val (Value.ref a4), .val (Value.ref a5), .val (Value.long q6), .second, .val (Value.long q7), .second, .val (Value.long q8), .second, .val (Value.long q9), .second, .val (Value.long q10), .second, .val (Value.ref a11)] []))
  refine own_Go.by (fun tq kq => XS.aloadN X11.here hx rfl (hb hby d3_17) rfl rfl kq) ?_
  show own_Go p.tables e below _ (T11.setTop (mkF m 18 #[.val (Value.ref a1), .val (Value.ref a2), .val (Value.ref a3), .val (Value.ref a4), .val (Value.ref a5), .val (Value.long q6), .second, .val (Value.long q7), .second, .val (Value.long q8), .second, .val (Value.long q9), .second, .val (Value.long q10), .second, .val (Value.ref a11)] [(Value.ref a1)]))
  refine own_Go.by (fun tq kq => XS.aloadN X11.here hx rfl (hb hby d3_18) rfl rfl kq) ?_
  show own_Go p.tables e below _ (T11.setTop (mkF m 19 #[.val (Value.ref a1), .val (Value.ref a2), .val (Value.ref a3), .val (Value.ref a4), .val (Value.ref a5), .val (Value.long q6), .second, .val (Value.long q7), .second, .val (Value.long q8), .second, .val (Value.long q9), .second, .val (Value.long q10), .second, .val (Value.ref a11)] [(Value.ref a2), (Value.ref a1)]))
  have c13 := (((H5.ext E2).other W6 (Or.inr (slot_ne (Or.inr (hw _ (List.mem_of_getElem? (i := 43) rfl))) (Or.inl (hw _ (List.mem_of_getElem? (i := 36) rfl))) (by decide) (t := (.object "java/lang/String")) (t' := (.object "java/lang/String")) (by decide) (by decide)))).other W11 (Or.inr (slot_ne (Or.inr (hw _ (List.mem_of_getElem? (i := 43) rfl))) (Or.inl (hw _ (List.mem_of_getElem? (i := 41) rfl))) (by decide) (t := (.object "java/lang/String")) (t' := (.object "com/example/gridmatch/gridmatch/Validity")) (by decide) (by decide))))
  have c14 := (c10.wr W11)
  obtain ⟨T15, h15, X15, e15, W15, st15⟩ := putF X11 hx hZ2 hown2 (host := "") (Or.inl (hw _ (List.mem_of_getElem? (i := 42) rfl))) Via.refl e11 c13 c14 (Or.inr ⟨(hw _ (List.mem_of_getElem? (i := 43) rfl)), rfl, hnm⟩) (hw _ (List.mem_of_getElem? (i := 21) rfl)) (ty := (.object "java/lang/String")) (by decide) rfl rfl (g := (mkF m 19 #[.val (Value.ref a1), .val (Value.ref a2), .val (Value.ref a3), .val (Value.ref a4), .val (Value.ref a5), .val (Value.long q6), .second, .val (Value.long q7), .second, .val (Value.long q8), .second, .val (Value.long q9), .second, .val (Value.long q10), .second, .val (Value.ref a11)] [(Value.ref a2), (Value.ref a1)])) rfl rfl (hb hby d3_19)
  refine own_Go.by st15 ?_
  have N15 := Fr.snoc X15 N11 H1
  have O16 := O12.wr W15 H1
  have K16 := K12.wr W15 (Or.inl (List.mem_of_getElem? (i := 0) rfl))
  have hk_16 := Nat.le_trans hk_12 (Keep.of_wr W15).1
  have F15 := c13.same W15
  show own_Go p.tables e below _ (T15.setTop (mkF m 22 #[.val (Value.ref a1), .val (Value.ref a2), .val (Value.ref a3), .val (Value.ref a4), .val (Value.ref a5), .val (Value.long q6), .second, .val (Value.long q7), .second, .val (Value.long q8), .second, .val (Value.long q9), .second, .val (Value.long q10), .second, .val (Value.ref a11)] []))
  refine own_Go.by (fun tq kq => XS.aloadN X15.here hx rfl (hb hby d3_22) rfl rfl kq) ?_
  show own_Go p.tables e below _ (T15.setTop (mkF m 23 #[.val (Value.ref a1), .val (Value.ref a2), .val (Value.ref a3), .val (Value.ref a4), .val (Value.ref a5), .val (Value.long q6), .second, .val (Value.long q7), .second, .val (Value.long q8), .second, .val (Value.long q9), .second, .val (Value.long q10), .second, .val (Value.ref a11)] [(Value.ref a1)]))
  refine own_Go.by (fun tq kq => XS.aloadN X15.here hx rfl (hb hby d3_23) rfl rfl kq) ?_
  show own_Go p.tables e below _ (T15.setTop (mkF m 24 #[.val (Value.ref a1), .val (Value.ref a2), .val (Value.ref a3), .val (Value.ref a4), .val (Value.ref a5), .val (Value.long q6), .second, .val (Value.long q7), .second, .val (Value.long q8), .second, .val (Value.long q9), .second, .val (Value.long q10), .second, .val (Value.ref a11)] [(Value.ref a3), (Value.ref a1)]))
  have c17 := ((((H6.ext E2).other W6 (Or.inr (slot_ne (Or.inr (hw _ (List.mem_of_getElem? (i := 45) rfl))) (Or.inl (hw _ (List.mem_of_getElem? (i := 36) rfl))) (by decide) (t := (.object "java/lang/String")) (t' := (.object "java/lang/String")) (by decide) (by decide)))).other W11 (Or.inr (slot_ne (Or.inr (hw _ (List.mem_of_getElem? (i := 45) rfl))) (Or.inl (hw _ (List.mem_of_getElem? (i := 41) rfl))) (by decide) (t := (.object "java/lang/String")) (t' := (.object "com/example/gridmatch/gridmatch/Validity")) (by decide) (by decide)))).other W15 (Or.inr (slot_ne (Or.inr (hw _ (List.mem_of_getElem? (i := 45) rfl))) (Or.inr (hw _ (List.mem_of_getElem? (i := 43) rfl))) (by decide) (t := (.object "java/lang/String")) (t' := (.object "java/lang/String")) (by decide) (by decide))))
  have c18 := (c14.wr W15)
  obtain ⟨T19, h19, X19, e19, W19, st19⟩ := putF X15 hx hZ2 hown2 (host := "") (Or.inl (hw _ (List.mem_of_getElem? (i := 44) rfl))) Via.refl e15 c17 c18 (Or.inr ⟨(hw _ (List.mem_of_getElem? (i := 45) rfl)), rfl, hnm⟩) (hw _ (List.mem_of_getElem? (i := 21) rfl)) (ty := (.object "java/lang/String")) (by decide) rfl rfl (g := (mkF m 24 #[.val (Value.ref a1), .val (Value.ref a2), .val (Value.ref a3), .val (Value.ref a4), .val (Value.ref a5), .val (Value.long q6), .second, .val (Value.long q7), .second, .val (Value.long q8), .second, .val (Value.long q9), .second, .val (Value.long q10), .second, .val (Value.ref a11)] [(Value.ref a3), (Value.ref a1)])) rfl rfl (hb hby d3_24)
  refine own_Go.by st19 ?_
  have N19 := Fr.snoc X19 N15 H1
  have O20 := O16.wr W19 H1
  have K20 := K16.wr W19 (Or.inl (List.mem_of_getElem? (i := 0) rfl))
  have hk_20 := Nat.le_trans hk_16 (Keep.of_wr W19).1
  have F19 := c17.same W19
  show own_Go p.tables e below _ (T19.setTop (mkF m 27 #[.val (Value.ref a1), .val (Value.ref a2), .val (Value.ref a3), .val (Value.ref a4), .val (Value.ref a5), .val (Value.long q6), .second, .val (Value.long q7), .second, .val (Value.long q8), .second, .val (Value.long q9), .second, .val (Value.long q10), .second, .val (Value.ref a11)] []))
  refine own_Go.by (fun tq kq => XS.aloadN X19.here hx rfl (hb hby d3_27) rfl rfl kq) ?_
  show own_Go p.tables e below _ (T19.setTop (mkF m 28 #[.val (Value.ref a1), .val (Value.ref a2), .val (Value.ref a3), .val (Value.ref a4), .val (Value.ref a5), .val (Value.long q6), .second, .val (Value.long q7), .second, .val (Value.long q8), .second, .val (Value.long q9), .second, .val (Value.long q10), .second, .val (Value.ref a11)] [(Value.ref a1)]))
  refine own_Go.by (fun tq kq => XS.aloadN X19.here hx rfl (hb hby d3_28) rfl rfl kq) ?_
  show own_Go p.tables e below _ (T19.setTop (mkF m 29 #[.val (Value.ref a1), .val (Value.ref a2), .val (Value.ref a3), .val (Value.ref a4), .val (Value.ref a5), .val (Value.long q6), .second, .val (Value.long q7), .second, .val (Value.long q8), .second, .val (Value.long q9), .second, .val (Value.long q10), .second, .val (Value.ref a11)] [(Value.ref a4), (Value.ref a1)]))
  have c21 := (((((H7.ext E2).other W6 (Or.inr (slot_ne (Or.inr (hw _ (List.mem_of_getElem? (i := 47) rfl))) (Or.inl (hw _ (List.mem_of_getElem? (i := 36) rfl))) (by decide) (t := (.object "com/example/gridmatch/gridmatch/Side")) (t' := (.object "java/lang/String")) (by decide) (by decide)))).other W11 (Or.inr (slot_ne (Or.inr (hw _ (List.mem_of_getElem? (i := 47) rfl))) (Or.inl (hw _ (List.mem_of_getElem? (i := 41) rfl))) (by decide) (t := (.object "com/example/gridmatch/gridmatch/Side")) (t' := (.object "com/example/gridmatch/gridmatch/Validity")) (by decide) (by decide)))).other W15 (Or.inr (slot_ne (Or.inr (hw _ (List.mem_of_getElem? (i := 47) rfl))) (Or.inr (hw _ (List.mem_of_getElem? (i := 43) rfl))) (by decide) (t := (.object "com/example/gridmatch/gridmatch/Side")) (t' := (.object "java/lang/String")) (by decide) (by decide)))).other W19 (Or.inr (slot_ne (Or.inr (hw _ (List.mem_of_getElem? (i := 47) rfl))) (Or.inr (hw _ (List.mem_of_getElem? (i := 45) rfl))) (by decide) (t := (.object "com/example/gridmatch/gridmatch/Side")) (t' := (.object "java/lang/String")) (by decide) (by decide))))
  have c22 := (c18.wr W19)
  obtain ⟨T23, h23, X23, e23, W23, st23⟩ := putF X19 hx hZ2 hown2 (host := "") (Or.inl (hw _ (List.mem_of_getElem? (i := 46) rfl))) Via.refl e19 c21 c22 (Or.inr ⟨(hw _ (List.mem_of_getElem? (i := 47) rfl)), rfl, hnm⟩) (hw _ (List.mem_of_getElem? (i := 21) rfl)) (ty := (.object "com/example/gridmatch/gridmatch/Side")) (by decide) rfl rfl (g := (mkF m 29 #[.val (Value.ref a1), .val (Value.ref a2), .val (Value.ref a3), .val (Value.ref a4), .val (Value.ref a5), .val (Value.long q6), .second, .val (Value.long q7), .second, .val (Value.long q8), .second, .val (Value.long q9), .second, .val (Value.long q10), .second, .val (Value.ref a11)] [(Value.ref a4), (Value.ref a1)])) rfl rfl (hb hby d3_29)
  refine own_Go.by st23 ?_
  have N23 := Fr.snoc X23 N19 H1
  have O24 := O20.wr W23 H1
  have K24 := K20.wr W23 (Or.inl (List.mem_of_getElem? (i := 0) rfl))
  have hk_24 := Nat.le_trans hk_20 (Keep.of_wr W23).1
  have F23 := c21.same W23
  show own_Go p.tables e below _ (T23.setTop (mkF m 32 #[.val (Value.ref a1), .val (Value.ref a2), .val (Value.ref a3), .val (Value.ref a4), .val (Value.ref a5), .val (Value.long q6), .second, .val (Value.long q7), .second, .val (Value.long q8), .second, .val (Value.long q9), .second, .val (Value.long q10), .second, .val (Value.ref a11)] []))
  refine own_Go.by (fun tq kq => XS.aloadN X23.here hx rfl (hb hby d3_32) rfl rfl kq) ?_
  show own_Go p.tables e below _ (T23.setTop (mkF m 33 #[.val (Value.ref a1), .val (Value.ref a2), .val (Value.ref a3), .val (Value.ref a4), .val (Value.ref a5), .val (Value.long q6), .second, .val (Value.long q7), .second, .val (Value.long q8), .second, .val (Value.long q9), .second, .val (Value.long q10), .second, .val (Value.ref a11)] [(Value.ref a1)]))
  refine own_Go.by (fun tq kq => XS.aload X23.here hx rfl (hb hby d3_33) rfl rfl kq) ?_
  show own_Go p.tables e below _ (T23.setTop (mkF m 35 #[.val (Value.ref a1), .val (Value.ref a2), .val (Value.ref a3), .val (Value.ref a4), .val (Value.ref a5), .val (Value.long q6), .second, .val (Value.long q7), .second, .val (Value.long q8), .second, .val (Value.long q9), .second, .val (Value.long q10), .second, .val (Value.ref a11)] [(Value.ref a5), (Value.ref a1)]))
  have c25 := ((((((H8.ext E2).other W6 (Or.inr (slot_ne (Or.inl (hw _ (List.mem_of_getElem? (i := 49) rfl))) (Or.inl (hw _ (List.mem_of_getElem? (i := 36) rfl))) (by decide) (t := (.object "com/example/gridmatch/gridmatch/OrderType")) (t' := (.object "java/lang/String")) (by decide) (by decide)))).other W11 (Or.inr (slot_ne (Or.inl (hw _ (List.mem_of_getElem? (i := 49) rfl))) (Or.inl (hw _ (List.mem_of_getElem? (i := 41) rfl))) (by decide) (t := (.object "com/example/gridmatch/gridmatch/OrderType")) (t' := (.object "com/example/gridmatch/gridmatch/Validity")) (by decide) (by decide)))).other W15 (Or.inr (slot_ne (Or.inl (hw _ (List.mem_of_getElem? (i := 49) rfl))) (Or.inr (hw _ (List.mem_of_getElem? (i := 43) rfl))) (by decide) (t := (.object "com/example/gridmatch/gridmatch/OrderType")) (t' := (.object "java/lang/String")) (by decide) (by decide)))).other W19 (Or.inr (slot_ne (Or.inl (hw _ (List.mem_of_getElem? (i := 49) rfl))) (Or.inr (hw _ (List.mem_of_getElem? (i := 45) rfl))) (by decide) (t := (.object "com/example/gridmatch/gridmatch/OrderType")) (t' := (.object "java/lang/String")) (by decide) (by decide)))).other W23 (Or.inr (slot_ne (Or.inl (hw _ (List.mem_of_getElem? (i := 49) rfl))) (Or.inr (hw _ (List.mem_of_getElem? (i := 47) rfl))) (by decide) (t := (.object "com/example/gridmatch/gridmatch/OrderType")) (t' := (.object "com/example/gridmatch/gridmatch/Side")) (by decide) (by decide))))
  have c26 := (c22.wr W23)
  obtain ⟨T27, h27, X27, e27, W27, st27⟩ := putF X23 hx hZ2 hown2 (host := "") (Or.inl (hw _ (List.mem_of_getElem? (i := 48) rfl))) Via.refl e23 c25 c26 (Or.inl (hw _ (List.mem_of_getElem? (i := 49) rfl))) (hw _ (List.mem_of_getElem? (i := 21) rfl)) (ty := (.object "com/example/gridmatch/gridmatch/OrderType")) (by decide) rfl rfl (g := (mkF m 35 #[.val (Value.ref a1), .val (Value.ref a2), .val (Value.ref a3), .val (Value.ref a4), .val (Value.ref a5), .val (Value.long q6), .second, .val (Value.long q7), .second, .val (Value.long q8), .second, .val (Value.long q9), .second, .val (Value.long q10), .second, .val (Value.ref a11)] [(Value.ref a5), (Value.ref a1)])) rfl rfl (hb hby d3_35)
  refine own_Go.by st27 ?_
  have N27 := Fr.snoc X27 N23 H1
  have O28 := O24.wr W27 H1
  have K28 := K24.wr W27 (Or.inl (List.mem_of_getElem? (i := 0) rfl))
  have hk_28 := Nat.le_trans hk_24 (Keep.of_wr W27).1
  have F27 := c25.same W27
  show own_Go p.tables e below _ (T27.setTop (mkF m 38 #[.val (Value.ref a1), .val (Value.ref a2), .val (Value.ref a3), .val (Value.ref a4), .val (Value.ref a5), .val (Value.long q6), .second, .val (Value.long q7), .second, .val (Value.long q8), .second, .val (Value.long q9), .second, .val (Value.long q10), .second, .val (Value.ref a11)] []))
  refine own_Go.by (fun tq kq => XS.aloadN X27.here hx rfl (hb hby d3_38) rfl rfl kq) ?_
  show own_Go p.tables e below _ (T27.setTop (mkF m 39 #[.val (Value.ref a1), .val (Value.ref a2), .val (Value.ref a3), .val (Value.ref a4), .val (Value.ref a5), .val (Value.long q6), .second, .val (Value.long q7), .second, .val (Value.long q8), .second, .val (Value.long q9), .second, .val (Value.long q10), .second, .val (Value.ref a11)] [(Value.ref a1)]))
  refine own_Go.by (fun tq kq => XS.lload X27.here hx rfl (hb hby d3_39) rfl kq) ?_
  show own_Go p.tables e below _ (T27.setTop (mkF m 41 #[.val (Value.ref a1), .val (Value.ref a2), .val (Value.ref a3), .val (Value.ref a4), .val (Value.ref a5), .val (Value.long q6), .second, .val (Value.long q7), .second, .val (Value.long q8), .second, .val (Value.long q9), .second, .val (Value.long q10), .second, .val (Value.ref a11)] [(Value.long q6), (Value.ref a1)]))
  have c29 := (((((((H10.ext E2).other W6 (Or.inr (slot_ne (Or.inl (hw _ (List.mem_of_getElem? (i := 51) rfl))) (Or.inl (hw _ (List.mem_of_getElem? (i := 36) rfl))) (by decide) (t := .long) (t' := (.object "java/lang/String")) (by decide) (by decide)))).other W11 (Or.inr (slot_ne (Or.inl (hw _ (List.mem_of_getElem? (i := 51) rfl))) (Or.inl (hw _ (List.mem_of_getElem? (i := 41) rfl))) (by decide) (t := .long) (t' := (.object "com/example/gridmatch/gridmatch/Validity")) (by decide) (by decide)))).other W15 (Or.inr (slot_ne (Or.inl (hw _ (List.mem_of_getElem? (i := 51) rfl))) (Or.inr (hw _ (List.mem_of_getElem? (i := 43) rfl))) (by decide) (t := .long) (t' := (.object "java/lang/String")) (by decide) (by decide)))).other W19 (Or.inr (slot_ne (Or.inl (hw _ (List.mem_of_getElem? (i := 51) rfl))) (Or.inr (hw _ (List.mem_of_getElem? (i := 45) rfl))) (by decide) (t := .long) (t' := (.object "java/lang/String")) (by decide) (by decide)))).other W23 (Or.inr (slot_ne (Or.inl (hw _ (List.mem_of_getElem? (i := 51) rfl))) (Or.inr (hw _ (List.mem_of_getElem? (i := 47) rfl))) (by decide) (t := .long) (t' := (.object "com/example/gridmatch/gridmatch/Side")) (by decide) (by decide)))).other W27 (Or.inr (slot_ne (Or.inl (hw _ (List.mem_of_getElem? (i := 51) rfl))) (Or.inl (hw _ (List.mem_of_getElem? (i := 49) rfl))) (by decide) (t := .long) (t' := (.object "com/example/gridmatch/gridmatch/OrderType")) (by decide) (by decide))))
  have c30 := (c26.wr W27)
  obtain ⟨T31, h31, X31, e31, W31, st31⟩ := putF X27 hx hZ2 hown2 (host := "") (Or.inl (hw _ (List.mem_of_getElem? (i := 50) rfl))) Via.refl e27 c29 c30 (Or.inl (hw _ (List.mem_of_getElem? (i := 51) rfl))) (hw _ (List.mem_of_getElem? (i := 21) rfl)) (ty := .long) (by decide) rfl rfl (g := (mkF m 41 #[.val (Value.ref a1), .val (Value.ref a2), .val (Value.ref a3), .val (Value.ref a4), .val (Value.ref a5), .val (Value.long q6), .second, .val (Value.long q7), .second, .val (Value.long q8), .second, .val (Value.long q9), .second, .val (Value.long q10), .second, .val (Value.ref a11)] [(Value.long q6), (Value.ref a1)])) rfl rfl (hb hby d3_41)
  refine own_Go.by st31 ?_
  have N31 := Fr.snoc X31 N27 H1
  have O32 := O28.wr W31 H1
  have K32 := K28.wr W31 (Or.inl (List.mem_of_getElem? (i := 0) rfl))
  have hk_32 := Nat.le_trans hk_28 (Keep.of_wr W31).1
  have F31 := c29.same W31
  show own_Go p.tables e below _ (T31.setTop (mkF m 44 #[.val (Value.ref a1), .val (Value.ref a2), .val (Value.ref a3), .val (Value.ref a4), .val (Value.ref a5), .val (Value.long q6), .second, .val (Value.long q7), .second, .val (Value.long q8), .second, .val (Value.long q9), .second, .val (Value.long q10), .second, .val (Value.ref a11)] []))
  refine own_Go.by (fun tq kq => XS.aloadN X31.here hx rfl (hb hby d3_44) rfl rfl kq) ?_
  show own_Go p.tables e below _ (T31.setTop (mkF m 45 #[.val (Value.ref a1), .val (Value.ref a2), .val (Value.ref a3), .val (Value.ref a4), .val (Value.ref a5), .val (Value.long q6), .second, .val (Value.long q7), .second, .val (Value.long q8), .second, .val (Value.long q9), .second, .val (Value.long q10), .second, .val (Value.ref a11)] [(Value.ref a1)]))
  refine own_Go.by (fun tq kq => XS.lload X31.here hx rfl (hb hby d3_45) rfl kq) ?_
  show own_Go p.tables e below _ (T31.setTop (mkF m 47 #[.val (Value.ref a1), .val (Value.ref a2), .val (Value.ref a3), .val (Value.ref a4), .val (Value.ref a5), .val (Value.long q6), .second, .val (Value.long q7), .second, .val (Value.long q8), .second, .val (Value.long q9), .second, .val (Value.long q10), .second, .val (Value.ref a11)] [(Value.long q7), (Value.ref a1)]))
  have c33 := ((((((((H11.ext E2).other W6 (Or.inr (slot_ne (Or.inl (hw _ (List.mem_of_getElem? (i := 53) rfl))) (Or.inl (hw _ (List.mem_of_getElem? (i := 36) rfl))) (by decide) (t := .long) (t' := (.object "java/lang/String")) (by decide) (by decide)))).other W11 (Or.inr (slot_ne (Or.inl (hw _ (List.mem_of_getElem? (i := 53) rfl))) (Or.inl (hw _ (List.mem_of_getElem? (i := 41) rfl))) (by decide) (t := .long) (t' := (.object "com/example/gridmatch/gridmatch/Validity")) (by decide) (by decide)))).other W15 (Or.inr (slot_ne (Or.inl (hw _ (List.mem_of_getElem? (i := 53) rfl))) (Or.inr (hw _ (List.mem_of_getElem? (i := 43) rfl))) (by decide) (t := .long) (t' := (.object "java/lang/String")) (by decide) (by decide)))).other W19 (Or.inr (slot_ne (Or.inl (hw _ (List.mem_of_getElem? (i := 53) rfl))) (Or.inr (hw _ (List.mem_of_getElem? (i := 45) rfl))) (by decide) (t := .long) (t' := (.object "java/lang/String")) (by decide) (by decide)))).other W23 (Or.inr (slot_ne (Or.inl (hw _ (List.mem_of_getElem? (i := 53) rfl))) (Or.inr (hw _ (List.mem_of_getElem? (i := 47) rfl))) (by decide) (t := .long) (t' := (.object "com/example/gridmatch/gridmatch/Side")) (by decide) (by decide)))).other W27 (Or.inr (slot_ne (Or.inl (hw _ (List.mem_of_getElem? (i := 53) rfl))) (Or.inl (hw _ (List.mem_of_getElem? (i := 49) rfl))) (by decide) (t := .long) (t' := (.object "com/example/gridmatch/gridmatch/OrderType")) (by decide) (by decide)))).other W31 (Or.inr (slot_ne (Or.inl (hw _ (List.mem_of_getElem? (i := 53) rfl))) (Or.inl (hw _ (List.mem_of_getElem? (i := 51) rfl))) (by decide) (t := .long) (t' := .long) (by decide) (by decide))))
  have c34 := (c30.wr W31)
  obtain ⟨T35, h35, X35, e35, W35, st35⟩ := putF X31 hx hZ2 hown2 (host := "") (Or.inl (hw _ (List.mem_of_getElem? (i := 52) rfl))) Via.refl e31 c33 c34 (Or.inl (hw _ (List.mem_of_getElem? (i := 53) rfl))) (hw _ (List.mem_of_getElem? (i := 21) rfl)) (ty := .long) (by decide) rfl rfl (g := (mkF m 47 #[.val (Value.ref a1), .val (Value.ref a2), .val (Value.ref a3), .val (Value.ref a4), .val (Value.ref a5), .val (Value.long q6), .second, .val (Value.long q7), .second, .val (Value.long q8), .second, .val (Value.long q9), .second, .val (Value.long q10), .second, .val (Value.ref a11)] [(Value.long q7), (Value.ref a1)])) rfl rfl (hb hby d3_47)
  refine own_Go.by st35 ?_
  have N35 := Fr.snoc X35 N31 H1
  have O36 := O32.wr W35 H1
  have K36 := K32.wr W35 (Or.inl (List.mem_of_getElem? (i := 0) rfl))
  have hk_36 := Nat.le_trans hk_32 (Keep.of_wr W35).1
  have F35 := c33.same W35
  show own_Go p.tables e below _ (T35.setTop (mkF m 50 #[.val (Value.ref a1), .val (Value.ref a2), .val (Value.ref a3), .val (Value.ref a4), .val (Value.ref a5), .val (Value.long q6), .second, .val (Value.long q7), .second, .val (Value.long q8), .second, .val (Value.long q9), .second, .val (Value.long q10), .second, .val (Value.ref a11)] []))
  refine own_Go.by (fun tq kq => XS.aloadN X35.here hx rfl (hb hby d3_50) rfl rfl kq) ?_
  show own_Go p.tables e below _ (T35.setTop (mkF m 51 #[.val (Value.ref a1), .val (Value.ref a2), .val (Value.ref a3), .val (Value.ref a4), .val (Value.ref a5), .val (Value.long q6), .second, .val (Value.long q7), .second, .val (Value.long q8), .second, .val (Value.long q9), .second, .val (Value.long q10), .second, .val (Value.ref a11)] [(Value.ref a1)]))
  refine own_Go.by (fun tq kq => XS.lload X35.here hx rfl (hb hby d3_51) rfl kq) ?_
  show own_Go p.tables e below _ (T35.setTop (mkF m 53 #[.val (Value.ref a1), .val (Value.ref a2), .val (Value.ref a3), .val (Value.ref a4), .val (Value.ref a5), .val (Value.long q6), .second, .val (Value.long q7), .second, .val (Value.long q8), .second, .val (Value.long q9), .second, .val (Value.long q10), .second, .val (Value.ref a11)] [(Value.long q8), (Value.ref a1)]))
  have c37 := (((((((((H12.ext E2).other W6 (Or.inr (slot_ne (Or.inl (hw _ (List.mem_of_getElem? (i := 55) rfl))) (Or.inl (hw _ (List.mem_of_getElem? (i := 36) rfl))) (by decide) (t := .long) (t' := (.object "java/lang/String")) (by decide) (by decide)))).other W11 (Or.inr (slot_ne (Or.inl (hw _ (List.mem_of_getElem? (i := 55) rfl))) (Or.inl (hw _ (List.mem_of_getElem? (i := 41) rfl))) (by decide) (t := .long) (t' := (.object "com/example/gridmatch/gridmatch/Validity")) (by decide) (by decide)))).other W15 (Or.inr (slot_ne (Or.inl (hw _ (List.mem_of_getElem? (i := 55) rfl))) (Or.inr (hw _ (List.mem_of_getElem? (i := 43) rfl))) (by decide) (t := .long) (t' := (.object "java/lang/String")) (by decide) (by decide)))).other W19 (Or.inr (slot_ne (Or.inl (hw _ (List.mem_of_getElem? (i := 55) rfl))) (Or.inr (hw _ (List.mem_of_getElem? (i := 45) rfl))) (by decide) (t := .long) (t' := (.object "java/lang/String")) (by decide) (by decide)))).other W23 (Or.inr (slot_ne (Or.inl (hw _ (List.mem_of_getElem? (i := 55) rfl))) (Or.inr (hw _ (List.mem_of_getElem? (i := 47) rfl))) (by decide) (t := .long) (t' := (.object "com/example/gridmatch/gridmatch/Side")) (by decide) (by decide)))).other W27 (Or.inr (slot_ne (Or.inl (hw _ (List.mem_of_getElem? (i := 55) rfl))) (Or.inl (hw _ (List.mem_of_getElem? (i := 49) rfl))) (by decide) (t := .long) (t' := (.object "com/example/gridmatch/gridmatch/OrderType")) (by decide) (by decide)))).other W31 (Or.inr (slot_ne (Or.inl (hw _ (List.mem_of_getElem? (i := 55) rfl))) (Or.inl (hw _ (List.mem_of_getElem? (i := 51) rfl))) (by decide) (t := .long) (t' := .long) (by decide) (by decide)))).other W35 (Or.inr (slot_ne (Or.inl (hw _ (List.mem_of_getElem? (i := 55) rfl))) (Or.inl (hw _ (List.mem_of_getElem? (i := 53) rfl))) (by decide) (t := .long) (t' := .long) (by decide) (by decide))))
  have c38 := (c34.wr W35)
  obtain ⟨T39, h39, X39, e39, W39, st39⟩ := putF X35 hx hZ2 hown2 (host := "") (Or.inl (hw _ (List.mem_of_getElem? (i := 54) rfl))) Via.refl e35 c37 c38 (Or.inl (hw _ (List.mem_of_getElem? (i := 55) rfl))) (hw _ (List.mem_of_getElem? (i := 21) rfl)) (ty := .long) (by decide) rfl rfl (g := (mkF m 53 #[.val (Value.ref a1), .val (Value.ref a2), .val (Value.ref a3), .val (Value.ref a4), .val (Value.ref a5), .val (Value.long q6), .second, .val (Value.long q7), .second, .val (Value.long q8), .second, .val (Value.long q9), .second, .val (Value.long q10), .second, .val (Value.ref a11)] [(Value.long q8), (Value.ref a1)])) rfl rfl (hb hby d3_53)
  refine own_Go.by st39 ?_
  have N39 := Fr.snoc X39 N35 H1
  have O40 := O36.wr W39 H1
  have K40 := K36.wr W39 (Or.inl (List.mem_of_getElem? (i := 0) rfl))
  have hk_40 := Nat.le_trans hk_36 (Keep.of_wr W39).1
  have F39 := c37.same W39
  show own_Go p.tables e below _ (T39.setTop (mkF m 56 #[.val (Value.ref a1), .val (Value.ref a2), .val (Value.ref a3), .val (Value.ref a4), .val (Value.ref a5), .val (Value.long q6), .second, .val (Value.long q7), .second, .val (Value.long q8), .second, .val (Value.long q9), .second, .val (Value.long q10), .second, .val (Value.ref a11)] []))
  refine own_Go.by (fun tq kq => XS.aloadN X39.here hx rfl (hb hby d3_56) rfl rfl kq) ?_
  show own_Go p.tables e below _ (T39.setTop (mkF m 57 #[.val (Value.ref a1), .val (Value.ref a2), .val (Value.ref a3), .val (Value.ref a4), .val (Value.ref a5), .val (Value.long q6), .second, .val (Value.long q7), .second, .val (Value.long q8), .second, .val (Value.long q9), .second, .val (Value.long q10), .second, .val (Value.ref a11)] [(Value.ref a1)]))
  refine own_Go.by (fun tq kq => XS.lload X39.here hx rfl (hb hby d3_57) rfl kq) ?_
  show own_Go p.tables e below _ (T39.setTop (mkF m 59 #[.val (Value.ref a1), .val (Value.ref a2), .val (Value.ref a3), .val (Value.ref a4), .val (Value.ref a5), .val (Value.long q6), .second, .val (Value.long q7), .second, .val (Value.long q8), .second, .val (Value.long q9), .second, .val (Value.long q10), .second, .val (Value.ref a11)] [(Value.long q9), (Value.ref a1)]))
  have c41 := ((((((((((H13.ext E2).other W6 (Or.inr (slot_ne (Or.inr (hw _ (List.mem_of_getElem? (i := 57) rfl))) (Or.inl (hw _ (List.mem_of_getElem? (i := 36) rfl))) (by decide) (t := .long) (t' := (.object "java/lang/String")) (by decide) (by decide)))).other W11 (Or.inr (slot_ne (Or.inr (hw _ (List.mem_of_getElem? (i := 57) rfl))) (Or.inl (hw _ (List.mem_of_getElem? (i := 41) rfl))) (by decide) (t := .long) (t' := (.object "com/example/gridmatch/gridmatch/Validity")) (by decide) (by decide)))).other W15 (Or.inr (slot_ne (Or.inr (hw _ (List.mem_of_getElem? (i := 57) rfl))) (Or.inr (hw _ (List.mem_of_getElem? (i := 43) rfl))) (by decide) (t := .long) (t' := (.object "java/lang/String")) (by decide) (by decide)))).other W19 (Or.inr (slot_ne (Or.inr (hw _ (List.mem_of_getElem? (i := 57) rfl))) (Or.inr (hw _ (List.mem_of_getElem? (i := 45) rfl))) (by decide) (t := .long) (t' := (.object "java/lang/String")) (by decide) (by decide)))).other W23 (Or.inr (slot_ne (Or.inr (hw _ (List.mem_of_getElem? (i := 57) rfl))) (Or.inr (hw _ (List.mem_of_getElem? (i := 47) rfl))) (by decide) (t := .long) (t' := (.object "com/example/gridmatch/gridmatch/Side")) (by decide) (by decide)))).other W27 (Or.inr (slot_ne (Or.inr (hw _ (List.mem_of_getElem? (i := 57) rfl))) (Or.inl (hw _ (List.mem_of_getElem? (i := 49) rfl))) (by decide) (t := .long) (t' := (.object "com/example/gridmatch/gridmatch/OrderType")) (by decide) (by decide)))).other W31 (Or.inr (slot_ne (Or.inr (hw _ (List.mem_of_getElem? (i := 57) rfl))) (Or.inl (hw _ (List.mem_of_getElem? (i := 51) rfl))) (by decide) (t := .long) (t' := .long) (by decide) (by decide)))).other W35 (Or.inr (slot_ne (Or.inr (hw _ (List.mem_of_getElem? (i := 57) rfl))) (Or.inl (hw _ (List.mem_of_getElem? (i := 53) rfl))) (by decide) (t := .long) (t' := .long) (by decide) (by decide)))).other W39 (Or.inr (slot_ne (Or.inr (hw _ (List.mem_of_getElem? (i := 57) rfl))) (Or.inl (hw _ (List.mem_of_getElem? (i := 55) rfl))) (by decide) (t := .long) (t' := .long) (by decide) (by decide))))
  have c42 := (c38.wr W39)
  obtain ⟨T43, h43, X43, e43, W43, st43⟩ := putF X39 hx hZ2 hown2 (host := "") (Or.inl (hw _ (List.mem_of_getElem? (i := 56) rfl))) Via.refl e39 c41 c42 (Or.inr ⟨(hw _ (List.mem_of_getElem? (i := 57) rfl)), rfl, hnm⟩) (hw _ (List.mem_of_getElem? (i := 21) rfl)) (ty := .long) (by decide) rfl rfl (g := (mkF m 59 #[.val (Value.ref a1), .val (Value.ref a2), .val (Value.ref a3), .val (Value.ref a4), .val (Value.ref a5), .val (Value.long q6), .second, .val (Value.long q7), .second, .val (Value.long q8), .second, .val (Value.long q9), .second, .val (Value.long q10), .second, .val (Value.ref a11)] [(Value.long q9), (Value.ref a1)])) rfl rfl (hb hby d3_59)
  refine own_Go.by st43 ?_
  have N43 := Fr.snoc X43 N39 H1
  have O44 := O40.wr W43 H1
  have K44 := K40.wr W43 (Or.inl (List.mem_of_getElem? (i := 0) rfl))
  have hk_44 := Nat.le_trans hk_40 (Keep.of_wr W43).1
  have F43 := c41.same W43
  show own_Go p.tables e below _ (T43.setTop (mkF m 62 #[.val (Value.ref a1), .val (Value.ref a2), .val (Value.ref a3), .val (Value.ref a4), .val (Value.ref a5), .val (Value.long q6), .second, .val (Value.long q7), .second, .val (Value.long q8), .second, .val (Value.long q9), .second, .val (Value.long q10), .second, .val (Value.ref a11)] []))
  refine own_Go.by (fun tq kq => XS.aloadN X43.here hx rfl (hb hby d3_62) rfl rfl kq) ?_
  show own_Go p.tables e below _ (T43.setTop (mkF m 63 #[.val (Value.ref a1), .val (Value.ref a2), .val (Value.ref a3), .val (Value.ref a4), .val (Value.ref a5), .val (Value.long q6), .second, .val (Value.long q7), .second, .val (Value.long q8), .second, .val (Value.long q9), .second, .val (Value.long q10), .second, .val (Value.ref a11)] [(Value.ref a1)]))
  refine own_Go.by (fun tq kq => XS.lload X43.here hx rfl (hb hby d3_63) rfl kq) ?_
  show own_Go p.tables e below _ (T43.setTop (mkF m 65 #[.val (Value.ref a1), .val (Value.ref a2), .val (Value.ref a3), .val (Value.ref a4), .val (Value.ref a5), .val (Value.long q6), .second, .val (Value.long q7), .second, .val (Value.long q8), .second, .val (Value.long q9), .second, .val (Value.long q10), .second, .val (Value.ref a11)] [(Value.long q10), (Value.ref a1)]))
  have c45 := (((((((((((H14.ext E2).other W6 (Or.inr (slot_ne (Or.inr (hw _ (List.mem_of_getElem? (i := 59) rfl))) (Or.inl (hw _ (List.mem_of_getElem? (i := 36) rfl))) (by decide) (t := .long) (t' := (.object "java/lang/String")) (by decide) (by decide)))).other W11 (Or.inr (slot_ne (Or.inr (hw _ (List.mem_of_getElem? (i := 59) rfl))) (Or.inl (hw _ (List.mem_of_getElem? (i := 41) rfl))) (by decide) (t := .long) (t' := (.object "com/example/gridmatch/gridmatch/Validity")) (by decide) (by decide)))).other W15 (Or.inr (slot_ne (Or.inr (hw _ (List.mem_of_getElem? (i := 59) rfl))) (Or.inr (hw _ (List.mem_of_getElem? (i := 43) rfl))) (by decide) (t := .long) (t' := (.object "java/lang/String")) (by decide) (by decide)))).other W19 (Or.inr (slot_ne (Or.inr (hw _ (List.mem_of_getElem? (i := 59) rfl))) (Or.inr (hw _ (List.mem_of_getElem? (i := 45) rfl))) (by decide) (t := .long) (t' := (.object "java/lang/String")) (by decide) (by decide)))).other W23 (Or.inr (slot_ne (Or.inr (hw _ (List.mem_of_getElem? (i := 59) rfl))) (Or.inr (hw _ (List.mem_of_getElem? (i := 47) rfl))) (by decide) (t := .long) (t' := (.object "com/example/gridmatch/gridmatch/Side")) (by decide) (by decide)))).other W27 (Or.inr (slot_ne (Or.inr (hw _ (List.mem_of_getElem? (i := 59) rfl))) (Or.inl (hw _ (List.mem_of_getElem? (i := 49) rfl))) (by decide) (t := .long) (t' := (.object "com/example/gridmatch/gridmatch/OrderType")) (by decide) (by decide)))).other W31 (Or.inr (slot_ne (Or.inr (hw _ (List.mem_of_getElem? (i := 59) rfl))) (Or.inl (hw _ (List.mem_of_getElem? (i := 51) rfl))) (by decide) (t := .long) (t' := .long) (by decide) (by decide)))).other W35 (Or.inr (slot_ne (Or.inr (hw _ (List.mem_of_getElem? (i := 59) rfl))) (Or.inl (hw _ (List.mem_of_getElem? (i := 53) rfl))) (by decide) (t := .long) (t' := .long) (by decide) (by decide)))).other W39 (Or.inr (slot_ne (Or.inr (hw _ (List.mem_of_getElem? (i := 59) rfl))) (Or.inl (hw _ (List.mem_of_getElem? (i := 55) rfl))) (by decide) (t := .long) (t' := .long) (by decide) (by decide)))).other W43 (Or.inr (slot_ne (Or.inr (hw _ (List.mem_of_getElem? (i := 59) rfl))) (Or.inr (hw _ (List.mem_of_getElem? (i := 57) rfl))) (by decide) (t := .long) (t' := .long) (by decide) (by decide))))
  have c46 := (c42.wr W43)
  obtain ⟨T47, h47, X47, e47, W47, st47⟩ := putF X43 hx hZ2 hown2 (host := "") (Or.inl (hw _ (List.mem_of_getElem? (i := 58) rfl))) Via.refl e43 c45 c46 (Or.inr ⟨(hw _ (List.mem_of_getElem? (i := 59) rfl)), rfl, hnm⟩) (hw _ (List.mem_of_getElem? (i := 21) rfl)) (ty := .long) (by decide) rfl rfl (g := (mkF m 65 #[.val (Value.ref a1), .val (Value.ref a2), .val (Value.ref a3), .val (Value.ref a4), .val (Value.ref a5), .val (Value.long q6), .second, .val (Value.long q7), .second, .val (Value.long q8), .second, .val (Value.long q9), .second, .val (Value.long q10), .second, .val (Value.ref a11)] [(Value.long q10), (Value.ref a1)])) rfl rfl (hb hby d3_65)
  refine own_Go.by st47 ?_
  have N47 := Fr.snoc X47 N43 H1
  have O48 := O44.wr W47 H1
  have K48 := K44.wr W47 (Or.inl (List.mem_of_getElem? (i := 0) rfl))
  have hk_48 := Nat.le_trans hk_44 (Keep.of_wr W47).1
  have F47 := c45.same W47
  show own_Go p.tables e below _ (T47.setTop (mkF m 68 #[.val (Value.ref a1), .val (Value.ref a2), .val (Value.ref a3), .val (Value.ref a4), .val (Value.ref a5), .val (Value.long q6), .second, .val (Value.long q7), .second, .val (Value.long q8), .second, .val (Value.long q9), .second, .val (Value.long q10), .second, .val (Value.ref a11)] []))
  refine own_Go.by (fun tq kq => XS.aloadN X47.here hx rfl (hb hby d3_68) rfl rfl kq) ?_
  show own_Go p.tables e below _ (T47.setTop (mkF m 69 #[.val (Value.ref a1), .val (Value.ref a2), .val (Value.ref a3), .val (Value.ref a4), .val (Value.ref a5), .val (Value.long q6), .second, .val (Value.long q7), .second, .val (Value.long q8), .second, .val (Value.long q9), .second, .val (Value.long q10), .second, .val (Value.ref a11)] [(Value.ref a1)]))
  refine own_Go.by (fun tq kq => XS.aload X47.here hx rfl (hb hby d3_69) rfl rfl kq) ?_
  show own_Go p.tables e below _ (T47.setTop (mkF m 71 #[.val (Value.ref a1), .val (Value.ref a2), .val (Value.ref a3), .val (Value.ref a4), .val (Value.ref a5), .val (Value.long q6), .second, .val (Value.long q7), .second, .val (Value.long q8), .second, .val (Value.long q9), .second, .val (Value.long q10), .second, .val (Value.ref a11)] [(Value.ref a11), (Value.ref a1)]))
  have c49 := ((((((((((((H9.ext E2).other W6 (Or.inr (slot_ne (Or.inl (hw _ (List.mem_of_getElem? (i := 61) rfl))) (Or.inl (hw _ (List.mem_of_getElem? (i := 36) rfl))) (by decide) (t := (.object "com/example/gridmatch/gridmatch/Restriction")) (t' := (.object "java/lang/String")) (by decide) (by decide)))).other W11 (Or.inr (slot_ne (Or.inl (hw _ (List.mem_of_getElem? (i := 61) rfl))) (Or.inl (hw _ (List.mem_of_getElem? (i := 41) rfl))) (by decide) (t := (.object "com/example/gridmatch/gridmatch/Restriction")) (t' := (.object "com/example/gridmatch/gridmatch/Validity")) (by decide) (by decide)))).other W15 (Or.inr (slot_ne (Or.inl (hw _ (List.mem_of_getElem? (i := 61) rfl))) (Or.inr (hw _ (List.mem_of_getElem? (i := 43) rfl))) (by decide) (t := (.object "com/example/gridmatch/gridmatch/Restriction")) (t' := (.object "java/lang/String")) (by decide) (by decide)))).other W19 (Or.inr (slot_ne (Or.inl (hw _ (List.mem_of_getElem? (i := 61) rfl))) (Or.inr (hw _ (List.mem_of_getElem? (i := 45) rfl))) (by decide) (t := (.object "com/example/gridmatch/gridmatch/Restriction")) (t' := (.object "java/lang/String")) (by decide) (by decide)))).other W23 (Or.inr (slot_ne (Or.inl (hw _ (List.mem_of_getElem? (i := 61) rfl))) (Or.inr (hw _ (List.mem_of_getElem? (i := 47) rfl))) (by decide) (t := (.object "com/example/gridmatch/gridmatch/Restriction")) (t' := (.object "com/example/gridmatch/gridmatch/Side")) (by decide) (by decide)))).other W27 (Or.inr (slot_ne (Or.inl (hw _ (List.mem_of_getElem? (i := 61) rfl))) (Or.inl (hw _ (List.mem_of_getElem? (i := 49) rfl))) (by decide) (t := (.object "com/example/gridmatch/gridmatch/Restriction")) (t' := (.object "com/example/gridmatch/gridmatch/OrderType")) (by decide) (by decide)))).other W31 (Or.inr (slot_ne (Or.inl (hw _ (List.mem_of_getElem? (i := 61) rfl))) (Or.inl (hw _ (List.mem_of_getElem? (i := 51) rfl))) (by decide) (t := (.object "com/example/gridmatch/gridmatch/Restriction")) (t' := .long) (by decide) (by decide)))).other W35 (Or.inr (slot_ne (Or.inl (hw _ (List.mem_of_getElem? (i := 61) rfl))) (Or.inl (hw _ (List.mem_of_getElem? (i := 53) rfl))) (by decide) (t := (.object "com/example/gridmatch/gridmatch/Restriction")) (t' := .long) (by decide) (by decide)))).other W39 (Or.inr (slot_ne (Or.inl (hw _ (List.mem_of_getElem? (i := 61) rfl))) (Or.inl (hw _ (List.mem_of_getElem? (i := 55) rfl))) (by decide) (t := (.object "com/example/gridmatch/gridmatch/Restriction")) (t' := .long) (by decide) (by decide)))).other W43 (Or.inr (slot_ne (Or.inl (hw _ (List.mem_of_getElem? (i := 61) rfl))) (Or.inr (hw _ (List.mem_of_getElem? (i := 57) rfl))) (by decide) (t := (.object "com/example/gridmatch/gridmatch/Restriction")) (t' := .long) (by decide) (by decide)))).other W47 (Or.inr (slot_ne (Or.inl (hw _ (List.mem_of_getElem? (i := 61) rfl))) (Or.inr (hw _ (List.mem_of_getElem? (i := 59) rfl))) (by decide) (t := (.object "com/example/gridmatch/gridmatch/Restriction")) (t' := .long) (by decide) (by decide))))
  have c50 := (c46.wr W47)
  obtain ⟨T51, h51, X51, e51, W51, st51⟩ := putF X47 hx hZ2 hown2 (host := "") (Or.inl (hw _ (List.mem_of_getElem? (i := 60) rfl))) Via.refl e47 c49 c50 (Or.inl (hw _ (List.mem_of_getElem? (i := 61) rfl))) (hw _ (List.mem_of_getElem? (i := 21) rfl)) (ty := (.object "com/example/gridmatch/gridmatch/Restriction")) (by decide) rfl rfl (g := (mkF m 71 #[.val (Value.ref a1), .val (Value.ref a2), .val (Value.ref a3), .val (Value.ref a4), .val (Value.ref a5), .val (Value.long q6), .second, .val (Value.long q7), .second, .val (Value.long q8), .second, .val (Value.long q9), .second, .val (Value.long q10), .second, .val (Value.ref a11)] [(Value.ref a11), (Value.ref a1)])) rfl rfl (hb hby d3_71)
  refine own_Go.by st51 ?_
  have N51 := Fr.snoc X51 N47 H1
  have O52 := O48.wr W51 H1
  have K52 := K48.wr W51 (Or.inl (List.mem_of_getElem? (i := 0) rfl))
  have hk_52 := Nat.le_trans hk_48 (Keep.of_wr W51).1
  have F51 := c49.same W51
  show own_Go p.tables e below _ (T51.setTop (mkF m 74 #[.val (Value.ref a1), .val (Value.ref a2), .val (Value.ref a3), .val (Value.ref a4), .val (Value.ref a5), .val (Value.long q6), .second, .val (Value.long q7), .second, .val (Value.long q8), .second, .val (Value.long q9), .second, .val (Value.long q10), .second, .val (Value.ref a11)] []))
  have c53 := (c50.wr W51)
  have c54 := ((((F35.other W39 (Or.inr (slot_ne (Or.inl (hw _ (List.mem_of_getElem? (i := 53) rfl))) (Or.inl (hw _ (List.mem_of_getElem? (i := 55) rfl))) (by decide) (t := .long) (t' := .long) (by decide) (by decide)))).other W43 (Or.inr (slot_ne (Or.inl (hw _ (List.mem_of_getElem? (i := 53) rfl))) (Or.inr (hw _ (List.mem_of_getElem? (i := 57) rfl))) (by decide) (t := .long) (t' := .long) (by decide) (by decide)))).other W47 (Or.inr (slot_ne (Or.inl (hw _ (List.mem_of_getElem? (i := 53) rfl))) (Or.inr (hw _ (List.mem_of_getElem? (i := 59) rfl))) (by decide) (t := .long) (t' := .long) (by decide) (by decide)))).other W51 (Or.inr (slot_ne (Or.inl (hw _ (List.mem_of_getElem? (i := 53) rfl))) (Or.inl (hw _ (List.mem_of_getElem? (i := 61) rfl))) (by decide) (t := .long) (t' := (.object "com/example/gridmatch/gridmatch/Restriction")) (by decide) (by decide))))
  have c55 := (((F39.other W43 (Or.inr (slot_ne (Or.inl (hw _ (List.mem_of_getElem? (i := 55) rfl))) (Or.inr (hw _ (List.mem_of_getElem? (i := 57) rfl))) (by decide) (t := .long) (t' := .long) (by decide) (by decide)))).other W47 (Or.inr (slot_ne (Or.inl (hw _ (List.mem_of_getElem? (i := 55) rfl))) (Or.inr (hw _ (List.mem_of_getElem? (i := 59) rfl))) (by decide) (t := .long) (t' := .long) (by decide) (by decide)))).other W51 (Or.inr (slot_ne (Or.inl (hw _ (List.mem_of_getElem? (i := 55) rfl))) (Or.inl (hw _ (List.mem_of_getElem? (i := 61) rfl))) (by decide) (t := .long) (t' := (.object "com/example/gridmatch/gridmatch/Restriction")) (by decide) (by decide))))
  have c56 := (((((((((((((H15.ext E2).other W6 (Or.inr (slot_ne (Or.inl (hw _ (List.mem_of_getElem? (i := 87) rfl))) (Or.inl (hw _ (List.mem_of_getElem? (i := 36) rfl))) (by decide) (t := .long) (t' := (.object "java/lang/String")) (by decide) (by decide)))).other W11 (Or.inr (slot_ne (Or.inl (hw _ (List.mem_of_getElem? (i := 87) rfl))) (Or.inl (hw _ (List.mem_of_getElem? (i := 41) rfl))) (by decide) (t := .long) (t' := (.object "com/example/gridmatch/gridmatch/Validity")) (by decide) (by decide)))).other W15 (Or.inr (slot_ne (Or.inl (hw _ (List.mem_of_getElem? (i := 87) rfl))) (Or.inr (hw _ (List.mem_of_getElem? (i := 43) rfl))) (by decide) (t := .long) (t' := (.object "java/lang/String")) (by decide) (by decide)))).other W19 (Or.inr (slot_ne (Or.inl (hw _ (List.mem_of_getElem? (i := 87) rfl))) (Or.inr (hw _ (List.mem_of_getElem? (i := 45) rfl))) (by decide) (t := .long) (t' := (.object "java/lang/String")) (by decide) (by decide)))).other W23 (Or.inr (slot_ne (Or.inl (hw _ (List.mem_of_getElem? (i := 87) rfl))) (Or.inr (hw _ (List.mem_of_getElem? (i := 47) rfl))) (by decide) (t := .long) (t' := (.object "com/example/gridmatch/gridmatch/Side")) (by decide) (by decide)))).other W27 (Or.inr (slot_ne (Or.inl (hw _ (List.mem_of_getElem? (i := 87) rfl))) (Or.inl (hw _ (List.mem_of_getElem? (i := 49) rfl))) (by decide) (t := .long) (t' := (.object "com/example/gridmatch/gridmatch/OrderType")) (by decide) (by decide)))).other W31 (Or.inr (slot_ne (Or.inl (hw _ (List.mem_of_getElem? (i := 87) rfl))) (Or.inl (hw _ (List.mem_of_getElem? (i := 51) rfl))) (by decide) (t := .long) (t' := .long) (by decide) (by decide)))).other W35 (Or.inr (slot_ne (Or.inl (hw _ (List.mem_of_getElem? (i := 87) rfl))) (Or.inl (hw _ (List.mem_of_getElem? (i := 53) rfl))) (by decide) (t := .long) (t' := .long) (by decide) (by decide)))).other W39 (Or.inr (slot_ne (Or.inl (hw _ (List.mem_of_getElem? (i := 87) rfl))) (Or.inl (hw _ (List.mem_of_getElem? (i := 55) rfl))) (by decide) (t := .long) (t' := .long) (by decide) (by decide)))).other W43 (Or.inr (slot_ne (Or.inl (hw _ (List.mem_of_getElem? (i := 87) rfl))) (Or.inr (hw _ (List.mem_of_getElem? (i := 57) rfl))) (by decide) (t := .long) (t' := .long) (by decide) (by decide)))).other W47 (Or.inr (slot_ne (Or.inl (hw _ (List.mem_of_getElem? (i := 87) rfl))) (Or.inr (hw _ (List.mem_of_getElem? (i := 59) rfl))) (by decide) (t := .long) (t' := .long) (by decide) (by decide)))).other W51 (Or.inr (slot_ne (Or.inl (hw _ (List.mem_of_getElem? (i := 87) rfl))) (Or.inl (hw _ (List.mem_of_getElem? (i := 61) rfl))) (by decide) (t := .long) (t' := (.object "com/example/gridmatch/gridmatch/Restriction")) (by decide) (by decide))))
  have c57 := (((((((((((((H16.ext E2).other W6 (Or.inr (slot_ne (Or.inl (hw _ (List.mem_of_getElem? (i := 63) rfl))) (Or.inl (hw _ (List.mem_of_getElem? (i := 36) rfl))) (by decide) (t := .long) (t' := (.object "java/lang/String")) (by decide) (by decide)))).other W11 (Or.inr (slot_ne (Or.inl (hw _ (List.mem_of_getElem? (i := 63) rfl))) (Or.inl (hw _ (List.mem_of_getElem? (i := 41) rfl))) (by decide) (t := .long) (t' := (.object "com/example/gridmatch/gridmatch/Validity")) (by decide) (by decide)))).other W15 (Or.inr (slot_ne (Or.inl (hw _ (List.mem_of_getElem? (i := 63) rfl))) (Or.inr (hw _ (List.mem_of_getElem? (i := 43) rfl))) (by decide) (t := .long) (t' := (.object "java/lang/String")) (by decide) (by decide)))).other W19 (Or.inr (slot_ne (Or.inl (hw _ (List.mem_of_getElem? (i := 63) rfl))) (Or.inr (hw _ (List.mem_of_getElem? (i := 45) rfl))) (by decide) (t := .long) (t' := (.object "java/lang/String")) (by decide) (by decide)))).other W23 (Or.inr (slot_ne (Or.inl (hw _ (List.mem_of_getElem? (i := 63) rfl))) (Or.inr (hw _ (List.mem_of_getElem? (i := 47) rfl))) (by decide) (t := .long) (t' := (.object "com/example/gridmatch/gridmatch/Side")) (by decide) (by decide)))).other W27 (Or.inr (slot_ne (Or.inl (hw _ (List.mem_of_getElem? (i := 63) rfl))) (Or.inl (hw _ (List.mem_of_getElem? (i := 49) rfl))) (by decide) (t := .long) (t' := (.object "com/example/gridmatch/gridmatch/OrderType")) (by decide) (by decide)))).other W31 (Or.inr (slot_ne (Or.inl (hw _ (List.mem_of_getElem? (i := 63) rfl))) (Or.inl (hw _ (List.mem_of_getElem? (i := 51) rfl))) (by decide) (t := .long) (t' := .long) (by decide) (by decide)))).other W35 (Or.inr (slot_ne (Or.inl (hw _ (List.mem_of_getElem? (i := 63) rfl))) (Or.inl (hw _ (List.mem_of_getElem? (i := 53) rfl))) (by decide) (t := .long) (t' := .long) (by decide) (by decide)))).other W39 (Or.inr (slot_ne (Or.inl (hw _ (List.mem_of_getElem? (i := 63) rfl))) (Or.inl (hw _ (List.mem_of_getElem? (i := 55) rfl))) (by decide) (t := .long) (t' := .long) (by decide) (by decide)))).other W43 (Or.inr (slot_ne (Or.inl (hw _ (List.mem_of_getElem? (i := 63) rfl))) (Or.inr (hw _ (List.mem_of_getElem? (i := 57) rfl))) (by decide) (t := .long) (t' := .long) (by decide) (by decide)))).other W47 (Or.inr (slot_ne (Or.inl (hw _ (List.mem_of_getElem? (i := 63) rfl))) (Or.inr (hw _ (List.mem_of_getElem? (i := 59) rfl))) (by decide) (t := .long) (t' := .long) (by decide) (by decide)))).other W51 (Or.inr (slot_ne (Or.inl (hw _ (List.mem_of_getElem? (i := 63) rfl))) (Or.inl (hw _ (List.mem_of_getElem? (i := 61) rfl))) (by decide) (t := .long) (t' := (.object "com/example/gridmatch/gridmatch/Restriction")) (by decide) (by decide))))
  obtain ⟨fs, hr, hrun, hended, hRE⟩ := Stand.leaveW (s := s) (vm₁ := T2.vm) X51 hS2 (by rw [e51]; exact hk_52) (v := none) (fun _ => rfl)
  refine own_Go.fin (X51.returnOut hx Bd.returns (hb hby d3_74) hr) ⟨hrun, hended, _, _, rfl, ?_, own_rew hRE (by decide) (by decide)⟩
  show Q3 Z a1 a2 a3 a4 a5 q6 q7 q8 q9 q10 a11 aG h0 n0 _ T51.heap _
  rw [e51]
  exact ⟨rfl, N51, K52, c53, c54, c55, c56, c57⟩

theorem own_pd1 : parseMethodDescriptor "(Ljava/lang/String;Ljava/lang/String;Lcom/example/gridmatch/gridmatch/Side;Lcom/example/gridmatch/gridmatch/OrderType;JJJJJLcom/example/gridmatch/gridmatch/Restriction;)V" = some ⟨[(.object "java/lang/String"), (.object "java/lang/String"), (.object "com/example/gridmatch/gridmatch/Side"), (.object "com/example/gridmatch/gridmatch/OrderType"), .long, .long, .long, .long, .long, (.object "com/example/gridmatch/gridmatch/Restriction")], none⟩ := by decide +kernel
theorem d2_0 : decode prog_38_method_3_code 0 = .ok (.new 8, 3) := by decide +kernel
theorem d2_3 : decode prog_38_method_3_code 3 = .ok (.dup, 1) := by decide +kernel
theorem d2_4 : decode prog_38_method_3_code 4 = .ok (.aload_n 0, 1) := by decide +kernel
theorem d2_5 : decode prog_38_method_3_code 5 = .ok (.aload_n 1, 1) := by decide +kernel
theorem d2_6 : decode prog_38_method_3_code 6 = .ok (.aload_n 2, 1) := by decide +kernel
theorem d2_7 : decode prog_38_method_3_code 7 = .ok (.getstatic 66, 3) := by decide +kernel
theorem d2_10 : decode prog_38_method_3_code 10 = .ok (.lload_n 3, 1) := by decide +kernel
theorem d2_11 : decode prog_38_method_3_code 11 = .ok (.lload 5, 2) := by decide +kernel
theorem d2_13 : decode prog_38_method_3_code 13 = .ok (.lload 7, 2) := by decide +kernel
theorem d2_15 : decode prog_38_method_3_code 15 = .ok (.lload 9, 2) := by decide +kernel
theorem d2_17 : decode prog_38_method_3_code 17 = .ok (.lconst 0, 1) := by decide +kernel
theorem d2_18 : decode prog_38_method_3_code 18 = .ok (.getstatic 69, 3) := by decide +kernel
theorem d2_21 : decode prog_38_method_3_code 21 = .ok (.invokespecial 7, 3) := by decide +kernel
theorem d2_24 : decode prog_38_method_3_code 24 = .ok (.areturn, 1) := by decide +kernel
theorem own_ef_2 (m : MethodId) (a1 : Addr) (a2 : Addr) (a3 : Addr) (q4 : Int64) (q5 : Int64) (q6 : Int64) (q7 : Int64) : entryFrame m #[(Value.ref a1), (Value.ref a2), (Value.ref a3), (Value.long q4), (Value.long q5), (Value.long q6), (Value.long q7)] 11 = mkF m 0 #[.val (Value.ref a1), .val (Value.ref a2), .val (Value.ref a3), .val (Value.long q4), .second, .val (Value.long q5), .second, .val (Value.long q6), .second, .val (Value.long q7), .second] [] := by first | (simp [entryFrame, mkF, argsToLocals, Value.category]; done) | rfl
def Q2 (Z : State) (a1 : Addr) (a2 : Addr) (a3 : Addr) (q4 : Int64) (q5 : Int64) (q6 : Int64) (q7 : Int64) (aI : Addr) (aN : Addr) (aG : Addr) (h0 : Heap) (n0 : Nat) (v : Option Value) (h : Heap) (L : List Loc) : Prop := ∃ (b : Addr), v = some (Value.ref b) ∧ Fr n0 L ∧ Keep h0 h [] ∧ (h0.size ≤ b) ∧ (Exa Z h b "com/example/gridmatch/gridmatch/Order") ∧ (Fld Z h b "com/example/gridmatch/gridmatch/Order" "remaining" "J" (Value.long q5)) ∧ (Fld Z h b "com/example/gridmatch/gridmatch/Order" "peak" "J" (Value.long q6)) ∧ (Fld Z h b "com/example/gridmatch/gridmatch/Order" "shown" "J" (Value.long (0 : Int64))) ∧ (Fld Z h b "com/example/gridmatch/gridmatch/Order" "sequence" "J" (Value.long (0 : Int64)))
set_option maxRecDepth 65536 in
set_option maxHeartbeats 40000000 in
theorem rm2 (l : Launch) (Z : State) (a0 : Array Value) (hw : ∀ d ∈ tables_1, d.before a0 Z = true) (ws : List Jvm.Cond) (a1 : Addr) (a2 : Addr) (a3 : Addr) (q4 : Int64) (q5 : Int64) (q6 : Int64) (q7 : Int64) (aI : Addr) (aN : Addr) (aG : Addr) (h0 : Heap) (n0 : Nat) (O0 : Old Z n0 h0) (H0 : Sta Z Z.heap "com/example/gridmatch/gridmatch/OrderType" "ICB" "Lcom/example/gridmatch/gridmatch/OrderType;" (Value.ref aI)) (H1 : Sta Z Z.heap "com/example/gridmatch/gridmatch/Restriction" "NON" "Lcom/example/gridmatch/gridmatch/Restriction;" (Value.ref aN)) (H2 : Sta Z Z.heap "com/example/gridmatch/gridmatch/Validity" "GFS" "Lcom/example/gridmatch/gridmatch/Validity;" (Value.ref aG)) :
    MetFree l (⟨"com/example/gridmatch/gridmatch/Order", "iceberg", "(Ljava/lang/String;Ljava/lang/String;Lcom/example/gridmatch/gridmatch/Side;JJJJ)Lcom/example/gridmatch/gridmatch/Order;"⟩ : MethodName) (head1 (Jvm.Cond.code (⟨"com/example/gridmatch/gridmatch/Order", "iceberg", "(Ljava/lang/String;Ljava/lang/String;Lcom/example/gridmatch/gridmatch/Side;JJJJ)Lcom/example/gridmatch/gridmatch/Order;"⟩ : MethodName) prog_38_method_3_code 11 (some (.object "com/example/gridmatch/gridmatch/Order")) :: ws) ({ frames := 2, cells := 3, slots := 25, locals := 40 } : Room)) (fun a U => a = #[(Value.ref a1), (Value.ref a2), (Value.ref a3), (Value.long q4), (Value.long q5), (Value.long q6), (Value.long q7)] ∧ Z.Warmed39 U.vm ∧ U.heap = h0) (fun _ _ _ _ _ => True) (fun _ U o U' => ∃ v L, o = .returned v ∧ Q2 Z a1 a2 a3 q4 q5 q6 q7 aI aN aG h0 n0 v U'.heap L ∧ ReturnedEndW U o U' L ({ frames := 2, cells := 3, slots := 25, locals := 40 } : Room).cells ({ frames := 2, cells := 3, slots := 25, locals := 40 } : Room).slots) := by
  refine MetFree.of_bodySF (plainFor_of_name own_pn_com_example_gridmatch_gridmatch_Order) hisR ?_
  intro p e s m args below meth c s₁ Bd hml0 hP hK
  obtain ⟨rfl, hZ, hh⟩ := hP
  have hx := Bd.exec
  have hby := Bd.bytes
  have hml : c.maxLocals = 11 := hml0
  have hown : s.vm.findClass "com/example/gridmatch/gridmatch/Order" = some m.cls := findClass_of_methodNamed Bd.named
  have hnm := (name_of_methodNamed Bd.named Bd.method).1
  have X0 : Stand p l e ({ frames := 2, cells := 3, slots := 25, locals := 40 } : Room) s m #[(Value.ref a1), (Value.ref a2), (Value.ref a3), (Value.long q4), (Value.long q5), (Value.long q6), (Value.long q7)] below meth c s₁ [] 0 0 := Stand.of_body Bd
  have e0 : s₁.heap = h0 := by rw [← hh, Bd.state]; rfl
  have hS0 : s.Since s.vm 0 := (State.WarmedH.refl s).since 0
  have N0 := Fr.nil n0
  have K0 : Keep h0 h0 [] := Keep.refl h0 []
  show own_Go p.tables e below _ (s₁.setTop (entryFrame m #[(Value.ref a1), (Value.ref a2), (Value.ref a3), (Value.long q4), (Value.long q5), (Value.long q6), (Value.long q7)] 11))
  refine own_Go.by (fun tq kq => castTop (own_ef_2 m a1 a2 a3 q4 q5 q6 q7) kq) ?_
  show own_Go p.tables e below _ (s₁.setTop (mkF m 0 #[.val (Value.ref a1), .val (Value.ref a2), .val (Value.ref a3), .val (Value.long q4), .second, .val (Value.long q5), .second, .val (Value.long q6), .second, .val (Value.long q7), .second] []))
  obtain ⟨T1, h1, X1, e1, E1, A1, D1, -, st1⟩ := newO X0 hx hZ hown (hw _ (List.mem_of_getElem? (i := 20) rfl)) (hw _ (List.mem_of_getElem? (i := 21) rfl)) (hw _ (List.mem_of_getElem? (i := 18) rfl)) e0 (g := (mkF m 0 #[.val (Value.ref a1), .val (Value.ref a2), .val (Value.ref a3), .val (Value.long q4), .second, .val (Value.long q5), .second, .val (Value.long q6), .second, .val (Value.long q7), .second] [])) rfl (hb hby d2_0) (by decide) (by decide)
  obtain ⟨b1, y1⟩ : ∃ z, z = h0.size := ⟨_, rfl⟩
  rw [← y1] at A1 D1 st1
  refine own_Go.by st1 ?_
  have O2 := O0.ext E1
  have K2 := K0.ext E1
  have g3 : n0 ≤ b1 := Nat.le_trans (own_old_le O0) (Nat.le_of_eq y1.symm)
  have z3 : h0.size ≤ b1 := Nat.le_trans K0.1 (Nat.le_of_eq y1.symm)
  have F1_text : Fld Z h1 b1 "com/example/gridmatch/gridmatch/Order" "text" "Ljava/lang/String;" .null := D1 (Or.inl (hw _ (List.mem_of_getElem? (i := 36) rfl))) (ty := (.object "java/lang/String")) (by decide)
  have F1_validity : Fld Z h1 b1 "com/example/gridmatch/gridmatch/Order" "validity" "Lcom/example/gridmatch/gridmatch/Validity;" .null := D1 (Or.inl (hw _ (List.mem_of_getElem? (i := 41) rfl))) (ty := (.object "com/example/gridmatch/gridmatch/Validity")) (by decide)
  have F1_reference : Fld Z h1 b1 "com/example/gridmatch/gridmatch/Order" "reference" "Ljava/lang/String;" .null := D1 (Or.inr (hw _ (List.mem_of_getElem? (i := 43) rfl))) (ty := (.object "java/lang/String")) (by decide)
  have F1_contract : Fld Z h1 b1 "com/example/gridmatch/gridmatch/Order" "contract" "Ljava/lang/String;" .null := D1 (Or.inr (hw _ (List.mem_of_getElem? (i := 45) rfl))) (ty := (.object "java/lang/String")) (by decide)
  have F1_side : Fld Z h1 b1 "com/example/gridmatch/gridmatch/Order" "side" "Lcom/example/gridmatch/gridmatch/Side;" .null := D1 (Or.inr (hw _ (List.mem_of_getElem? (i := 47) rfl))) (ty := (.object "com/example/gridmatch/gridmatch/Side")) (by decide)
  have F1_type : Fld Z h1 b1 "com/example/gridmatch/gridmatch/Order" "type" "Lcom/example/gridmatch/gridmatch/OrderType;" .null := D1 (Or.inl (hw _ (List.mem_of_getElem? (i := 49) rfl))) (ty := (.object "com/example/gridmatch/gridmatch/OrderType")) (by decide)
  have F1_price : Fld Z h1 b1 "com/example/gridmatch/gridmatch/Order" "price" "J" (Value.long (0 : Int64)) := D1 (Or.inl (hw _ (List.mem_of_getElem? (i := 51) rfl))) (ty := .long) (by decide)
  have F1_remaining : Fld Z h1 b1 "com/example/gridmatch/gridmatch/Order" "remaining" "J" (Value.long (0 : Int64)) := D1 (Or.inl (hw _ (List.mem_of_getElem? (i := 53) rfl))) (ty := .long) (by decide)
  have F1_peak : Fld Z h1 b1 "com/example/gridmatch/gridmatch/Order" "peak" "J" (Value.long (0 : Int64)) := D1 (Or.inl (hw _ (List.mem_of_getElem? (i := 55) rfl))) (ty := .long) (by decide)
  have F1_peakPriceDelta : Fld Z h1 b1 "com/example/gridmatch/gridmatch/Order" "peakPriceDelta" "J" (Value.long (0 : Int64)) := D1 (Or.inr (hw _ (List.mem_of_getElem? (i := 57) rfl))) (ty := .long) (by decide)
  have F1_stopPrice : Fld Z h1 b1 "com/example/gridmatch/gridmatch/Order" "stopPrice" "J" (Value.long (0 : Int64)) := D1 (Or.inr (hw _ (List.mem_of_getElem? (i := 59) rfl))) (ty := .long) (by decide)
  have F1_restriction : Fld Z h1 b1 "com/example/gridmatch/gridmatch/Order" "restriction" "Lcom/example/gridmatch/gridmatch/Restriction;" .null := D1 (Or.inl (hw _ (List.mem_of_getElem? (i := 61) rfl))) (ty := (.object "com/example/gridmatch/gridmatch/Restriction")) (by decide)
  have F1_sequence : Fld Z h1 b1 "com/example/gridmatch/gridmatch/Order" "sequence" "J" (Value.long (0 : Int64)) := D1 (Or.inl (hw _ (List.mem_of_getElem? (i := 63) rfl))) (ty := .long) (by decide)
  have F1_shown : Fld Z h1 b1 "com/example/gridmatch/gridmatch/Order" "shown" "J" (Value.long (0 : Int64)) := D1 (Or.inl (hw _ (List.mem_of_getElem? (i := 87) rfl))) (ty := .long) (by decide)
  show own_Go p.tables e below _ (T1.setTop (mkF m 3 #[.val (Value.ref a1), .val (Value.ref a2), .val (Value.ref a3), .val (Value.long q4), .second, .val (Value.long q5), .second, .val (Value.long q6), .second, .val (Value.long q7), .second] [(Value.ref b1)]))
  refine own_Go.by (fun tq kq => XS.dup X1.here hx rfl (hb hby d2_3) rfl rfl kq) ?_
  show own_Go p.tables e below _ (T1.setTop (mkF m 4 #[.val (Value.ref a1), .val (Value.ref a2), .val (Value.ref a3), .val (Value.long q4), .second, .val (Value.long q5), .second, .val (Value.long q6), .second, .val (Value.long q7), .second] [(Value.ref b1), (Value.ref b1)]))
  refine own_Go.by (fun tq kq => XS.aloadN X1.here hx rfl (hb hby d2_4) rfl rfl kq) ?_
  show own_Go p.tables e below _ (T1.setTop (mkF m 5 #[.val (Value.ref a1), .val (Value.ref a2), .val (Value.ref a3), .val (Value.long q4), .second, .val (Value.long q5), .second, .val (Value.long q6), .second, .val (Value.long q7), .second] [(Value.ref a1), (Value.ref b1), (Value.ref b1)]))
  refine own_Go.by (fun tq kq => XS.aloadN X1.here hx rfl (hb hby d2_5) rfl rfl kq) ?_
  show own_Go p.tables e below _ (T1.setTop (mkF m 6 #[.val (Value.ref a1), .val (Value.ref a2), .val (Value.ref a3), .val (Value.long q4), .second, .val (Value.long q5), .second, .val (Value.long q6), .second, .val (Value.long q7), .second] [(Value.ref a2), (Value.ref a1), (Value.ref b1), (Value.ref b1)]))
  refine own_Go.by (fun tq kq => XS.aloadN X1.here hx rfl (hb hby d2_6) rfl rfl kq) ?_
  show own_Go p.tables e below _ (T1.setTop (mkF m 7 #[.val (Value.ref a1), .val (Value.ref a2), .val (Value.ref a3), .val (Value.long q4), .second, .val (Value.long q5), .second, .val (Value.long q6), .second, .val (Value.long q7), .second] [(Value.ref a3), (Value.ref a2), (Value.ref a1), (Value.ref b1), (Value.ref b1)]))
  obtain ⟨T4, X4, e4, st4⟩ := getS2 X1 hx hZ hown (host := "") (Or.inl (hw _ (List.mem_of_getElem? (i := 22) rfl))) Via.refl e1 (H0.ext O2.2) (g := (mkF m 7 #[.val (Value.ref a1), .val (Value.ref a2), .val (Value.ref a3), .val (Value.long q4), .second, .val (Value.long q5), .second, .val (Value.long q6), .second, .val (Value.long q7), .second] [(Value.ref a3), (Value.ref a2), (Value.ref a1), (Value.ref b1), (Value.ref b1)])) rfl (hb hby d2_7)
  refine own_Go.by st4 ?_
  show own_Go p.tables e below _ (T4.setTop (mkF m 10 #[.val (Value.ref a1), .val (Value.ref a2), .val (Value.ref a3), .val (Value.long q4), .second, .val (Value.long q5), .second, .val (Value.long q6), .second, .val (Value.long q7), .second] [(Value.ref aI), (Value.ref a3), (Value.ref a2), (Value.ref a1), (Value.ref b1), (Value.ref b1)]))
  refine own_Go.by (fun tq kq => XS.lloadN X4.here hx rfl (hb hby d2_10) rfl kq) ?_
  show own_Go p.tables e below _ (T4.setTop (mkF m 11 #[.val (Value.ref a1), .val (Value.ref a2), .val (Value.ref a3), .val (Value.long q4), .second, .val (Value.long q5), .second, .val (Value.long q6), .second, .val (Value.long q7), .second] [(Value.long q4), (Value.ref aI), (Value.ref a3), (Value.ref a2), (Value.ref a1), (Value.ref b1), (Value.ref b1)]))
  refine own_Go.by (fun tq kq => XS.lload X4.here hx rfl (hb hby d2_11) rfl kq) ?_
  show own_Go p.tables e below _ (T4.setTop (mkF m 13 #[.val (Value.ref a1), .val (Value.ref a2), .val (Value.ref a3), .val (Value.long q4), .second, .val (Value.long q5), .second, .val (Value.long q6), .second, .val (Value.long q7), .second] [(Value.long q5), (Value.long q4), (Value.ref aI), (Value.ref a3), (Value.ref a2), (Value.ref a1), (Value.ref b1), (Value.ref b1)]))
  refine own_Go.by (fun tq kq => XS.lload X4.here hx rfl (hb hby d2_13) rfl kq) ?_
  show own_Go p.tables e below _ (T4.setTop (mkF m 15 #[.val (Value.ref a1), .val (Value.ref a2), .val (Value.ref a3), .val (Value.long q4), .second, .val (Value.long q5), .second, .val (Value.long q6), .second, .val (Value.long q7), .second] [(Value.long q6), (Value.long q5), (Value.long q4), (Value.ref aI), (Value.ref a3), (Value.ref a2), (Value.ref a1), (Value.ref b1), (Value.ref b1)]))
  refine own_Go.by (fun tq kq => XS.lload X4.here hx rfl (hb hby d2_15) rfl kq) ?_
  show own_Go p.tables e below _ (T4.setTop (mkF m 17 #[.val (Value.ref a1), .val (Value.ref a2), .val (Value.ref a3), .val (Value.long q4), .second, .val (Value.long q5), .second, .val (Value.long q6), .second, .val (Value.long q7), .second] [(Value.long q7), (Value.long q6), (Value.long q5), (Value.long q4), (Value.ref aI), (Value.ref a3), (Value.ref a2), (Value.ref a1), (Value.ref b1), (Value.ref b1)]))
  refine own_Go.by (fun tq kq => XS.lconst X4.here hx rfl (hb hby d2_17) kq) ?_
  show own_Go p.tables e below _ (T4.setTop (mkF m 18 #[.val (Value.ref a1), .val (Value.ref a2), .val (Value.ref a3), .val (Value.long q4), .second, .val (Value.long q5), .second, .val (Value.long q6), .second, .val (Value.long q7), .second] [(Value.long (0 : Int64)), (Value.long q7), (Value.long q6), (Value.long q5), (Value.long q4), (Value.ref aI), (Value.ref a3), (Value.ref a2), (Value.ref a1), (Value.ref b1), (Value.ref b1)]))
  obtain ⟨T5, X5, e5, st5⟩ := getS2 X4 hx hZ hown (host := "") (Or.inl (hw _ (List.mem_of_getElem? (i := 25) rfl))) Via.refl e4 (H1.ext O2.2) (g := (mkF m 18 #[.val (Value.ref a1), .val (Value.ref a2), .val (Value.ref a3), .val (Value.long q4), .second, .val (Value.long q5), .second, .val (Value.long q6), .second, .val (Value.long q7), .second] [(Value.long (0 : Int64)), (Value.long q7), (Value.long q6), (Value.long q5), (Value.long q4), (Value.ref aI), (Value.ref a3), (Value.ref a2), (Value.ref a1), (Value.ref b1), (Value.ref b1)])) rfl (hb hby d2_18)
  refine own_Go.by st5 ?_
  show own_Go p.tables e below _ (T5.setTop (mkF m 21 #[.val (Value.ref a1), .val (Value.ref a2), .val (Value.ref a3), .val (Value.long q4), .second, .val (Value.long q5), .second, .val (Value.long q6), .second, .val (Value.long q7), .second] [(Value.ref aN), (Value.long (0 : Int64)), (Value.long q7), (Value.long q6), (Value.long q5), (Value.long q4), (Value.ref aI), (Value.ref a3), (Value.ref a2), (Value.ref a1), (Value.ref b1), (Value.ref b1)]))
  obtain ⟨_, _, ⟨T6, L6, k6, n6⟩, -, X6, hs6, hg6, ⟨Lc6, hQ6, l6, y6, z6⟩, st6⟩ := X5.specialBackS hx (y := (⟨"com/example/gridmatch/gridmatch/Order", "<init>", "(Ljava/lang/String;Ljava/lang/String;Lcom/example/gridmatch/gridmatch/Side;Lcom/example/gridmatch/gridmatch/OrderType;JJJJJLcom/example/gridmatch/gridmatch/Restriction;)V"⟩ : MethodName)) rfl hown (mvT hZ (hw _ (List.mem_of_getElem? (i := 28) rfl))) (mvT hZ (hw _ (List.mem_of_getElem? (i := 29) rfl))) (mvT hZ (hw _ (List.mem_of_getElem? (i := 30) rfl))) (by decide) (backOfS (W := 1) (rm3 l Z a0 hw [] b1 a1 a2 a3 aI q4 q5 q6 q7 (0 : Int64) aN aG h1 n0 O2 A1 g3 H2 F1_text F1_validity F1_reference F1_contract F1_side F1_type F1_restriction F1_price F1_remaining F1_peak F1_peakPriceDelta F1_stopPrice F1_shown F1_sequence) hZ (hw _ (List.mem_of_getElem? (i := 30) rfl)) (hw _ (List.mem_of_getElem? (i := 18) rfl)) (by decide) (by decide)) (g := (mkF m 21 #[.val (Value.ref a1), .val (Value.ref a2), .val (Value.ref a3), .val (Value.long q4), .second, .val (Value.long q5), .second, .val (Value.long q6), .second, .val (Value.long q7), .second] [(Value.ref aN), (Value.long (0 : Int64)), (Value.long q7), (Value.long q6), (Value.long q5), (Value.long q4), (Value.ref aI), (Value.ref a3), (Value.ref a2), (Value.ref a1), (Value.ref b1), (Value.ref b1)])) rfl (by rw [hml]; rfl) (Steps.refl _) (a := b1) (argsL := [(Value.ref a1), (Value.ref a2), (Value.ref a3), (Value.ref aI), (Value.long q4), (Value.long q5), (Value.long q6), (Value.long q7), (Value.long (0 : Int64)), (Value.ref aN)]) (rest := [(Value.ref b1)]) (lenOf own_pd1 rfl) rfl (by show 2 * 0 + _ ≤ _; exact Nat.le_of_eq rfl) (hb hby d2_21) (fun _ _ => ⟨rfl, e5, (by decide : 1 + 2 ≤ _), (by decide : 21 + 4 ≤ _)⟩)
  dsimp only [Pt.U, Pt.locs, Pt.cells, Pt.slots] at X6 l6 y6 z6 st6 hQ6 hs6 hg6
  subst l6 y6 z6
  obtain ⟨X6, hS6, hZ6, hown6⟩ := rebS (s := s) (vm0 := s.vm) hS0 (Nat.zero_le _) X6 hs6 hg6 hZ hown
  refine own_Go.by (fun tq kq => st6.trans kq) ?_
  obtain ⟨rfl, N6q, K6q, p6_0, p6_1, p6_2, p6_3, p6_4⟩ := hQ6
  have N6 := Fr.app N0 N6q
  have O7 := O2.keep K6q (allS g3 all0)
  have K7 := K2.trans K6q (allS (Or.inr z3) all0)
  show own_Go p.tables e below _ (T6.setTop (mkF m 24 #[.val (Value.ref a1), .val (Value.ref a2), .val (Value.ref a3), .val (Value.long q4), .second, .val (Value.long q5), .second, .val (Value.long q6), .second, .val (Value.long q7), .second] [(Value.ref b1)]))
  obtain ⟨fs, hr, hrun, hended, hRE⟩ := Stand.leaveW (s := s) (vm₁ := T6.vm) X6 hS6 (Nat.le_refl _) (v := some (Value.ref b1)) (fun h => by rw [Bd.returns] at h; cases h)
  refine own_Go.fin (retOut X6 hx Bd.returns rfl (Or.inr (Or.inr (Or.inr (Or.inr ⟨rfl, rfl, rfl⟩)))) (hb hby d2_24) hr) ⟨hrun, hended, _, _, rfl, ?_, own_rew hRE (by decide) (by decide)⟩
  show Q2 Z a1 a2 a3 q4 q5 q6 q7 aI aN aG h0 n0 _ T6.heap _
  exact ⟨b1, rfl, N6, K7, z3, p6_0, p6_1, p6_2, p6_3, p6_4⟩

theorem d8_0 : decode prog_38_method_28_code 0 = .ok (.aload_n 0, 1) := by decide +kernel
theorem d8_1 : decode prog_38_method_28_code 1 = .ok (.getfield 50, 3) := by decide +kernel
theorem d8_4 : decode prog_38_method_28_code 4 = .ok (.aload_n 0, 1) := by decide +kernel
theorem d8_5 : decode prog_38_method_28_code 5 = .ok (.getfield 93, 3) := by decide +kernel
theorem d8_8 : decode prog_38_method_28_code 8 = .ok (.lsub, 1) := by decide +kernel
theorem d8_9 : decode prog_38_method_28_code 9 = .ok (.lconst 1, 1) := by decide +kernel
theorem d8_10 : decode prog_38_method_28_code 10 = .ok (.lsub, 1) := by decide +kernel
theorem d8_11 : decode prog_38_method_28_code 11 = .ok (.aload_n 0, 1) := by decide +kernel
theorem d8_12 : decode prog_38_method_28_code 12 = .ok (.getfield 53, 3) := by decide +kernel
theorem d8_15 : decode prog_38_method_28_code 15 = .ok (.ldiv, 1) := by decide +kernel
theorem d8_16 : decode prog_38_method_28_code 16 = .ok (.lconst 1, 1) := by decide +kernel
theorem d8_17 : decode prog_38_method_28_code 17 = .ok (.ladd, 1) := by decide +kernel
theorem d8_18 : decode prog_38_method_28_code 18 = .ok (.lreturn, 1) := by decide +kernel
theorem own_ef_8 (m : MethodId) (a1 : Addr) : entryFrame m #[(Value.ref a1)] 1 = mkF m 0 #[.val (Value.ref a1)] [] := by first | (simp [entryFrame, mkF, argsToLocals, Value.category]; done) | rfl
def Q8 (Z : State) (a1 : Addr) (h0 : Heap) (n0 : Nat) (v : Option Value) (h : Heap) (L : List Loc) : Prop := v = some (Value.long (1 : Int64)) ∧ Fr n0 L ∧ h = h0
set_option maxRecDepth 65536 in
set_option maxHeartbeats 40000000 in
theorem rm8 (l : Launch) (Z : State) (a0 : Array Value) (hw : ∀ d ∈ tables_1, d.before a0 Z = true) (ws : List Jvm.Cond) (a1 : Addr) (h0 : Heap) (n0 : Nat) (O0 : Old Z n0 h0) (H0 : Fld Z h0 a1 "com/example/gridmatch/gridmatch/Order" "remaining" "J" (Value.long (1 : Int64))) (H1 : Fld Z h0 a1 "com/example/gridmatch/gridmatch/Order" "shown" "J" (Value.long (0 : Int64))) (H2 : Fld Z h0 a1 "com/example/gridmatch/gridmatch/Order" "peak" "J" (Value.long (1 : Int64))) :
    MetFree l (⟨"com/example/gridmatch/gridmatch/Order", "hiddenSlices", "()J"⟩ : MethodName) (head1 (Jvm.Cond.code (⟨"com/example/gridmatch/gridmatch/Order", "hiddenSlices", "()J"⟩ : MethodName) prog_38_method_28_code 1 (some .long) :: ws) ({ frames := 0, cells := 0, slots := 0, locals := 0 } : Room)) (fun a U => a = #[(Value.ref a1)] ∧ Z.Warmed39 U.vm ∧ U.heap = h0) (fun _ _ _ _ _ => True) (fun _ U o U' => ∃ v L, o = .returned v ∧ Q8 Z a1 h0 n0 v U'.heap L ∧ FrameEnd U o U' L ({ frames := 0, cells := 0, slots := 0, locals := 0 } : Room).cells ({ frames := 0, cells := 0, slots := 0, locals := 0 } : Room).slots) := by
  refine MetFree.of_bodySF (plainFor_of_name own_pn_com_example_gridmatch_gridmatch_Order) hisR ?_
  intro p e s m args below meth c s₁ Bd hml0 hP hK
  obtain ⟨rfl, hZ, hh⟩ := hP
  have hx := Bd.exec
  have hby := Bd.bytes
  have hml : c.maxLocals = 1 := hml0
  have hown : s.vm.findClass "com/example/gridmatch/gridmatch/Order" = some m.cls := findClass_of_methodNamed Bd.named
  have hnm := (name_of_methodNamed Bd.named Bd.method).1
  have X0 : Stand p l e ({ frames := 0, cells := 0, slots := 0, locals := 0 } : Room) s m #[(Value.ref a1)] below meth c s₁ [] 0 0 := Stand.of_body Bd
  have e0 : s₁.heap = h0 := by rw [← hh, Bd.state]; rfl
  have N0 := Fr.nil n0
  have K0 : Keep h0 h0 [] := Keep.refl h0 []
  show own_Go p.tables e below _ (s₁.setTop (entryFrame m #[(Value.ref a1)] 1))
  refine own_Go.by (fun tq kq => castTop (own_ef_8 m a1) kq) ?_
  show own_Go p.tables e below _ (s₁.setTop (mkF m 0 #[.val (Value.ref a1)] []))
  refine own_Go.by (fun tq kq => XS.aloadN X0.here hx rfl (hb hby d8_0) rfl rfl kq) ?_
  show own_Go p.tables e below _ (s₁.setTop (mkF m 1 #[.val (Value.ref a1)] [(Value.ref a1)]))
  obtain ⟨T1, X1, e1, st1⟩ := getF X0 hx hZ hown (host := "") (Or.inl (hw _ (List.mem_of_getElem? (i := 52) rfl))) Via.refl e0 H0 (g := (mkF m 1 #[.val (Value.ref a1)] [(Value.ref a1)])) rfl rfl (hb hby d8_1)
  refine own_Go.by st1 ?_
  show own_Go p.tables e below _ (T1.setTop (mkF m 4 #[.val (Value.ref a1)] [(Value.long (1 : Int64))]))
  refine own_Go.by (fun tq kq => XS.aloadN X1.here hx rfl (hb hby d8_4) rfl rfl kq) ?_
  show own_Go p.tables e below _ (T1.setTop (mkF m 5 #[.val (Value.ref a1)] [(Value.ref a1), (Value.long (1 : Int64))]))
  obtain ⟨T2, X2, e2, st2⟩ := getF X1 hx hZ hown (host := "") (Or.inl (hw _ (List.mem_of_getElem? (i := 86) rfl))) Via.refl e1 H1 (g := (mkF m 5 #[.val (Value.ref a1)] [(Value.ref a1), (Value.long (1 : Int64))])) rfl rfl (hb hby d8_5)
  refine own_Go.by st2 ?_
  show own_Go p.tables e below _ (T2.setTop (mkF m 8 #[.val (Value.ref a1)] [(Value.long (0 : Int64)), (Value.long (1 : Int64))]))
  refine own_Go.by (fun tq kq => XS.lsub X2.here hx rfl (hb hby d8_8) rfl kq) ?_
  show own_Go p.tables e below _ (T2.setTop (mkF m 9 #[.val (Value.ref a1)] [(Value.long (1 : Int64))]))
  refine own_Go.by (fun tq kq => XS.lconst X2.here hx rfl (hb hby d8_9) kq) ?_
  show own_Go p.tables e below _ (T2.setTop (mkF m 10 #[.val (Value.ref a1)] [(Value.long (1 : Int64)), (Value.long (1 : Int64))]))
  refine own_Go.by (fun tq kq => XS.lsub X2.here hx rfl (hb hby d8_10) rfl kq) ?_
  show own_Go p.tables e below _ (T2.setTop (mkF m 11 #[.val (Value.ref a1)] [(Value.long (0 : Int64))]))
  refine own_Go.by (fun tq kq => XS.aloadN X2.here hx rfl (hb hby d8_11) rfl rfl kq) ?_
  show own_Go p.tables e below _ (T2.setTop (mkF m 12 #[.val (Value.ref a1)] [(Value.ref a1), (Value.long (0 : Int64))]))
  obtain ⟨T3, X3, e3, st3⟩ := getF X2 hx hZ hown (host := "") (Or.inl (hw _ (List.mem_of_getElem? (i := 54) rfl))) Via.refl e2 H2 (g := (mkF m 12 #[.val (Value.ref a1)] [(Value.ref a1), (Value.long (0 : Int64))])) rfl rfl (hb hby d8_12)
  refine own_Go.by st3 ?_
  show own_Go p.tables e below _ (T3.setTop (mkF m 15 #[.val (Value.ref a1)] [(Value.long (1 : Int64)), (Value.long (0 : Int64))]))
  refine own_Go.by (fun tq kq => XS.ldiv X3.here hx rfl (hb hby d8_15) rfl (by decide) kq) ?_
  show own_Go p.tables e below _ (T3.setTop (mkF m 16 #[.val (Value.ref a1)] [(Value.long (0 : Int64))]))
  refine own_Go.by (fun tq kq => XS.lconst X3.here hx rfl (hb hby d8_16) kq) ?_
  show own_Go p.tables e below _ (T3.setTop (mkF m 17 #[.val (Value.ref a1)] [(Value.long (1 : Int64)), (Value.long (0 : Int64))]))
  refine own_Go.by (fun tq kq => XS.ladd X3.here hx rfl (hb hby d8_17) rfl kq) ?_
  show own_Go p.tables e below _ (T3.setTop (mkF m 18 #[.val (Value.ref a1)] [(Value.long (1 : Int64))]))
  obtain ⟨fs, hr, hrun, hended, hW, hsame⟩ := X3.leave (v := some (Value.long (1 : Int64))) (fun h => by rw [Bd.returns] at h; cases h)
  refine own_Go.fin (retOut X3 hx Bd.returns rfl (Or.inr (Or.inl ⟨rfl, rfl, _, rfl⟩)) (hb hby d8_18) hr) ⟨hrun, hended, _, _, rfl, ?_, ⟨_, rfl⟩, hW, hsame.mono (by decide) (by decide)⟩
  show Q8 Z a1 h0 n0 _ T3.heap _
  rw [e3]
  exact ⟨rfl, N0, rfl⟩

theorem own_pd2 : parseMethodDescriptor "()J" = some ⟨[], some .long⟩ := by decide +kernel
theorem d9_0 : decode prog_38_method_30_code 0 = .ok (.aload_n 0, 1) := by decide +kernel
theorem d9_1 : decode prog_38_method_30_code 1 = .ok (.getfield 50, 3) := by decide +kernel
theorem d9_4 : decode prog_38_method_30_code 4 = .ok (.aload_n 0, 1) := by decide +kernel
theorem d9_5 : decode prog_38_method_30_code 5 = .ok (.getfield 93, 3) := by decide +kernel
theorem d9_8 : decode prog_38_method_30_code 8 = .ok (.lsub, 1) := by decide +kernel
theorem d9_9 : decode prog_38_method_30_code 9 = .ok (.aload_n 0, 1) := by decide +kernel
theorem d9_10 : decode prog_38_method_30_code 10 = .ok (.invokevirtual 176, 3) := by decide +kernel
theorem d9_13 : decode prog_38_method_30_code 13 = .ok (.lconst 1, 1) := by decide +kernel
theorem d9_14 : decode prog_38_method_30_code 14 = .ok (.lsub, 1) := by decide +kernel
theorem d9_15 : decode prog_38_method_30_code 15 = .ok (.aload_n 0, 1) := by decide +kernel
theorem d9_16 : decode prog_38_method_30_code 16 = .ok (.getfield 53, 3) := by decide +kernel
theorem d9_19 : decode prog_38_method_30_code 19 = .ok (.lmul, 1) := by decide +kernel
theorem d9_20 : decode prog_38_method_30_code 20 = .ok (.lsub, 1) := by decide +kernel
theorem d9_21 : decode prog_38_method_30_code 21 = .ok (.lreturn, 1) := by decide +kernel
theorem own_ef_9 (m : MethodId) (a1 : Addr) : entryFrame m #[(Value.ref a1)] 1 = mkF m 0 #[.val (Value.ref a1)] [] := by first | (simp [entryFrame, mkF, argsToLocals, Value.category]; done) | rfl
def Q9 (Z : State) (a1 : Addr) (h0 : Heap) (n0 : Nat) (v : Option Value) (h : Heap) (L : List Loc) : Prop := v = some (Value.long (1 : Int64)) ∧ Fr n0 L ∧ h = h0
set_option maxRecDepth 65536 in
set_option maxHeartbeats 40000000 in
theorem rm9 (l : Launch) (Z : State) (a0 : Array Value) (hw : ∀ d ∈ tables_1, d.before a0 Z = true) (ws : List Jvm.Cond) (a1 : Addr) (h0 : Heap) (n0 : Nat) (O0 : Old Z n0 h0) (H0 : Fld Z h0 a1 "com/example/gridmatch/gridmatch/Order" "remaining" "J" (Value.long (1 : Int64))) (H1 : Fld Z h0 a1 "com/example/gridmatch/gridmatch/Order" "shown" "J" (Value.long (0 : Int64))) (H2 : Fld Z h0 a1 "com/example/gridmatch/gridmatch/Order" "peak" "J" (Value.long (1 : Int64))) (H3 : Exa Z h0 a1 "com/example/gridmatch/gridmatch/Order") :
    MetFree l (⟨"com/example/gridmatch/gridmatch/Order", "lastHiddenSlice", "()J"⟩ : MethodName) (head1 (Jvm.Cond.code (⟨"com/example/gridmatch/gridmatch/Order", "lastHiddenSlice", "()J"⟩ : MethodName) prog_38_method_30_code 1 (some .long) :: ws) ({ frames := 1, cells := 0, slots := 0, locals := 14 } : Room)) (fun a U => a = #[(Value.ref a1)] ∧ Z.Warmed39 U.vm ∧ U.heap = h0) (fun _ _ _ _ _ => True) (fun _ U o U' => ∃ v L, o = .returned v ∧ Q9 Z a1 h0 n0 v U'.heap L ∧ FrameEnd U o U' L ({ frames := 1, cells := 0, slots := 0, locals := 14 } : Room).cells ({ frames := 1, cells := 0, slots := 0, locals := 14 } : Room).slots) := by
  refine MetFree.of_bodySF (plainFor_of_name own_pn_com_example_gridmatch_gridmatch_Order) hisR ?_
  intro p e s m args below meth c s₁ Bd hml0 hP hK
  obtain ⟨rfl, hZ, hh⟩ := hP
  have hx := Bd.exec
  have hby := Bd.bytes
  have hml : c.maxLocals = 1 := hml0
  have hown : s.vm.findClass "com/example/gridmatch/gridmatch/Order" = some m.cls := findClass_of_methodNamed Bd.named
  have hnm := (name_of_methodNamed Bd.named Bd.method).1
  have X0 : Stand p l e ({ frames := 1, cells := 0, slots := 0, locals := 14 } : Room) s m #[(Value.ref a1)] below meth c s₁ [] 0 0 := Stand.of_body Bd
  have e0 : s₁.heap = h0 := by rw [← hh, Bd.state]; rfl
  have N0 := Fr.nil n0
  have K0 : Keep h0 h0 [] := Keep.refl h0 []
  show own_Go p.tables e below _ (s₁.setTop (entryFrame m #[(Value.ref a1)] 1))
  refine own_Go.by (fun tq kq => castTop (own_ef_9 m a1) kq) ?_
  show own_Go p.tables e below _ (s₁.setTop (mkF m 0 #[.val (Value.ref a1)] []))
  refine own_Go.by (fun tq kq => XS.aloadN X0.here hx rfl (hb hby d9_0) rfl rfl kq) ?_
  show own_Go p.tables e below _ (s₁.setTop (mkF m 1 #[.val (Value.ref a1)] [(Value.ref a1)]))
  obtain ⟨T1, X1, e1, st1⟩ := getF X0 hx hZ hown (host := "") (Or.inl (hw _ (List.mem_of_getElem? (i := 52) rfl))) Via.refl e0 H0 (g := (mkF m 1 #[.val (Value.ref a1)] [(Value.ref a1)])) rfl rfl (hb hby d9_1)
  refine own_Go.by st1 ?_
  show own_Go p.tables e below _ (T1.setTop (mkF m 4 #[.val (Value.ref a1)] [(Value.long (1 : Int64))]))
  refine own_Go.by (fun tq kq => XS.aloadN X1.here hx rfl (hb hby d9_4) rfl rfl kq) ?_
  show own_Go p.tables e below _ (T1.setTop (mkF m 5 #[.val (Value.ref a1)] [(Value.ref a1), (Value.long (1 : Int64))]))
  obtain ⟨T2, X2, e2, st2⟩ := getF X1 hx hZ hown (host := "") (Or.inl (hw _ (List.mem_of_getElem? (i := 86) rfl))) Via.refl e1 H1 (g := (mkF m 5 #[.val (Value.ref a1)] [(Value.ref a1), (Value.long (1 : Int64))])) rfl rfl (hb hby d9_5)
  refine own_Go.by st2 ?_
  show own_Go p.tables e below _ (T2.setTop (mkF m 8 #[.val (Value.ref a1)] [(Value.long (0 : Int64)), (Value.long (1 : Int64))]))
  refine own_Go.by (fun tq kq => XS.lsub X2.here hx rfl (hb hby d9_8) rfl kq) ?_
  show own_Go p.tables e below _ (T2.setTop (mkF m 9 #[.val (Value.ref a1)] [(Value.long (1 : Int64))]))
  refine own_Go.by (fun tq kq => XS.aloadN X2.here hx rfl (hb hby d9_9) rfl rfl kq) ?_
  show own_Go p.tables e below _ (T2.setTop (mkF m 10 #[.val (Value.ref a1)] [(Value.ref a1), (Value.long (1 : Int64))]))
  obtain ⟨cq3, kq3, q3a, q3b, q3c⟩ := isOf hZ e2 H3
  obtain ⟨_, _, ⟨T3, L3, k3, n3⟩, -, X3, ⟨Lc3, hQ3, l3, y3, z3⟩, st3⟩ := X2.virtualBack hx (y := (⟨"com/example/gridmatch/gridmatch/Order", "hiddenSlices", "()J"⟩ : MethodName)) (z := (⟨"com/example/gridmatch/gridmatch/Order", "hiddenSlices", "()J"⟩ : MethodName)) hown (mvT hZ (hw _ (List.mem_of_getElem? (i := 98) rfl))) (mvT hZ (hw _ (List.mem_of_getElem? (i := 82) rfl))) (notFace_of_selects (args := #[]) (mvT hZ (hw _ (List.mem_of_getElem? (i := 84) rfl)))) (mvT hZ (hw _ (List.mem_of_getElem? (i := 84) rfl))) (mvT hZ (hw _ (List.mem_of_getElem? (i := 83) rfl))) (by decide) (backOf (W := 2) (rm8 l Z a0 hw [] a1 h0 n0 O0 H0 H1 H2) hZ (hw _ (List.mem_of_getElem? (i := 85) rfl)) (hw _ (List.mem_of_getElem? (i := 18) rfl)) (by decide) (by decide)) q3a q3c (g := (mkF m 10 #[.val (Value.ref a1)] [(Value.ref a1), (Value.long (1 : Int64))])) rfl (by rw [hml]; rfl) (Steps.refl _) (argsL := []) (rest := [(Value.long (1 : Int64))]) (lenOf own_pd2 rfl) rfl (by show 2 * 0 + _ ≤ _; exact Nat.le_of_eq rfl) (hb hby d9_10) (fun _ _ => ⟨rfl, e2, (by decide : 0 + 0 ≤ _), (by decide : 0 + 0 ≤ _)⟩)
  dsimp only [Pt.U, Pt.locs, Pt.cells, Pt.slots] at X3 l3 y3 z3 st3 hQ3
  subst l3 y3 z3
  refine own_Go.by (fun tq kq => st3.trans kq) ?_
  obtain ⟨rfl, N3q, e3⟩ := hQ3
  have N3 := Fr.app N0 N3q
  show own_Go p.tables e below _ (T3.setTop (mkF m 13 #[.val (Value.ref a1)] [(Value.long (1 : Int64)), (Value.long (1 : Int64))]))
  refine own_Go.by (fun tq kq => XS.lconst X3.here hx rfl (hb hby d9_13) kq) ?_
  show own_Go p.tables e below _ (T3.setTop (mkF m 14 #[.val (Value.ref a1)] [(Value.long (1 : Int64)), (Value.long (1 : Int64)), (Value.long (1 : Int64))]))
  refine own_Go.by (fun tq kq => XS.lsub X3.here hx rfl (hb hby d9_14) rfl kq) ?_
  show own_Go p.tables e below _ (T3.setTop (mkF m 15 #[.val (Value.ref a1)] [(Value.long (0 : Int64)), (Value.long (1 : Int64))]))
  refine own_Go.by (fun tq kq => XS.aloadN X3.here hx rfl (hb hby d9_15) rfl rfl kq) ?_
  show own_Go p.tables e below _ (T3.setTop (mkF m 16 #[.val (Value.ref a1)] [(Value.ref a1), (Value.long (0 : Int64)), (Value.long (1 : Int64))]))
  obtain ⟨T4, X4, e4, st4⟩ := getF X3 hx hZ hown (host := "") (Or.inl (hw _ (List.mem_of_getElem? (i := 54) rfl))) Via.refl e3 H2 (g := (mkF m 16 #[.val (Value.ref a1)] [(Value.ref a1), (Value.long (0 : Int64)), (Value.long (1 : Int64))])) rfl rfl (hb hby d9_16)
  refine own_Go.by st4 ?_
  show own_Go p.tables e below _ (T4.setTop (mkF m 19 #[.val (Value.ref a1)] [(Value.long (1 : Int64)), (Value.long (0 : Int64)), (Value.long (1 : Int64))]))
  refine own_Go.by (fun tq kq => XS.lmul X4.here hx rfl (hb hby d9_19) rfl kq) ?_
  show own_Go p.tables e below _ (T4.setTop (mkF m 20 #[.val (Value.ref a1)] [(Value.long (0 : Int64)), (Value.long (1 : Int64))]))
  refine own_Go.by (fun tq kq => XS.lsub X4.here hx rfl (hb hby d9_20) rfl kq) ?_
  show own_Go p.tables e below _ (T4.setTop (mkF m 21 #[.val (Value.ref a1)] [(Value.long (1 : Int64))]))
  obtain ⟨fs, hr, hrun, hended, hW, hsame⟩ := X4.leave (v := some (Value.long (1 : Int64))) (fun h => by rw [Bd.returns] at h; cases h)
  refine own_Go.fin (retOut X4 hx Bd.returns rfl (Or.inr (Or.inl ⟨rfl, rfl, _, rfl⟩)) (hb hby d9_21) hr) ⟨hrun, hended, _, _, rfl, ?_, ⟨_, rfl⟩, hW, hsame.mono (by decide) (by decide)⟩
  show Q9 Z a1 h0 n0 _ T4.heap _
  rw [e4]
  exact ⟨rfl, N3, rfl⟩

theorem d12_0 : decode jdk_35_method_42_code 0 = .ok (.lload_n 0, 1) := by decide +kernel
theorem d12_1 : decode jdk_35_method_42_code 1 = .ok (.lload_n 2, 1) := by decide +kernel
theorem d12_2 : decode jdk_35_method_42_code 2 = .ok (.lcmp, 1) := by decide +kernel
theorem d12_3 : decode jdk_35_method_42_code 3 = .ok (.ifCond .ge 7, 3) := by decide +kernel
theorem d12_10 : decode jdk_35_method_42_code 10 = .ok (.lload_n 0, 1) := by decide +kernel
theorem d12_11 : decode jdk_35_method_42_code 11 = .ok (.lload_n 2, 1) := by decide +kernel
theorem d12_12 : decode jdk_35_method_42_code 12 = .ok (.lcmp, 1) := by decide +kernel
theorem d12_13 : decode jdk_35_method_42_code 13 = .ok (.ifCond .ne 7, 3) := by decide +kernel
theorem d12_16 : decode jdk_35_method_42_code 16 = .ok (.iconst 0, 1) := by decide +kernel
theorem d12_17 : decode jdk_35_method_42_code 17 = .ok (.goto 4, 3) := by decide +kernel
theorem d12_21 : decode jdk_35_method_42_code 21 = .ok (.ireturn, 1) := by decide +kernel
theorem own_pn_java_lang_Long : plainName "java/lang/Long" = true := by first | (simp [plainName, overriddenIn]; done) | decide +kernel
theorem own_ef_12 (m : MethodId)  : entryFrame m #[(Value.long (-9223372036854775807 : Int64)), (Value.long (-9223372036854775807 : Int64))] 4 = mkF m 0 #[.val (Value.long (-9223372036854775807 : Int64)), .second, .val (Value.long (-9223372036854775807 : Int64)), .second] [] := by first | (simp [entryFrame, mkF, argsToLocals, Value.category]; done) | rfl
def Q12 (Z : State)  (h0 : Heap) (n0 : Nat) (v : Option Value) (h : Heap) (L : List Loc) : Prop := v = some (Value.int (0 : Int32)) ∧ Fr n0 L ∧ h = h0
set_option maxRecDepth 65536 in
set_option maxHeartbeats 40000000 in
theorem rm12 (l : Launch) (Z : State) (a0 : Array Value) (hw : ∀ d ∈ tables_1, d.before a0 Z = true) (ws : List Jvm.Cond)  (h0 : Heap) (n0 : Nat) (O0 : Old Z n0 h0) :
    MetFree l (⟨"java/lang/Long", "compare", "(JJ)I"⟩ : MethodName) (head1 (Jvm.Cond.code (⟨"java/lang/Long", "compare", "(JJ)I"⟩ : MethodName) jdk_35_method_42_code 4 (some .int) :: ws) ({ frames := 0, cells := 0, slots := 0, locals := 0 } : Room)) (fun a U => a = #[(Value.long (-9223372036854775807 : Int64)), (Value.long (-9223372036854775807 : Int64))] ∧ Z.Warmed39 U.vm ∧ U.heap = h0) (fun _ _ _ _ _ => True) (fun _ U o U' => ∃ v L, o = .returned v ∧ Q12 Z  h0 n0 v U'.heap L ∧ FrameEnd U o U' L ({ frames := 0, cells := 0, slots := 0, locals := 0 } : Room).cells ({ frames := 0, cells := 0, slots := 0, locals := 0 } : Room).slots) := by
  refine MetFree.of_bodySF (plainFor_of_name own_pn_java_lang_Long) hisR ?_
  intro p e s m args below meth c s₁ Bd hml0 hP hK
  obtain ⟨rfl, hZ, hh⟩ := hP
  have hx := Bd.exec
  have hby := Bd.bytes
  have hml : c.maxLocals = 4 := hml0
  have hown : s.vm.findClass "java/lang/Long" = some m.cls := findClass_of_methodNamed Bd.named
  have hnm := (name_of_methodNamed Bd.named Bd.method).1
  have X0 : Stand p l e ({ frames := 0, cells := 0, slots := 0, locals := 0 } : Room) s m #[(Value.long (-9223372036854775807 : Int64)), (Value.long (-9223372036854775807 : Int64))] below meth c s₁ [] 0 0 := Stand.of_body Bd
  have e0 : s₁.heap = h0 := by rw [← hh, Bd.state]; rfl
  have N0 := Fr.nil n0
  have K0 : Keep h0 h0 [] := Keep.refl h0 []
  show own_Go p.tables e below _ (s₁.setTop (entryFrame m #[(Value.long (-9223372036854775807 : Int64)), (Value.long (-9223372036854775807 : Int64))] 4))
  refine own_Go.by (fun tq kq => castTop (own_ef_12 m ) kq) ?_
  show own_Go p.tables e below _ (s₁.setTop (mkF m 0 #[.val (Value.long (-9223372036854775807 : Int64)), .second, .val (Value.long (-9223372036854775807 : Int64)), .second] []))
  refine own_Go.by (fun tq kq => XS.lloadN X0.here hx rfl (hb hby d12_0) rfl kq) ?_
  show own_Go p.tables e below _ (s₁.setTop (mkF m 1 #[.val (Value.long (-9223372036854775807 : Int64)), .second, .val (Value.long (-9223372036854775807 : Int64)), .second] [(Value.long (-9223372036854775807 : Int64))]))
  refine own_Go.by (fun tq kq => XS.lloadN X0.here hx rfl (hb hby d12_1) rfl kq) ?_
  show own_Go p.tables e below _ (s₁.setTop (mkF m 2 #[.val (Value.long (-9223372036854775807 : Int64)), .second, .val (Value.long (-9223372036854775807 : Int64)), .second] [(Value.long (-9223372036854775807 : Int64)), (Value.long (-9223372036854775807 : Int64))]))
  refine own_Go.by (fun tq kq => XS.lcmp X0.here hx rfl (hb hby d12_2) rfl kq) ?_
  show own_Go p.tables e below _ (s₁.setTop (mkF m 3 #[.val (Value.long (-9223372036854775807 : Int64)), .second, .val (Value.long (-9223372036854775807 : Int64)), .second] [(Value.int (lcmpW (-9223372036854775807 : Int64) (-9223372036854775807 : Int64)))]))
  refine own_Go.by (fun tq kq => XS.ifYes X0.here hx rfl (pc0 := 3) (pc' := 10) rfl (hb hby d12_3) rfl ((if0 _ _).trans (flt (mt (lw_lt (-9223372036854775807 : Int64) (-9223372036854775807 : Int64)).mp (by decide : ¬ ((-9223372036854775807 : Int64) < (-9223372036854775807 : Int64))))).2.1) (by decide) (by decide) kq) ?_
  show own_Go p.tables e below _ (s₁.setTop (mkF m 10 #[.val (Value.long (-9223372036854775807 : Int64)), .second, .val (Value.long (-9223372036854775807 : Int64)), .second] []))
  refine own_Go.by (fun tq kq => XS.lloadN X0.here hx rfl (hb hby d12_10) rfl kq) ?_
  show own_Go p.tables e below _ (s₁.setTop (mkF m 11 #[.val (Value.long (-9223372036854775807 : Int64)), .second, .val (Value.long (-9223372036854775807 : Int64)), .second] [(Value.long (-9223372036854775807 : Int64))]))
  refine own_Go.by (fun tq kq => XS.lloadN X0.here hx rfl (hb hby d12_11) rfl kq) ?_
  show own_Go p.tables e below _ (s₁.setTop (mkF m 12 #[.val (Value.long (-9223372036854775807 : Int64)), .second, .val (Value.long (-9223372036854775807 : Int64)), .second] [(Value.long (-9223372036854775807 : Int64)), (Value.long (-9223372036854775807 : Int64))]))
  refine own_Go.by (fun tq kq => XS.lcmp X0.here hx rfl (hb hby d12_12) rfl kq) ?_
  show own_Go p.tables e below _ (s₁.setTop (mkF m 13 #[.val (Value.long (-9223372036854775807 : Int64)), .second, .val (Value.long (-9223372036854775807 : Int64)), .second] [(Value.int (lcmpW (-9223372036854775807 : Int64) (-9223372036854775807 : Int64)))]))
  refine own_Go.by (fun tq kq => XS.ifNo X0.here hx rfl (hb hby d12_13) rfl ((if0 _ _).trans (teq ((lw_eq (-9223372036854775807 : Int64) (-9223372036854775807 : Int64)).mpr (by decide : (-9223372036854775807 : Int64) = (-9223372036854775807 : Int64)))).2) kq) ?_
  show own_Go p.tables e below _ (s₁.setTop (mkF m 16 #[.val (Value.long (-9223372036854775807 : Int64)), .second, .val (Value.long (-9223372036854775807 : Int64)), .second] []))
  refine own_Go.by (fun tq kq => XS.iconst X0.here hx rfl (hb hby d12_16) kq) ?_
  show own_Go p.tables e below _ (s₁.setTop (mkF m 17 #[.val (Value.long (-9223372036854775807 : Int64)), .second, .val (Value.long (-9223372036854775807 : Int64)), .second] [(Value.int (0 : Int32))]))
  refine own_Go.by (fun tq kq => XS.goto X0.here hx rfl (pc0 := 17) (pc' := 21) rfl (hb hby d12_17) (by decide) (by decide) kq) ?_
  show own_Go p.tables e below _ (s₁.setTop (mkF m 21 #[.val (Value.long (-9223372036854775807 : Int64)), .second, .val (Value.long (-9223372036854775807 : Int64)), .second] [(Value.int (0 : Int32))]))
  obtain ⟨fs, hr, hrun, hended, hW, hsame⟩ := X0.leave (v := some (Value.int (0 : Int32))) (fun h => by rw [Bd.returns] at h; cases h)
  refine own_Go.fin (retI X0 hx Bd.returns (hb hby d12_21) hr) ⟨hrun, hended, _, _, rfl, ?_, ⟨_, rfl⟩, hW, hsame.mono (by decide) (by decide)⟩
  show Q12 Z  h0 n0 _ s₁.heap _
  rw [e0]
  exact ⟨rfl, N0, rfl⟩

theorem own_pd3 : parseMethodDescriptor "(JJ)I" = some ⟨[.long, .long], some .int⟩ := by decide +kernel
theorem d11_0 : decode jdk_35_method_43_code 0 = .ok (.lload_n 0, 1) := by decide +kernel
theorem d11_1 : decode jdk_35_method_43_code 1 = .ok (.ldc2_w 168, 3) := by decide +kernel
theorem d11_4 : decode jdk_35_method_43_code 4 = .ok (.ladd, 1) := by decide +kernel
theorem d11_5 : decode jdk_35_method_43_code 5 = .ok (.lload_n 2, 1) := by decide +kernel
theorem d11_6 : decode jdk_35_method_43_code 6 = .ok (.ldc2_w 168, 3) := by decide +kernel
theorem d11_9 : decode jdk_35_method_43_code 9 = .ok (.ladd, 1) := by decide +kernel
theorem d11_10 : decode jdk_35_method_43_code 10 = .ok (.invokestatic 302, 3) := by decide +kernel
theorem d11_13 : decode jdk_35_method_43_code 13 = .ok (.ireturn, 1) := by decide +kernel
theorem own_ef_11 (m : MethodId)  : entryFrame m #[(Value.long (1 : Int64)), (Value.long (1 : Int64))] 4 = mkF m 0 #[.val (Value.long (1 : Int64)), .second, .val (Value.long (1 : Int64)), .second] [] := by first | (simp [entryFrame, mkF, argsToLocals, Value.category]; done) | rfl
def Q11 (Z : State)  (h0 : Heap) (n0 : Nat) (v : Option Value) (h : Heap) (L : List Loc) : Prop := v = some (Value.int (0 : Int32)) ∧ Fr n0 L ∧ h = h0
set_option maxRecDepth 65536 in
set_option maxHeartbeats 40000000 in
theorem rm11 (l : Launch) (Z : State) (a0 : Array Value) (hw : ∀ d ∈ tables_1, d.before a0 Z = true) (ws : List Jvm.Cond)  (h0 : Heap) (n0 : Nat) (O0 : Old Z n0 h0) :
    MetFree l (⟨"java/lang/Long", "compareUnsigned", "(JJ)I"⟩ : MethodName) (head1 (Jvm.Cond.code (⟨"java/lang/Long", "compareUnsigned", "(JJ)I"⟩ : MethodName) jdk_35_method_43_code 4 (some .int) :: ws) ({ frames := 1, cells := 0, slots := 0, locals := 15 } : Room)) (fun a U => a = #[(Value.long (1 : Int64)), (Value.long (1 : Int64))] ∧ Z.Warmed39 U.vm ∧ U.heap = h0) (fun _ _ _ _ _ => True) (fun _ U o U' => ∃ v L, o = .returned v ∧ Q11 Z  h0 n0 v U'.heap L ∧ FrameEnd U o U' L ({ frames := 1, cells := 0, slots := 0, locals := 15 } : Room).cells ({ frames := 1, cells := 0, slots := 0, locals := 15 } : Room).slots) := by
  refine MetFree.of_bodySF (plainFor_of_name own_pn_java_lang_Long) hisR ?_
  intro p e s m args below meth c s₁ Bd hml0 hP hK
  obtain ⟨rfl, hZ, hh⟩ := hP
  have hx := Bd.exec
  have hby := Bd.bytes
  have hml : c.maxLocals = 4 := hml0
  have hown : s.vm.findClass "java/lang/Long" = some m.cls := findClass_of_methodNamed Bd.named
  have hnm := (name_of_methodNamed Bd.named Bd.method).1
  have X0 : Stand p l e ({ frames := 1, cells := 0, slots := 0, locals := 15 } : Room) s m #[(Value.long (1 : Int64)), (Value.long (1 : Int64))] below meth c s₁ [] 0 0 := Stand.of_body Bd
  have e0 : s₁.heap = h0 := by rw [← hh, Bd.state]; rfl
  have N0 := Fr.nil n0
  have K0 : Keep h0 h0 [] := Keep.refl h0 []
  show own_Go p.tables e below _ (s₁.setTop (entryFrame m #[(Value.long (1 : Int64)), (Value.long (1 : Int64))] 4))
  refine own_Go.by (fun tq kq => castTop (own_ef_11 m ) kq) ?_
  show own_Go p.tables e below _ (s₁.setTop (mkF m 0 #[.val (Value.long (1 : Int64)), .second, .val (Value.long (1 : Int64)), .second] []))
  refine own_Go.by (fun tq kq => XS.lloadN X0.here hx rfl (hb hby d11_0) rfl kq) ?_
  show own_Go p.tables e below _ (s₁.setTop (mkF m 1 #[.val (Value.long (1 : Int64)), .second, .val (Value.long (1 : Int64)), .second] [(Value.long (1 : Int64))]))
  refine own_Go.by (fun tq kq => X0.ldc2Long hx hown (mvT hZ (hw _ (List.mem_of_getElem? (i := 110) rfl))) (g := (mkF m 1 #[.val (Value.long (1 : Int64)), .second, .val (Value.long (1 : Int64)), .second] [(Value.long (1 : Int64))])) rfl (hb hby d11_1) _ kq) ?_
  show own_Go p.tables e below _ (s₁.setTop (mkF m 4 #[.val (Value.long (1 : Int64)), .second, .val (Value.long (1 : Int64)), .second] [(Value.long (-9223372036854775808 : Int64)), (Value.long (1 : Int64))]))
  refine own_Go.by (fun tq kq => XS.ladd X0.here hx rfl (hb hby d11_4) rfl kq) ?_
  show own_Go p.tables e below _ (s₁.setTop (mkF m 5 #[.val (Value.long (1 : Int64)), .second, .val (Value.long (1 : Int64)), .second] [(Value.long (-9223372036854775807 : Int64))]))
  refine own_Go.by (fun tq kq => XS.lloadN X0.here hx rfl (hb hby d11_5) rfl kq) ?_
  show own_Go p.tables e below _ (s₁.setTop (mkF m 6 #[.val (Value.long (1 : Int64)), .second, .val (Value.long (1 : Int64)), .second] [(Value.long (1 : Int64)), (Value.long (-9223372036854775807 : Int64))]))
  refine own_Go.by (fun tq kq => X0.ldc2Long hx hown (mvT hZ (hw _ (List.mem_of_getElem? (i := 110) rfl))) (g := (mkF m 6 #[.val (Value.long (1 : Int64)), .second, .val (Value.long (1 : Int64)), .second] [(Value.long (1 : Int64)), (Value.long (-9223372036854775807 : Int64))])) rfl (hb hby d11_6) _ kq) ?_
  show own_Go p.tables e below _ (s₁.setTop (mkF m 9 #[.val (Value.long (1 : Int64)), .second, .val (Value.long (1 : Int64)), .second] [(Value.long (-9223372036854775808 : Int64)), (Value.long (1 : Int64)), (Value.long (-9223372036854775807 : Int64))]))
  refine own_Go.by (fun tq kq => XS.ladd X0.here hx rfl (hb hby d11_9) rfl kq) ?_
  show own_Go p.tables e below _ (s₁.setTop (mkF m 10 #[.val (Value.long (1 : Int64)), .second, .val (Value.long (1 : Int64)), .second] [(Value.long (-9223372036854775807 : Int64)), (Value.long (-9223372036854775807 : Int64))]))
  obtain ⟨_, _, ⟨T1, L1, k1, n1⟩, -, X1, ⟨Lc1, hQ1, l1, y1, z1⟩, st1⟩ := Jvm.LawKit.callS X0 hx (y := (⟨"java/lang/Long", "compare", "(JJ)I"⟩ : MethodName)) hown (mvT hZ (hw _ (List.mem_of_getElem? (i := 111) rfl))) (mvT hZ (hw _ (List.mem_of_getElem? (i := 112) rfl))) (mvT hZ (hw _ (List.mem_of_getElem? (i := 108) rfl))) (mvT hZ (hw _ (List.mem_of_getElem? (i := 113) rfl))) (by decide) (backOf (W := 0) (rm12 l Z a0 hw []  h0 n0 O0 ) hZ (hw _ (List.mem_of_getElem? (i := 113) rfl)) (hw _ (List.mem_of_getElem? (i := 108) rfl)) (by decide) (by decide)) (g := (mkF m 10 #[.val (Value.long (1 : Int64)), .second, .val (Value.long (1 : Int64)), .second] [(Value.long (-9223372036854775807 : Int64)), (Value.long (-9223372036854775807 : Int64))])) rfl (by rw [hml]; rfl) (argsL := [(Value.long (-9223372036854775807 : Int64)), (Value.long (-9223372036854775807 : Int64))]) (rest := []) (lenOf own_pd3 rfl) rfl (by show 2 * 0 + _ ≤ _; exact Nat.le_of_eq rfl) (hb hby d11_10) (fun _ _ => ⟨rfl, e0, (by decide : 0 + 0 ≤ _), (by decide : 0 + 0 ≤ _)⟩)
  dsimp only [Pt.U, Pt.locs, Pt.cells, Pt.slots] at X1 l1 y1 z1 st1 hQ1
  subst l1 y1 z1
  refine own_Go.by st1 ?_
  obtain ⟨rfl, N1q, e1⟩ := hQ1
  have N1 := Fr.app N0 N1q
  show own_Go p.tables e below _ (T1.setTop (mkF m 13 #[.val (Value.long (1 : Int64)), .second, .val (Value.long (1 : Int64)), .second] [(Value.int (0 : Int32))]))
  obtain ⟨fs, hr, hrun, hended, hW, hsame⟩ := X1.leave (v := some (Value.int (0 : Int32))) (fun h => by rw [Bd.returns] at h; cases h)
  refine own_Go.fin (retI X1 hx Bd.returns (hb hby d11_13) hr) ⟨hrun, hended, _, _, rfl, ?_, ⟨_, rfl⟩, hW, hsame.mono (by decide) (by decide)⟩
  show Q11 Z  h0 n0 _ T1.heap _
  rw [e1]
  exact ⟨rfl, N1, rfl⟩

theorem d10_0 : decode prog_38_method_29_code 0 = .ok (.lload_n 1, 1) := by decide +kernel
theorem d10_1 : decode prog_38_method_29_code 1 = .ok (.aload_n 0, 1) := by decide +kernel
theorem d10_2 : decode prog_38_method_29_code 2 = .ok (.invokevirtual 176, 3) := by decide +kernel
theorem d10_5 : decode prog_38_method_29_code 5 = .ok (.invokestatic 179, 3) := by decide +kernel
theorem d10_8 : decode prog_38_method_29_code 8 = .ok (.ifCond .ge 12, 3) := by decide +kernel
theorem d10_20 : decode prog_38_method_29_code 20 = .ok (.aload_n 0, 1) := by decide +kernel
theorem d10_21 : decode prog_38_method_29_code 21 = .ok (.getfield 50, 3) := by decide +kernel
theorem d10_24 : decode prog_38_method_29_code 24 = .ok (.aload_n 0, 1) := by decide +kernel
theorem d10_25 : decode prog_38_method_29_code 25 = .ok (.getfield 93, 3) := by decide +kernel
theorem d10_28 : decode prog_38_method_29_code 28 = .ok (.lsub, 1) := by decide +kernel
theorem d10_29 : decode prog_38_method_29_code 29 = .ok (.lreturn, 1) := by decide +kernel
theorem own_ef_10 (m : MethodId) (a1 : Addr) : entryFrame m #[(Value.ref a1), (Value.long (1 : Int64))] 3 = mkF m 0 #[.val (Value.ref a1), .val (Value.long (1 : Int64)), .second] [] := by first | (simp [entryFrame, mkF, argsToLocals, Value.category]; done) | rfl
def Q10 (Z : State) (a1 : Addr) (h0 : Heap) (n0 : Nat) (v : Option Value) (h : Heap) (L : List Loc) : Prop := v = some (Value.long (1 : Int64)) ∧ Fr n0 L ∧ h = h0
set_option maxRecDepth 65536 in
set_option maxHeartbeats 40000000 in
theorem rm10 (l : Launch) (Z : State) (a0 : Array Value) (hw : ∀ d ∈ tables_1, d.before a0 Z = true) (ws : List Jvm.Cond) (a1 : Addr) (h0 : Heap) (n0 : Nat) (O0 : Old Z n0 h0) (H0 : Fld Z h0 a1 "com/example/gridmatch/gridmatch/Order" "remaining" "J" (Value.long (1 : Int64))) (H1 : Fld Z h0 a1 "com/example/gridmatch/gridmatch/Order" "shown" "J" (Value.long (0 : Int64))) (H2 : Fld Z h0 a1 "com/example/gridmatch/gridmatch/Order" "peak" "J" (Value.long (1 : Int64))) (H3 : Exa Z h0 a1 "com/example/gridmatch/gridmatch/Order") :
    MetFree l (⟨"com/example/gridmatch/gridmatch/Order", "hiddenInSlices", "(J)J"⟩ : MethodName) (head1 (Jvm.Cond.code (⟨"com/example/gridmatch/gridmatch/Order", "hiddenInSlices", "(J)J"⟩ : MethodName) prog_38_method_29_code 3 (some .long) :: ws) ({ frames := 2, cells := 0, slots := 0, locals := 30 } : Room)) (fun a U => a = #[(Value.ref a1), (Value.long (1 : Int64))] ∧ Z.Warmed39 U.vm ∧ U.heap = h0) (fun _ _ _ _ _ => True) (fun _ U o U' => ∃ v L, o = .returned v ∧ Q10 Z a1 h0 n0 v U'.heap L ∧ FrameEnd U o U' L ({ frames := 2, cells := 0, slots := 0, locals := 30 } : Room).cells ({ frames := 2, cells := 0, slots := 0, locals := 30 } : Room).slots) := by
  refine MetFree.of_bodySF (plainFor_of_name own_pn_com_example_gridmatch_gridmatch_Order) hisR ?_
  intro p e s m args below meth c s₁ Bd hml0 hP hK
  obtain ⟨rfl, hZ, hh⟩ := hP
  have hx := Bd.exec
  have hby := Bd.bytes
  have hml : c.maxLocals = 3 := hml0
  have hown : s.vm.findClass "com/example/gridmatch/gridmatch/Order" = some m.cls := findClass_of_methodNamed Bd.named
  have hnm := (name_of_methodNamed Bd.named Bd.method).1
  have X0 : Stand p l e ({ frames := 2, cells := 0, slots := 0, locals := 30 } : Room) s m #[(Value.ref a1), (Value.long (1 : Int64))] below meth c s₁ [] 0 0 := Stand.of_body Bd
  have e0 : s₁.heap = h0 := by rw [← hh, Bd.state]; rfl
  have N0 := Fr.nil n0
  have K0 : Keep h0 h0 [] := Keep.refl h0 []
  show own_Go p.tables e below _ (s₁.setTop (entryFrame m #[(Value.ref a1), (Value.long (1 : Int64))] 3))
  refine own_Go.by (fun tq kq => castTop (own_ef_10 m a1) kq) ?_
  show own_Go p.tables e below _ (s₁.setTop (mkF m 0 #[.val (Value.ref a1), .val (Value.long (1 : Int64)), .second] []))
  refine own_Go.by (fun tq kq => XS.lloadN X0.here hx rfl (hb hby d10_0) rfl kq) ?_
  show own_Go p.tables e below _ (s₁.setTop (mkF m 1 #[.val (Value.ref a1), .val (Value.long (1 : Int64)), .second] [(Value.long (1 : Int64))]))
  refine own_Go.by (fun tq kq => XS.aloadN X0.here hx rfl (hb hby d10_1) rfl rfl kq) ?_
  show own_Go p.tables e below _ (s₁.setTop (mkF m 2 #[.val (Value.ref a1), .val (Value.long (1 : Int64)), .second] [(Value.ref a1), (Value.long (1 : Int64))]))
  obtain ⟨cq1, kq1, q1a, q1b, q1c⟩ := isOf hZ e0 H3
  obtain ⟨_, _, ⟨T1, L1, k1, n1⟩, -, X1, ⟨Lc1, hQ1, l1, y1, z1⟩, st1⟩ := X0.virtualBack hx (y := (⟨"com/example/gridmatch/gridmatch/Order", "hiddenSlices", "()J"⟩ : MethodName)) (z := (⟨"com/example/gridmatch/gridmatch/Order", "hiddenSlices", "()J"⟩ : MethodName)) hown (mvT hZ (hw _ (List.mem_of_getElem? (i := 98) rfl))) (mvT hZ (hw _ (List.mem_of_getElem? (i := 82) rfl))) (notFace_of_selects (args := #[]) (mvT hZ (hw _ (List.mem_of_getElem? (i := 84) rfl)))) (mvT hZ (hw _ (List.mem_of_getElem? (i := 84) rfl))) (mvT hZ (hw _ (List.mem_of_getElem? (i := 83) rfl))) (by decide) (backOf (W := 2) (rm8 l Z a0 hw [] a1 h0 n0 O0 H0 H1 H2) hZ (hw _ (List.mem_of_getElem? (i := 85) rfl)) (hw _ (List.mem_of_getElem? (i := 18) rfl)) (by decide) (by decide)) q1a q1c (g := (mkF m 2 #[.val (Value.ref a1), .val (Value.long (1 : Int64)), .second] [(Value.ref a1), (Value.long (1 : Int64))])) rfl (by rw [hml]; rfl) (Steps.refl _) (argsL := []) (rest := [(Value.long (1 : Int64))]) (lenOf own_pd2 rfl) rfl (by show 2 * 0 + _ ≤ _; exact Nat.le_of_eq rfl) (hb hby d10_2) (fun _ _ => ⟨rfl, e0, (by decide : 0 + 0 ≤ _), (by decide : 0 + 0 ≤ _)⟩)
  dsimp only [Pt.U, Pt.locs, Pt.cells, Pt.slots] at X1 l1 y1 z1 st1 hQ1
  subst l1 y1 z1
  refine own_Go.by (fun tq kq => st1.trans kq) ?_
  obtain ⟨rfl, N1q, e1⟩ := hQ1
  have N1 := Fr.app N0 N1q
  show own_Go p.tables e below _ (T1.setTop (mkF m 5 #[.val (Value.ref a1), .val (Value.long (1 : Int64)), .second] [(Value.long (1 : Int64)), (Value.long (1 : Int64))]))
  obtain ⟨_, _, ⟨T2, L2, k2, n2⟩, -, X2, ⟨Lc2, hQ2, l2, y2, z2⟩, st2⟩ := Jvm.LawKit.callS X1 hx (y := (⟨"java/lang/Long", "compareUnsigned", "(JJ)I"⟩ : MethodName)) hown (mvT hZ (hw _ (List.mem_of_getElem? (i := 106) rfl))) (mvT hZ (hw _ (List.mem_of_getElem? (i := 107) rfl))) (mvT hZ (hw _ (List.mem_of_getElem? (i := 108) rfl))) (mvT hZ (hw _ (List.mem_of_getElem? (i := 109) rfl))) (by decide) (backOf (W := 0) (rm11 l Z a0 hw []  h0 n0 O0 ) hZ (hw _ (List.mem_of_getElem? (i := 109) rfl)) (hw _ (List.mem_of_getElem? (i := 108) rfl)) (by decide) (by decide)) (g := (mkF m 5 #[.val (Value.ref a1), .val (Value.long (1 : Int64)), .second] [(Value.long (1 : Int64)), (Value.long (1 : Int64))])) rfl (by rw [hml]; rfl) (argsL := [(Value.long (1 : Int64)), (Value.long (1 : Int64))]) (rest := []) (lenOf own_pd3 rfl) rfl (by show 2 * 0 + _ ≤ _; exact Nat.le_of_eq rfl) (hb hby d10_5) (fun _ _ => ⟨rfl, e1, (by decide : 0 + 0 ≤ _), (by decide : 0 + 0 ≤ _)⟩)
  dsimp only [Pt.U, Pt.locs, Pt.cells, Pt.slots] at X2 l2 y2 z2 st2 hQ2
  subst l2 y2 z2
  refine own_Go.by st2 ?_
  obtain ⟨rfl, N2q, e2⟩ := hQ2
  have N2 := Fr.app N1 N2q
  show own_Go p.tables e below _ (T2.setTop (mkF m 8 #[.val (Value.ref a1), .val (Value.long (1 : Int64)), .second] [(Value.int (0 : Int32))]))
  refine own_Go.by (fun tq kq => XS.ifYes X2.here hx rfl (pc0 := 8) (pc' := 20) rfl (hb hby d10_8) rfl ((if0 _ _).trans (flt (by decide : ¬ ((0 : Int32) < (0 : Int32)))).2.1) (by decide) (by decide) kq) ?_
  show own_Go p.tables e below _ (T2.setTop (mkF m 20 #[.val (Value.ref a1), .val (Value.long (1 : Int64)), .second] []))
  refine own_Go.by (fun tq kq => XS.aloadN X2.here hx rfl (hb hby d10_20) rfl rfl kq) ?_
  show own_Go p.tables e below _ (T2.setTop (mkF m 21 #[.val (Value.ref a1), .val (Value.long (1 : Int64)), .second] [(Value.ref a1)]))
  obtain ⟨T3, X3, e3, st3⟩ := getF X2 hx hZ hown (host := "") (Or.inl (hw _ (List.mem_of_getElem? (i := 52) rfl))) Via.refl e2 H0 (g := (mkF m 21 #[.val (Value.ref a1), .val (Value.long (1 : Int64)), .second] [(Value.ref a1)])) rfl rfl (hb hby d10_21)
  refine own_Go.by st3 ?_
  show own_Go p.tables e below _ (T3.setTop (mkF m 24 #[.val (Value.ref a1), .val (Value.long (1 : Int64)), .second] [(Value.long (1 : Int64))]))
  refine own_Go.by (fun tq kq => XS.aloadN X3.here hx rfl (hb hby d10_24) rfl rfl kq) ?_
  show own_Go p.tables e below _ (T3.setTop (mkF m 25 #[.val (Value.ref a1), .val (Value.long (1 : Int64)), .second] [(Value.ref a1), (Value.long (1 : Int64))]))
  obtain ⟨T4, X4, e4, st4⟩ := getF X3 hx hZ hown (host := "") (Or.inl (hw _ (List.mem_of_getElem? (i := 86) rfl))) Via.refl e3 H1 (g := (mkF m 25 #[.val (Value.ref a1), .val (Value.long (1 : Int64)), .second] [(Value.ref a1), (Value.long (1 : Int64))])) rfl rfl (hb hby d10_25)
  refine own_Go.by st4 ?_
  show own_Go p.tables e below _ (T4.setTop (mkF m 28 #[.val (Value.ref a1), .val (Value.long (1 : Int64)), .second] [(Value.long (0 : Int64)), (Value.long (1 : Int64))]))
  refine own_Go.by (fun tq kq => XS.lsub X4.here hx rfl (hb hby d10_28) rfl kq) ?_
  show own_Go p.tables e below _ (T4.setTop (mkF m 29 #[.val (Value.ref a1), .val (Value.long (1 : Int64)), .second] [(Value.long (1 : Int64))]))
  obtain ⟨fs, hr, hrun, hended, hW, hsame⟩ := X4.leave (v := some (Value.long (1 : Int64))) (fun h => by rw [Bd.returns] at h; cases h)
  refine own_Go.fin (retOut X4 hx Bd.returns rfl (Or.inr (Or.inl ⟨rfl, rfl, _, rfl⟩)) (hb hby d10_29) hr) ⟨hrun, hended, _, _, rfl, ?_, ⟨_, rfl⟩, hW, hsame.mono (by decide) (by decide)⟩
  show Q10 Z a1 h0 n0 _ T4.heap _
  rw [e4]
  exact ⟨rfl, N2, rfl⟩

theorem own_pd4 : parseMethodDescriptor "(J)J" = some ⟨[.long], some .long⟩ := by decide +kernel
theorem d5_0 : decode prog_2_method_1_code 0 = .ok (.aload_n 0, 1) := by decide +kernel
theorem d5_1 : decode prog_2_method_1_code 1 = .ok (.invokespecial 1, 3) := by decide +kernel
theorem d5_4 : decode prog_2_method_1_code 4 = .ok (.aload_n 1, 1) := by decide +kernel
theorem d5_5 : decode prog_2_method_1_code 5 = .ok (.invokevirtual 7, 3) := by decide +kernel
theorem d5_8 : decode prog_2_method_1_code 8 = .ok (.lstore 4, 2) := by decide +kernel
theorem d5_10 : decode prog_2_method_1_code 10 = .ok (.aload_n 0, 1) := by decide +kernel
theorem d5_11 : decode prog_2_method_1_code 11 = .ok (.lload_n 2, 1) := by decide +kernel
theorem d5_12 : decode prog_2_method_1_code 12 = .ok (.lload 4, 2) := by decide +kernel
theorem d5_14 : decode prog_2_method_1_code 14 = .ok (.ladd, 1) := by decide +kernel
theorem d5_15 : decode prog_2_method_1_code 15 = .ok (.putfield 13, 3) := by decide +kernel
theorem d5_18 : decode prog_2_method_1_code 18 = .ok (.aload_n 0, 1) := by decide +kernel
theorem d5_19 : decode prog_2_method_1_code 19 = .ok (.aload_n 1, 1) := by decide +kernel
theorem d5_20 : decode prog_2_method_1_code 20 = .ok (.getfield 19, 3) := by decide +kernel
theorem d5_23 : decode prog_2_method_1_code 23 = .ok (.putfield 22, 3) := by decide +kernel
theorem d5_26 : decode prog_2_method_1_code 26 = .ok (.aload_n 0, 1) := by decide +kernel
theorem d5_27 : decode prog_2_method_1_code 27 = .ok (.aload_n 1, 1) := by decide +kernel
theorem d5_28 : decode prog_2_method_1_code 28 = .ok (.invokevirtual 23, 3) := by decide +kernel
theorem d5_31 : decode prog_2_method_1_code 31 = .ok (.putfield 26, 3) := by decide +kernel
theorem d5_34 : decode prog_2_method_1_code 34 = .ok (.aload_n 0, 1) := by decide +kernel
theorem d5_35 : decode prog_2_method_1_code 35 = .ok (.aload_n 1, 1) := by decide +kernel
theorem d5_36 : decode prog_2_method_1_code 36 = .ok (.lconst 1, 1) := by decide +kernel
theorem d5_37 : decode prog_2_method_1_code 37 = .ok (.invokevirtual 29, 3) := by decide +kernel
theorem d5_40 : decode prog_2_method_1_code 40 = .ok (.aload_n 0, 1) := by decide +kernel
theorem d5_41 : decode prog_2_method_1_code 41 = .ok (.getfield 26, 3) := by decide +kernel
theorem d5_44 : decode prog_2_method_1_code 44 = .ok (.lsub, 1) := by decide +kernel
theorem d5_45 : decode prog_2_method_1_code 45 = .ok (.putfield 33, 3) := by decide +kernel
theorem d5_48 : decode prog_2_method_1_code 48 = .ok (.aload_n 0, 1) := by decide +kernel
theorem d5_49 : decode prog_2_method_1_code 49 = .ok (.aload_n 1, 1) := by decide +kernel
theorem d5_50 : decode prog_2_method_1_code 50 = .ok (.lload 4, 2) := by decide +kernel
theorem d5_52 : decode prog_2_method_1_code 52 = .ok (.invokevirtual 29, 3) := by decide +kernel
theorem d5_55 : decode prog_2_method_1_code 55 = .ok (.putfield 36, 3) := by decide +kernel
theorem d5_58 : decode prog_2_method_1_code 58 = .ok (.return_, 1) := by decide +kernel
theorem own_pn_com_example_gridmatch_gridmatch_ByLastSlice : plainName "com/example/gridmatch/gridmatch/ByLastSlice" = true := by first | (simp [plainName, overriddenIn]; done) | decide +kernel
theorem own_ef_5 (m : MethodId) (a1 : Addr) (a2 : Addr) (q3 : Int64) : entryFrame m #[(Value.ref a1), (Value.ref a2), (Value.long q3)] 6 = mkF m 0 #[.val (Value.ref a1), .val (Value.ref a2), .val (Value.long q3), .second, .unset, .unset] [] := by first | (simp [entryFrame, mkF, argsToLocals, Value.category]; done) | rfl
def Q5 (Z : State) (a1 : Addr) (a2 : Addr) (q3 : Int64) (w4 : Int64) (h0 : Heap) (n0 : Nat) (v : Option Value) (h : Heap) (L : List Loc) : Prop := v = none ∧ Fr n0 L ∧ Keep h0 h [a1] ∧ (Exa Z h a1 "com/example/gridmatch/gridmatch/ByLastSlice") ∧ (Fld Z h a1 "com/example/gridmatch/gridmatch/ByLastSlice" "lastPlace" "J" (Value.long (q3 + (1 : Int64)))) ∧ (Fld Z h a1 "com/example/gridmatch/gridmatch/ByLastSlice" "sequence" "J" (Value.long w4))
set_option maxRecDepth 65536 in
set_option maxHeartbeats 40000000 in
theorem rm5 (l : Launch) (Z : State) (a0 : Array Value) (hw : ∀ d ∈ tables_1, d.before a0 Z = true) (ws : List Jvm.Cond) (a1 : Addr) (a2 : Addr) (q3 : Int64) (w4 : Int64) (h0 : Heap) (n0 : Nat) (O0 : Old Z n0 h0) (H0 : Exa Z h0 a1 "com/example/gridmatch/gridmatch/ByLastSlice") (H1 : Exa Z h0 a2 "com/example/gridmatch/gridmatch/Order") (H2 : n0 ≤ a1) (H3 : a2 ≠ a1) (H4 : Fld Z h0 a2 "com/example/gridmatch/gridmatch/Order" "remaining" "J" (Value.long (1 : Int64))) (H5 : Fld Z h0 a2 "com/example/gridmatch/gridmatch/Order" "shown" "J" (Value.long (0 : Int64))) (H6 : Fld Z h0 a2 "com/example/gridmatch/gridmatch/Order" "peak" "J" (Value.long (1 : Int64))) (H7 : Fld Z h0 a2 "com/example/gridmatch/gridmatch/Order" "sequence" "J" (Value.long w4)) (H8 : Fld Z h0 a1 "com/example/gridmatch/gridmatch/ByLastSlice" "lastPlace" "J" (Value.long (0 : Int64))) (H9 : Fld Z h0 a1 "com/example/gridmatch/gridmatch/ByLastSlice" "sequence" "J" (Value.long (0 : Int64))) (H10 : Fld Z h0 a1 "com/example/gridmatch/gridmatch/ByLastSlice" "last" "J" (Value.long (0 : Int64))) (H11 : Fld Z h0 a1 "com/example/gridmatch/gridmatch/ByLastSlice" "more" "J" (Value.long (0 : Int64))) (H12 : Fld Z h0 a1 "com/example/gridmatch/gridmatch/ByLastSlice" "hidden" "J" (Value.long (0 : Int64))) :
    MetFree l (⟨"com/example/gridmatch/gridmatch/ByLastSlice", "<init>", "(Lcom/example/gridmatch/gridmatch/Order;J)V"⟩ : MethodName) (head1 (Jvm.Cond.code (⟨"com/example/gridmatch/gridmatch/ByLastSlice", "<init>", "(Lcom/example/gridmatch/gridmatch/Order;J)V"⟩ : MethodName) prog_2_method_1_code 6 none :: ws) ({ frames := 3, cells := 0, slots := 0, locals := 45 } : Room)) (fun a U => a = #[(Value.ref a1), (Value.ref a2), (Value.long q3)] ∧ Z.Warmed39 U.vm ∧ U.heap = h0) (fun _ _ _ _ _ => True) (fun _ U o U' => ∃ v L, o = .returned v ∧ Q5 Z a1 a2 q3 w4 h0 n0 v U'.heap L ∧ FrameEnd U o U' L ({ frames := 3, cells := 0, slots := 0, locals := 45 } : Room).cells ({ frames := 3, cells := 0, slots := 0, locals := 45 } : Room).slots) := by
  refine MetFree.of_bodySF (plainFor_of_name own_pn_com_example_gridmatch_gridmatch_ByLastSlice) hisR ?_
  intro p e s m args below meth c s₁ Bd hml0 hP hK
  obtain ⟨rfl, hZ, hh⟩ := hP
  have hx := Bd.exec
  have hby := Bd.bytes
  have hml : c.maxLocals = 6 := hml0
  have hown : s.vm.findClass "com/example/gridmatch/gridmatch/ByLastSlice" = some m.cls := findClass_of_methodNamed Bd.named
  have hnm := (name_of_methodNamed Bd.named Bd.method).1
  have X0 : Stand p l e ({ frames := 3, cells := 0, slots := 0, locals := 45 } : Room) s m #[(Value.ref a1), (Value.ref a2), (Value.long q3)] below meth c s₁ [] 0 0 := Stand.of_body Bd
  have e0 : s₁.heap = h0 := by rw [← hh, Bd.state]; rfl
  have N0 := Fr.nil n0
  have K0 := Keep.refl h0 [a1]
  show own_Go p.tables e below _ (s₁.setTop (entryFrame m #[(Value.ref a1), (Value.ref a2), (Value.long q3)] 6))
  refine own_Go.by (fun tq kq => castTop (own_ef_5 m a1 a2 q3) kq) ?_
  show own_Go p.tables e below _ (s₁.setTop (mkF m 0 #[.val (Value.ref a1), .val (Value.ref a2), .val (Value.long q3), .second, .unset, .unset] []))
  refine own_Go.by (fun tq kq => XS.aloadN X0.here hx rfl (hb hby d5_0) rfl rfl kq) ?_
  show own_Go p.tables e below _ (s₁.setTop (mkF m 1 #[.val (Value.ref a1), .val (Value.ref a2), .val (Value.long q3), .second, .unset, .unset] [(Value.ref a1)]))
  obtain ⟨_, _, ⟨T1, L1, k1, n1⟩, -, X1, ⟨Lc1, hQ1, l1, y1, z1⟩, st1⟩ := X0.specialBack hx (y := (⟨"com/example/gridmatch/gridmatch/OrderedNode", "<init>", "()V"⟩ : MethodName)) rfl hown (mvT hZ (hw _ (List.mem_of_getElem? (i := 70) rfl))) (mvT hZ (hw _ (List.mem_of_getElem? (i := 71) rfl))) (mvT hZ (hw _ (List.mem_of_getElem? (i := 74) rfl))) (by decide) (backOf (W := 0) (rm6 l Z a0 hw [] a1 h0 n0 O0 ) hZ (hw _ (List.mem_of_getElem? (i := 74) rfl)) (hw _ (List.mem_of_getElem? (i := 73) rfl)) (by decide) (by decide)) (g := (mkF m 1 #[.val (Value.ref a1), .val (Value.ref a2), .val (Value.long q3), .second, .unset, .unset] [(Value.ref a1)])) rfl (by rw [hml]; rfl) (Steps.refl _) (a := a1) (argsL := []) (rest := []) (lenOf own_pd0 rfl) rfl (by show 2 * 0 + _ ≤ _; exact Nat.le_of_eq rfl) (hb hby d5_1) (fun _ _ => ⟨rfl, e0, (by decide : 0 + 0 ≤ _), (by decide : 0 + 0 ≤ _)⟩)
  dsimp only [Pt.U, Pt.locs, Pt.cells, Pt.slots] at X1 l1 y1 z1 st1 hQ1
  subst l1 y1 z1
  refine own_Go.by (fun tq kq => st1.trans kq) ?_
  obtain ⟨rfl, N1q, e1⟩ := hQ1
  have N1 := Fr.app N0 N1q
  show own_Go p.tables e below _ (T1.setTop (mkF m 4 #[.val (Value.ref a1), .val (Value.ref a2), .val (Value.long q3), .second, .unset, .unset] []))
  refine own_Go.by (fun tq kq => XS.aloadN X1.here hx rfl (hb hby d5_4) rfl rfl kq) ?_
  show own_Go p.tables e below _ (T1.setTop (mkF m 5 #[.val (Value.ref a1), .val (Value.ref a2), .val (Value.long q3), .second, .unset, .unset] [(Value.ref a2)]))
  obtain ⟨cq2, kq2, q2a, q2b, q2c⟩ := isOf hZ e1 H1
  obtain ⟨_, _, ⟨T2, L2, k2, n2⟩, -, X2, ⟨Lc2, hQ2, l2, y2, z2⟩, st2⟩ := X1.virtualBack hx (y := (⟨"com/example/gridmatch/gridmatch/Order", "hiddenSlices", "()J"⟩ : MethodName)) (z := (⟨"com/example/gridmatch/gridmatch/Order", "hiddenSlices", "()J"⟩ : MethodName)) hown (mvT hZ (hw _ (List.mem_of_getElem? (i := 81) rfl))) (mvT hZ (hw _ (List.mem_of_getElem? (i := 82) rfl))) (notFace_of_selects (args := #[]) (mvT hZ (hw _ (List.mem_of_getElem? (i := 84) rfl)))) (mvT hZ (hw _ (List.mem_of_getElem? (i := 84) rfl))) (mvT hZ (hw _ (List.mem_of_getElem? (i := 83) rfl))) (by decide) (backOf (W := 0) (rm8 l Z a0 hw [] a2 h0 n0 O0 H4 H5 H6) hZ (hw _ (List.mem_of_getElem? (i := 85) rfl)) (hw _ (List.mem_of_getElem? (i := 18) rfl)) (by decide) (by decide)) q2a q2c (g := (mkF m 5 #[.val (Value.ref a1), .val (Value.ref a2), .val (Value.long q3), .second, .unset, .unset] [(Value.ref a2)])) rfl (by rw [hml]; rfl) (Steps.refl _) (argsL := []) (rest := []) (lenOf own_pd2 rfl) rfl (by show 2 * 0 + _ ≤ _; exact Nat.le_of_eq rfl) (hb hby d5_5) (fun _ _ => ⟨rfl, e1, (by decide : 0 + 0 ≤ _), (by decide : 0 + 0 ≤ _)⟩)
  dsimp only [Pt.U, Pt.locs, Pt.cells, Pt.slots] at X2 l2 y2 z2 st2 hQ2
  subst l2 y2 z2
  refine own_Go.by (fun tq kq => st2.trans kq) ?_
  obtain ⟨rfl, N2q, e2⟩ := hQ2
  have N2 := Fr.app N1 N2q
  show own_Go p.tables e below _ (T2.setTop (mkF m 8 #[.val (Value.ref a1), .val (Value.ref a2), .val (Value.long q3), .second, .unset, .unset] [(Value.long (1 : Int64))]))
  refine own_Go.by (fun tq kq => XS.lstore X2.here hx rfl (hb hby d5_8) rfl (l' := #[.val (Value.ref a1), .val (Value.ref a2), .val (Value.long q3), .second, .val (Value.long (1 : Int64)), .second]) rfl kq) ?_
  show own_Go p.tables e below _ (T2.setTop (mkF m 10 #[.val (Value.ref a1), .val (Value.ref a2), .val (Value.long q3), .second, .val (Value.long (1 : Int64)), .second] []))
  refine own_Go.by (fun tq kq => XS.aloadN X2.here hx rfl (hb hby d5_10) rfl rfl kq) ?_
  show own_Go p.tables e below _ (T2.setTop (mkF m 11 #[.val (Value.ref a1), .val (Value.ref a2), .val (Value.long q3), .second, .val (Value.long (1 : Int64)), .second] [(Value.ref a1)]))
  refine own_Go.by (fun tq kq => XS.lloadN X2.here hx rfl (hb hby d5_11) rfl kq) ?_
  show own_Go p.tables e below _ (T2.setTop (mkF m 12 #[.val (Value.ref a1), .val (Value.ref a2), .val (Value.long q3), .second, .val (Value.long (1 : Int64)), .second] [(Value.long q3), (Value.ref a1)]))
  refine own_Go.by (fun tq kq => XS.lload X2.here hx rfl (hb hby d5_12) rfl kq) ?_
  show own_Go p.tables e below _ (T2.setTop (mkF m 14 #[.val (Value.ref a1), .val (Value.ref a2), .val (Value.long q3), .second, .val (Value.long (1 : Int64)), .second] [(Value.long (1 : Int64)), (Value.long q3), (Value.ref a1)]))
  refine own_Go.by (fun tq kq => XS.ladd X2.here hx rfl (hb hby d5_14) rfl kq) ?_
  show own_Go p.tables e below _ (T2.setTop (mkF m 15 #[.val (Value.ref a1), .val (Value.ref a2), .val (Value.long q3), .second, .val (Value.long (1 : Int64)), .second] [(Value.long (q3 + (1 : Int64))), (Value.ref a1)]))
  obtain ⟨T3, h3, X3, e3, W3, st3⟩ := putF X2 hx hZ hown (host := "") (Or.inl (hw _ (List.mem_of_getElem? (i := 88) rfl))) Via.refl e2 H8 H0 (Or.inr ⟨(hw _ (List.mem_of_getElem? (i := 89) rfl)), rfl, hnm⟩) (hw _ (List.mem_of_getElem? (i := 65) rfl)) (ty := .long) (by decide) rfl rfl (g := (mkF m 15 #[.val (Value.ref a1), .val (Value.ref a2), .val (Value.long q3), .second, .val (Value.long (1 : Int64)), .second] [(Value.long (q3 + (1 : Int64))), (Value.ref a1)])) rfl rfl (hb hby d5_15)
  refine own_Go.by st3 ?_
  have N3 := Fr.snoc X3 N2 H2
  have O4 := O0.wr W3 H2
  have K4 := K0.wr W3 (Or.inl (List.mem_of_getElem? (i := 0) rfl))
  have F3 := H8.same W3
  show own_Go p.tables e below _ (T3.setTop (mkF m 18 #[.val (Value.ref a1), .val (Value.ref a2), .val (Value.long q3), .second, .val (Value.long (1 : Int64)), .second] []))
  refine own_Go.by (fun tq kq => XS.aloadN X3.here hx rfl (hb hby d5_18) rfl rfl kq) ?_
  show own_Go p.tables e below _ (T3.setTop (mkF m 19 #[.val (Value.ref a1), .val (Value.ref a2), .val (Value.long q3), .second, .val (Value.long (1 : Int64)), .second] [(Value.ref a1)]))
  refine own_Go.by (fun tq kq => XS.aloadN X3.here hx rfl (hb hby d5_19) rfl rfl kq) ?_
  show own_Go p.tables e below _ (T3.setTop (mkF m 20 #[.val (Value.ref a1), .val (Value.ref a2), .val (Value.long q3), .second, .val (Value.long (1 : Int64)), .second] [(Value.ref a2), (Value.ref a1)]))
  have c5 := (H7.other W3 (Or.inl H3))
  obtain ⟨T6, X6, e6, st6⟩ := getF X3 hx hZ hown (host := "") (Or.inl (hw _ (List.mem_of_getElem? (i := 90) rfl))) Via.refl e3 c5 (g := (mkF m 20 #[.val (Value.ref a1), .val (Value.ref a2), .val (Value.long q3), .second, .val (Value.long (1 : Int64)), .second] [(Value.ref a2), (Value.ref a1)])) rfl rfl (hb hby d5_20)
  refine own_Go.by st6 ?_
  show own_Go p.tables e below _ (T6.setTop (mkF m 23 #[.val (Value.ref a1), .val (Value.ref a2), .val (Value.long q3), .second, .val (Value.long (1 : Int64)), .second] [(Value.long w4), (Value.ref a1)]))
  have c7 := (H9.other W3 (Or.inr (slot_ne (Or.inr (hw _ (List.mem_of_getElem? (i := 92) rfl))) (Or.inr (hw _ (List.mem_of_getElem? (i := 89) rfl))) (by decide) (t := .long) (t' := .long) (by decide) (by decide))))
  have c8 := (H0.wr W3)
  obtain ⟨T9, h9, X9, e9, W9, st9⟩ := putF X6 hx hZ hown (host := "") (Or.inl (hw _ (List.mem_of_getElem? (i := 91) rfl))) Via.refl e6 c7 c8 (Or.inr ⟨(hw _ (List.mem_of_getElem? (i := 92) rfl)), rfl, hnm⟩) (hw _ (List.mem_of_getElem? (i := 65) rfl)) (ty := .long) (by decide) rfl rfl (g := (mkF m 23 #[.val (Value.ref a1), .val (Value.ref a2), .val (Value.long q3), .second, .val (Value.long (1 : Int64)), .second] [(Value.long w4), (Value.ref a1)])) rfl rfl (hb hby d5_23)
  refine own_Go.by st9 ?_
  have N9 := Fr.snoc X9 N3 H2
  have O10 := O4.wr W9 H2
  have K10 := K4.wr W9 (Or.inl (List.mem_of_getElem? (i := 0) rfl))
  have F9 := c7.same W9
  show own_Go p.tables e below _ (T9.setTop (mkF m 26 #[.val (Value.ref a1), .val (Value.ref a2), .val (Value.long q3), .second, .val (Value.long (1 : Int64)), .second] []))
  refine own_Go.by (fun tq kq => XS.aloadN X9.here hx rfl (hb hby d5_26) rfl rfl kq) ?_
  show own_Go p.tables e below _ (T9.setTop (mkF m 27 #[.val (Value.ref a1), .val (Value.ref a2), .val (Value.long q3), .second, .val (Value.long (1 : Int64)), .second] [(Value.ref a1)]))
  refine own_Go.by (fun tq kq => XS.aloadN X9.here hx rfl (hb hby d5_27) rfl rfl kq) ?_
  show own_Go p.tables e below _ (T9.setTop (mkF m 28 #[.val (Value.ref a1), .val (Value.ref a2), .val (Value.long q3), .second, .val (Value.long (1 : Int64)), .second] [(Value.ref a2), (Value.ref a1)]))
  have c12 := ((H4.other W3 (Or.inl H3)).other W9 (Or.inl H3))
  have c13 := ((H5.other W3 (Or.inl H3)).other W9 (Or.inl H3))
  have c14 := ((H6.other W3 (Or.inl H3)).other W9 (Or.inl H3))
  have c15 := ((H1.wr W3).wr W9)
  obtain ⟨cq11, kq11, q11a, q11b, q11c⟩ := isOf hZ e9 c15
  obtain ⟨_, _, ⟨T11, L11, k11, n11⟩, -, X11, ⟨Lc11, hQ11, l11, y11, z11⟩, st11⟩ := X9.virtualBack hx (y := (⟨"com/example/gridmatch/gridmatch/Order", "lastHiddenSlice", "()J"⟩ : MethodName)) (z := (⟨"com/example/gridmatch/gridmatch/Order", "lastHiddenSlice", "()J"⟩ : MethodName)) hown (mvT hZ (hw _ (List.mem_of_getElem? (i := 93) rfl))) (mvT hZ (hw _ (List.mem_of_getElem? (i := 94) rfl))) (notFace_of_selects (args := #[]) (mvT hZ (hw _ (List.mem_of_getElem? (i := 96) rfl)))) (mvT hZ (hw _ (List.mem_of_getElem? (i := 96) rfl))) (mvT hZ (hw _ (List.mem_of_getElem? (i := 95) rfl))) (by decide) (backOf (W := 1) (rm9 l Z a0 hw [] a2 h9 n0 O10 c12 c13 c14 c15) hZ (hw _ (List.mem_of_getElem? (i := 97) rfl)) (hw _ (List.mem_of_getElem? (i := 18) rfl)) (by decide) (by decide)) q11a q11c (g := (mkF m 28 #[.val (Value.ref a1), .val (Value.ref a2), .val (Value.long q3), .second, .val (Value.long (1 : Int64)), .second] [(Value.ref a2), (Value.ref a1)])) rfl (by rw [hml]; rfl) (Steps.refl _) (argsL := []) (rest := [(Value.ref a1)]) (lenOf own_pd2 rfl) rfl (by show 2 * 0 + _ ≤ _; exact Nat.le_of_eq rfl) (hb hby d5_28) (fun _ _ => ⟨rfl, e9, (by decide : 0 + 0 ≤ _), (by decide : 0 + 0 ≤ _)⟩)
  dsimp only [Pt.U, Pt.locs, Pt.cells, Pt.slots] at X11 l11 y11 z11 st11 hQ11
  subst l11 y11 z11
  refine own_Go.by (fun tq kq => st11.trans kq) ?_
  obtain ⟨rfl, N11q, e11⟩ := hQ11
  have N11 := Fr.app N9 N11q
  show own_Go p.tables e below _ (T11.setTop (mkF m 31 #[.val (Value.ref a1), .val (Value.ref a2), .val (Value.long q3), .second, .val (Value.long (1 : Int64)), .second] [(Value.long (1 : Int64)), (Value.ref a1)]))
  have c16 := ((H10.other W3 (Or.inr (slot_ne (Or.inr (hw _ (List.mem_of_getElem? (i := 100) rfl))) (Or.inr (hw _ (List.mem_of_getElem? (i := 89) rfl))) (by decide) (t := .long) (t' := .long) (by decide) (by decide)))).other W9 (Or.inr (slot_ne (Or.inr (hw _ (List.mem_of_getElem? (i := 100) rfl))) (Or.inr (hw _ (List.mem_of_getElem? (i := 92) rfl))) (by decide) (t := .long) (t' := .long) (by decide) (by decide))))
  have c17 := (c8.wr W9)
  obtain ⟨T18, h18, X18, e18, W18, st18⟩ := putF X11 hx hZ hown (host := "") (Or.inl (hw _ (List.mem_of_getElem? (i := 99) rfl))) Via.refl e11 c16 c17 (Or.inr ⟨(hw _ (List.mem_of_getElem? (i := 100) rfl)), rfl, hnm⟩) (hw _ (List.mem_of_getElem? (i := 65) rfl)) (ty := .long) (by decide) rfl rfl (g := (mkF m 31 #[.val (Value.ref a1), .val (Value.ref a2), .val (Value.long q3), .second, .val (Value.long (1 : Int64)), .second] [(Value.long (1 : Int64)), (Value.ref a1)])) rfl rfl (hb hby d5_31)
  refine own_Go.by st18 ?_
  have N18 := Fr.snoc X18 N11 H2
  have O19 := O10.wr W18 H2
  have K19 := K10.wr W18 (Or.inl (List.mem_of_getElem? (i := 0) rfl))
  have F18 := c16.same W18
  show own_Go p.tables e below _ (T18.setTop (mkF m 34 #[.val (Value.ref a1), .val (Value.ref a2), .val (Value.long q3), .second, .val (Value.long (1 : Int64)), .second] []))
  refine own_Go.by (fun tq kq => XS.aloadN X18.here hx rfl (hb hby d5_34) rfl rfl kq) ?_
  show own_Go p.tables e below _ (T18.setTop (mkF m 35 #[.val (Value.ref a1), .val (Value.ref a2), .val (Value.long q3), .second, .val (Value.long (1 : Int64)), .second] [(Value.ref a1)]))
  refine own_Go.by (fun tq kq => XS.aloadN X18.here hx rfl (hb hby d5_35) rfl rfl kq) ?_
  show own_Go p.tables e below _ (T18.setTop (mkF m 36 #[.val (Value.ref a1), .val (Value.ref a2), .val (Value.long q3), .second, .val (Value.long (1 : Int64)), .second] [(Value.ref a2), (Value.ref a1)]))
  refine own_Go.by (fun tq kq => XS.lconst X18.here hx rfl (hb hby d5_36) kq) ?_
  show own_Go p.tables e below _ (T18.setTop (mkF m 37 #[.val (Value.ref a1), .val (Value.ref a2), .val (Value.long q3), .second, .val (Value.long (1 : Int64)), .second] [(Value.long (1 : Int64)), (Value.ref a2), (Value.ref a1)]))
  have c21 := (c12.other W18 (Or.inl H3))
  have c22 := (c13.other W18 (Or.inl H3))
  have c23 := (c14.other W18 (Or.inl H3))
  have c24 := (c15.wr W18)
  obtain ⟨cq20, kq20, q20a, q20b, q20c⟩ := isOf hZ e18 c24
  obtain ⟨_, _, ⟨T20, L20, k20, n20⟩, -, X20, ⟨Lc20, hQ20, l20, y20, z20⟩, st20⟩ := X18.virtualBack hx (y := (⟨"com/example/gridmatch/gridmatch/Order", "hiddenInSlices", "(J)J"⟩ : MethodName)) (z := (⟨"com/example/gridmatch/gridmatch/Order", "hiddenInSlices", "(J)J"⟩ : MethodName)) hown (mvT hZ (hw _ (List.mem_of_getElem? (i := 101) rfl))) (mvT hZ (hw _ (List.mem_of_getElem? (i := 102) rfl))) (notFace_of_selects (args := #[]) (mvT hZ (hw _ (List.mem_of_getElem? (i := 104) rfl)))) (mvT hZ (hw _ (List.mem_of_getElem? (i := 104) rfl))) (mvT hZ (hw _ (List.mem_of_getElem? (i := 103) rfl))) (by decide) (backOf (W := 1) (rm10 l Z a0 hw [] a2 h18 n0 O19 c21 c22 c23 c24) hZ (hw _ (List.mem_of_getElem? (i := 105) rfl)) (hw _ (List.mem_of_getElem? (i := 18) rfl)) (by decide) (by decide)) q20a q20c (g := (mkF m 37 #[.val (Value.ref a1), .val (Value.ref a2), .val (Value.long q3), .second, .val (Value.long (1 : Int64)), .second] [(Value.long (1 : Int64)), (Value.ref a2), (Value.ref a1)])) rfl (by rw [hml]; rfl) (Steps.refl _) (argsL := [(Value.long (1 : Int64))]) (rest := [(Value.ref a1)]) (lenOf own_pd4 rfl) rfl (by show 2 * 0 + _ ≤ _; exact Nat.le_of_eq rfl) (hb hby d5_37) (fun _ _ => ⟨rfl, e18, (by decide : 0 + 0 ≤ _), (by decide : 0 + 0 ≤ _)⟩)
  dsimp only [Pt.U, Pt.locs, Pt.cells, Pt.slots] at X20 l20 y20 z20 st20 hQ20
  subst l20 y20 z20
  refine own_Go.by (fun tq kq => st20.trans kq) ?_
  obtain ⟨rfl, N20q, e20⟩ := hQ20
  have N20 := Fr.app N18 N20q
  show own_Go p.tables e below _ (T20.setTop (mkF m 40 #[.val (Value.ref a1), .val (Value.ref a2), .val (Value.long q3), .second, .val (Value.long (1 : Int64)), .second] [(Value.long (1 : Int64)), (Value.ref a1)]))
  refine own_Go.by (fun tq kq => XS.aloadN X20.here hx rfl (hb hby d5_40) rfl rfl kq) ?_
  show own_Go p.tables e below _ (T20.setTop (mkF m 41 #[.val (Value.ref a1), .val (Value.ref a2), .val (Value.long q3), .second, .val (Value.long (1 : Int64)), .second] [(Value.ref a1), (Value.long (1 : Int64)), (Value.ref a1)]))
  obtain ⟨T25, X25, e25, st25⟩ := getF X20 hx hZ hown (host := "") (Or.inl (hw _ (List.mem_of_getElem? (i := 99) rfl))) Via.refl e20 F18 (g := (mkF m 41 #[.val (Value.ref a1), .val (Value.ref a2), .val (Value.long q3), .second, .val (Value.long (1 : Int64)), .second] [(Value.ref a1), (Value.long (1 : Int64)), (Value.ref a1)])) rfl rfl (hb hby d5_41)
  refine own_Go.by st25 ?_
  show own_Go p.tables e below _ (T25.setTop (mkF m 44 #[.val (Value.ref a1), .val (Value.ref a2), .val (Value.long q3), .second, .val (Value.long (1 : Int64)), .second] [(Value.long (1 : Int64)), (Value.long (1 : Int64)), (Value.ref a1)]))
  refine own_Go.by (fun tq kq => XS.lsub X25.here hx rfl (hb hby d5_44) rfl kq) ?_
  show own_Go p.tables e below _ (T25.setTop (mkF m 45 #[.val (Value.ref a1), .val (Value.ref a2), .val (Value.long q3), .second, .val (Value.long (1 : Int64)), .second] [(Value.long (0 : Int64)), (Value.ref a1)]))
  have c26 := (((H11.other W3 (Or.inr (slot_ne (Or.inr (hw _ (List.mem_of_getElem? (i := 115) rfl))) (Or.inr (hw _ (List.mem_of_getElem? (i := 89) rfl))) (by decide) (t := .long) (t' := .long) (by decide) (by decide)))).other W9 (Or.inr (slot_ne (Or.inr (hw _ (List.mem_of_getElem? (i := 115) rfl))) (Or.inr (hw _ (List.mem_of_getElem? (i := 92) rfl))) (by decide) (t := .long) (t' := .long) (by decide) (by decide)))).other W18 (Or.inr (slot_ne (Or.inr (hw _ (List.mem_of_getElem? (i := 115) rfl))) (Or.inr (hw _ (List.mem_of_getElem? (i := 100) rfl))) (by decide) (t := .long) (t' := .long) (by decide) (by decide))))
  have c27 := (c17.wr W18)
  obtain ⟨T28, h28, X28, e28, W28, st28⟩ := putF X25 hx hZ hown (host := "") (Or.inl (hw _ (List.mem_of_getElem? (i := 114) rfl))) Via.refl e25 c26 c27 (Or.inr ⟨(hw _ (List.mem_of_getElem? (i := 115) rfl)), rfl, hnm⟩) (hw _ (List.mem_of_getElem? (i := 65) rfl)) (ty := .long) (by decide) rfl rfl (g := (mkF m 45 #[.val (Value.ref a1), .val (Value.ref a2), .val (Value.long q3), .second, .val (Value.long (1 : Int64)), .second] [(Value.long (0 : Int64)), (Value.ref a1)])) rfl rfl (hb hby d5_45)
  refine own_Go.by st28 ?_
  have N28 := Fr.snoc X28 N20 H2
  have O29 := O19.wr W28 H2
  have K29 := K19.wr W28 (Or.inl (List.mem_of_getElem? (i := 0) rfl))
  have F28 := c26.same W28
  show own_Go p.tables e below _ (T28.setTop (mkF m 48 #[.val (Value.ref a1), .val (Value.ref a2), .val (Value.long q3), .second, .val (Value.long (1 : Int64)), .second] []))
  refine own_Go.by (fun tq kq => XS.aloadN X28.here hx rfl (hb hby d5_48) rfl rfl kq) ?_
  show own_Go p.tables e below _ (T28.setTop (mkF m 49 #[.val (Value.ref a1), .val (Value.ref a2), .val (Value.long q3), .second, .val (Value.long (1 : Int64)), .second] [(Value.ref a1)]))
  refine own_Go.by (fun tq kq => XS.aloadN X28.here hx rfl (hb hby d5_49) rfl rfl kq) ?_
  show own_Go p.tables e below _ (T28.setTop (mkF m 50 #[.val (Value.ref a1), .val (Value.ref a2), .val (Value.long q3), .second, .val (Value.long (1 : Int64)), .second] [(Value.ref a2), (Value.ref a1)]))
  refine own_Go.by (fun tq kq => XS.lload X28.here hx rfl (hb hby d5_50) rfl kq) ?_
  show own_Go p.tables e below _ (T28.setTop (mkF m 52 #[.val (Value.ref a1), .val (Value.ref a2), .val (Value.long q3), .second, .val (Value.long (1 : Int64)), .second] [(Value.long (1 : Int64)), (Value.ref a2), (Value.ref a1)]))
  have c31 := (c21.other W28 (Or.inl H3))
  have c32 := (c22.other W28 (Or.inl H3))
  have c33 := (c23.other W28 (Or.inl H3))
  have c34 := (c24.wr W28)
  obtain ⟨cq30, kq30, q30a, q30b, q30c⟩ := isOf hZ e28 c34
  obtain ⟨_, _, ⟨T30, L30, k30, n30⟩, -, X30, ⟨Lc30, hQ30, l30, y30, z30⟩, st30⟩ := X28.virtualBack hx (y := (⟨"com/example/gridmatch/gridmatch/Order", "hiddenInSlices", "(J)J"⟩ : MethodName)) (z := (⟨"com/example/gridmatch/gridmatch/Order", "hiddenInSlices", "(J)J"⟩ : MethodName)) hown (mvT hZ (hw _ (List.mem_of_getElem? (i := 101) rfl))) (mvT hZ (hw _ (List.mem_of_getElem? (i := 102) rfl))) (notFace_of_selects (args := #[]) (mvT hZ (hw _ (List.mem_of_getElem? (i := 104) rfl)))) (mvT hZ (hw _ (List.mem_of_getElem? (i := 104) rfl))) (mvT hZ (hw _ (List.mem_of_getElem? (i := 103) rfl))) (by decide) (backOf (W := 1) (rm10 l Z a0 hw [] a2 h28 n0 O29 c31 c32 c33 c34) hZ (hw _ (List.mem_of_getElem? (i := 105) rfl)) (hw _ (List.mem_of_getElem? (i := 18) rfl)) (by decide) (by decide)) q30a q30c (g := (mkF m 52 #[.val (Value.ref a1), .val (Value.ref a2), .val (Value.long q3), .second, .val (Value.long (1 : Int64)), .second] [(Value.long (1 : Int64)), (Value.ref a2), (Value.ref a1)])) rfl (by rw [hml]; rfl) (Steps.refl _) (argsL := [(Value.long (1 : Int64))]) (rest := [(Value.ref a1)]) (lenOf own_pd4 rfl) rfl (by show 2 * 0 + _ ≤ _; exact Nat.le_of_eq rfl) (hb hby d5_52) (fun _ _ => ⟨rfl, e28, (by decide : 0 + 0 ≤ _), (by decide : 0 + 0 ≤ _)⟩)
  dsimp only [Pt.U, Pt.locs, Pt.cells, Pt.slots] at X30 l30 y30 z30 st30 hQ30
  subst l30 y30 z30
  refine own_Go.by (fun tq kq => st30.trans kq) ?_
  obtain ⟨rfl, N30q, e30⟩ := hQ30
  have N30 := Fr.app N28 N30q
  show own_Go p.tables e below _ (T30.setTop (mkF m 55 #[.val (Value.ref a1), .val (Value.ref a2), .val (Value.long q3), .second, .val (Value.long (1 : Int64)), .second] [(Value.long (1 : Int64)), (Value.ref a1)]))
  have c35 := ((((H12.other W3 (Or.inr (slot_ne (Or.inr (hw _ (List.mem_of_getElem? (i := 117) rfl))) (Or.inr (hw _ (List.mem_of_getElem? (i := 89) rfl))) (by decide) (t := .long) (t' := .long) (by decide) (by decide)))).other W9 (Or.inr (slot_ne (Or.inr (hw _ (List.mem_of_getElem? (i := 117) rfl))) (Or.inr (hw _ (List.mem_of_getElem? (i := 92) rfl))) (by decide) (t := .long) (t' := .long) (by decide) (by decide)))).other W18 (Or.inr (slot_ne (Or.inr (hw _ (List.mem_of_getElem? (i := 117) rfl))) (Or.inr (hw _ (List.mem_of_getElem? (i := 100) rfl))) (by decide) (t := .long) (t' := .long) (by decide) (by decide)))).other W28 (Or.inr (slot_ne (Or.inr (hw _ (List.mem_of_getElem? (i := 117) rfl))) (Or.inr (hw _ (List.mem_of_getElem? (i := 115) rfl))) (by decide) (t := .long) (t' := .long) (by decide) (by decide))))
  have c36 := (c27.wr W28)
  obtain ⟨T37, h37, X37, e37, W37, st37⟩ := putF X30 hx hZ hown (host := "") (Or.inl (hw _ (List.mem_of_getElem? (i := 116) rfl))) Via.refl e30 c35 c36 (Or.inr ⟨(hw _ (List.mem_of_getElem? (i := 117) rfl)), rfl, hnm⟩) (hw _ (List.mem_of_getElem? (i := 65) rfl)) (ty := .long) (by decide) rfl rfl (g := (mkF m 55 #[.val (Value.ref a1), .val (Value.ref a2), .val (Value.long q3), .second, .val (Value.long (1 : Int64)), .second] [(Value.long (1 : Int64)), (Value.ref a1)])) rfl rfl (hb hby d5_55)
  refine own_Go.by st37 ?_
  have N37 := Fr.snoc X37 N30 H2
  have O38 := O29.wr W37 H2
  have K38 := K29.wr W37 (Or.inl (List.mem_of_getElem? (i := 0) rfl))
  have F37 := c35.same W37
  show own_Go p.tables e below _ (T37.setTop (mkF m 58 #[.val (Value.ref a1), .val (Value.ref a2), .val (Value.long q3), .second, .val (Value.long (1 : Int64)), .second] []))
  have c39 := (c36.wr W37)
  have c40 := ((((F3.other W9 (Or.inr (slot_ne (Or.inr (hw _ (List.mem_of_getElem? (i := 89) rfl))) (Or.inr (hw _ (List.mem_of_getElem? (i := 92) rfl))) (by decide) (t := .long) (t' := .long) (by decide) (by decide)))).other W18 (Or.inr (slot_ne (Or.inr (hw _ (List.mem_of_getElem? (i := 89) rfl))) (Or.inr (hw _ (List.mem_of_getElem? (i := 100) rfl))) (by decide) (t := .long) (t' := .long) (by decide) (by decide)))).other W28 (Or.inr (slot_ne (Or.inr (hw _ (List.mem_of_getElem? (i := 89) rfl))) (Or.inr (hw _ (List.mem_of_getElem? (i := 115) rfl))) (by decide) (t := .long) (t' := .long) (by decide) (by decide)))).other W37 (Or.inr (slot_ne (Or.inr (hw _ (List.mem_of_getElem? (i := 89) rfl))) (Or.inr (hw _ (List.mem_of_getElem? (i := 117) rfl))) (by decide) (t := .long) (t' := .long) (by decide) (by decide))))
  have c41 := (((F9.other W18 (Or.inr (slot_ne (Or.inr (hw _ (List.mem_of_getElem? (i := 92) rfl))) (Or.inr (hw _ (List.mem_of_getElem? (i := 100) rfl))) (by decide) (t := .long) (t' := .long) (by decide) (by decide)))).other W28 (Or.inr (slot_ne (Or.inr (hw _ (List.mem_of_getElem? (i := 92) rfl))) (Or.inr (hw _ (List.mem_of_getElem? (i := 115) rfl))) (by decide) (t := .long) (t' := .long) (by decide) (by decide)))).other W37 (Or.inr (slot_ne (Or.inr (hw _ (List.mem_of_getElem? (i := 92) rfl))) (Or.inr (hw _ (List.mem_of_getElem? (i := 117) rfl))) (by decide) (t := .long) (t' := .long) (by decide) (by decide))))
  obtain ⟨fs, hr, hrun, hended, hW, hsame⟩ := X37.leave (v := none) (fun _ => rfl)
  refine own_Go.fin (X37.returnOut hx Bd.returns (hb hby d5_58) hr) ⟨hrun, hended, _, _, rfl, ?_, ⟨_, rfl⟩, hW, hsame.mono (by decide) (by decide)⟩
  show Q5 Z a1 a2 q3 w4 h0 n0 _ T37.heap _
  rw [e37]
  exact ⟨rfl, N37, K38, c39, c40, c41⟩

theorem own_pd5 : parseMethodDescriptor "(Ljava/lang/String;Ljava/lang/String;Lcom/example/gridmatch/gridmatch/Side;JJJJ)Lcom/example/gridmatch/gridmatch/Order;" = some ⟨[(.object "java/lang/String"), (.object "java/lang/String"), (.object "com/example/gridmatch/gridmatch/Side"), .long, .long, .long, .long], some (.object "com/example/gridmatch/gridmatch/Order")⟩ := by decide +kernel
theorem own_pd6 : parseMethodDescriptor "(Lcom/example/gridmatch/gridmatch/Order;J)V" = some ⟨[(.object "com/example/gridmatch/gridmatch/Order"), .long], none⟩ := by decide +kernel
theorem d1_0 : decode method_3_code 0 = .ok (.ldc 19, 2) := by decide +kernel
theorem d1_2 : decode method_3_code 2 = .ok (.ldc 21, 2) := by decide +kernel
theorem d1_4 : decode method_3_code 4 = .ok (.getstatic 23, 3) := by decide +kernel
theorem d1_7 : decode method_3_code 7 = .ok (.lconst 0, 1) := by decide +kernel
theorem d1_8 : decode method_3_code 8 = .ok (.lconst 1, 1) := by decide +kernel
theorem d1_9 : decode method_3_code 9 = .ok (.lconst 1, 1) := by decide +kernel
theorem d1_10 : decode method_3_code 10 = .ok (.lconst 0, 1) := by decide +kernel
theorem d1_11 : decode method_3_code 11 = .ok (.invokestatic 29, 3) := by decide +kernel
theorem d1_14 : decode method_3_code 14 = .ok (.astore 4, 2) := by decide +kernel
theorem d1_16 : decode method_3_code 16 = .ok (.aload 4, 2) := by decide +kernel
theorem d1_18 : decode method_3_code 18 = .ok (.lload_n 2, 1) := by decide +kernel
theorem d1_19 : decode method_3_code 19 = .ok (.putfield 35, 3) := by decide +kernel
theorem d1_22 : decode method_3_code 22 = .ok (.new 14, 3) := by decide +kernel
theorem d1_25 : decode method_3_code 25 = .ok (.dup, 1) := by decide +kernel
theorem d1_26 : decode method_3_code 26 = .ok (.aload 4, 2) := by decide +kernel
theorem d1_28 : decode method_3_code 28 = .ok (.lload_n 0, 1) := by decide +kernel
theorem d1_29 : decode method_3_code 29 = .ok (.lconst 1, 1) := by decide +kernel
theorem d1_30 : decode method_3_code 30 = .ok (.lsub, 1) := by decide +kernel
theorem d1_31 : decode method_3_code 31 = .ok (.invokespecial 39, 3) := by decide +kernel
theorem d1_34 : decode method_3_code 34 = .ok (.areturn, 1) := by decide +kernel
theorem own_pn_com_example_gridmatch_gridmatch_ByLastSliceBeforePinLaw : plainName "com/example/gridmatch/gridmatch/ByLastSliceBeforePinLaw" = true := by first | (simp [plainName, overriddenIn]; done) | decide +kernel
theorem own_ef_1 (m : MethodId) (q1 : Int64) (q2 : Int64) : entryFrame m #[(Value.long q1), (Value.long q2)] 5 = mkF m 0 #[.val (Value.long q1), .second, .val (Value.long q2), .second, .unset] [] := by first | (simp [entryFrame, mkF, argsToLocals, Value.category]; done) | rfl
def Q1 (Z : State) (q1 : Int64) (q2 : Int64) (aB : Addr) (aI : Addr) (aN : Addr) (aG : Addr) (h0 : Heap) (n0 : Nat) (v : Option Value) (h : Heap) (L : List Loc) : Prop := ∃ (b : Addr), v = some (Value.ref b) ∧ Fr n0 L ∧ Keep h0 h [] ∧ (h0.size ≤ b) ∧ (Exa Z h b "com/example/gridmatch/gridmatch/ByLastSlice") ∧ (Fld Z h b "com/example/gridmatch/gridmatch/ByLastSlice" "lastPlace" "J" (Value.long q1)) ∧ (Fld Z h b "com/example/gridmatch/gridmatch/ByLastSlice" "sequence" "J" (Value.long q2))
set_option maxRecDepth 65536 in
set_option maxHeartbeats 40000000 in
theorem rm1 (l : Launch) (Z : State) (a0 : Array Value) (hw : ∀ d ∈ tables_1, d.before a0 Z = true) (ws : List Jvm.Cond) (q1 : Int64) (q2 : Int64) (aB : Addr) (aI : Addr) (aN : Addr) (aG : Addr) (h0 : Heap) (n0 : Nat) (O0 : Old Z n0 h0) (H0 : Sta Z Z.heap "com/example/gridmatch/gridmatch/Side" "BUY" "Lcom/example/gridmatch/gridmatch/Side;" (Value.ref aB)) (H1 : Sta Z Z.heap "com/example/gridmatch/gridmatch/OrderType" "ICB" "Lcom/example/gridmatch/gridmatch/OrderType;" (Value.ref aI)) (H2 : Sta Z Z.heap "com/example/gridmatch/gridmatch/Restriction" "NON" "Lcom/example/gridmatch/gridmatch/Restriction;" (Value.ref aN)) (H3 : Sta Z Z.heap "com/example/gridmatch/gridmatch/Validity" "GFS" "Lcom/example/gridmatch/gridmatch/Validity;" (Value.ref aG)) :
    MetFree l (⟨"com/example/gridmatch/gridmatch/ByLastSliceBeforePinLaw", "node", "(JJ)Lcom/example/gridmatch/gridmatch/ByLastSlice;"⟩ : MethodName) (head1 (Jvm.Cond.code (⟨"com/example/gridmatch/gridmatch/ByLastSliceBeforePinLaw", "node", "(JJ)Lcom/example/gridmatch/gridmatch/ByLastSlice;"⟩ : MethodName) method_3_code 5 (some (.object "com/example/gridmatch/gridmatch/ByLastSlice")) :: ws) ({ frames := 4, cells := 8, slots := 52, locals := 63 } : Room)) (fun a U => a = #[(Value.long q1), (Value.long q2)] ∧ Z.Warmed39 U.vm ∧ U.heap = h0) (fun _ _ _ _ _ => True) (fun _ U o U' => ∃ v L, o = .returned v ∧ Q1 Z q1 q2 aB aI aN aG h0 n0 v U'.heap L ∧ ReturnedEndW U o U' L ({ frames := 4, cells := 8, slots := 52, locals := 63 } : Room).cells ({ frames := 4, cells := 8, slots := 52, locals := 63 } : Room).slots) := by
  refine MetFree.of_bodySF (plainFor_of_name own_pn_com_example_gridmatch_gridmatch_ByLastSliceBeforePinLaw) hisR ?_
  intro p e s m args below meth c s₁ Bd hml0 hP hK
  obtain ⟨rfl, hZ, hh⟩ := hP
  have hx := Bd.exec
  have hby := Bd.bytes
  have hml : c.maxLocals = 5 := hml0
  have hown : s.vm.findClass "com/example/gridmatch/gridmatch/ByLastSliceBeforePinLaw" = some m.cls := findClass_of_methodNamed Bd.named
  have hnm := (name_of_methodNamed Bd.named Bd.method).1
  have X0 : Stand p l e ({ frames := 4, cells := 8, slots := 52, locals := 63 } : Room) s m #[(Value.long q1), (Value.long q2)] below meth c s₁ [] 0 0 := Stand.of_body Bd
  have e0 : s₁.heap = h0 := by rw [← hh, Bd.state]; rfl
  have hS0 : s.Since s.vm 0 := (State.WarmedH.refl s).since 0
  have N0 := Fr.nil n0
  have K0 : Keep h0 h0 [] := Keep.refl h0 []
  show own_Go p.tables e below _ (s₁.setTop (entryFrame m #[(Value.long q1), (Value.long q2)] 5))
  refine own_Go.by (fun tq kq => castTop (own_ef_1 m q1 q2) kq) ?_
  show own_Go p.tables e below _ (s₁.setTop (mkF m 0 #[.val (Value.long q1), .second, .val (Value.long q2), .second, .unset] []))
  obtain ⟨sa1, T1, h1, k1, X1, e1, E1, hS1, hk1, hZ1, hown1, st1⟩ := ldcS (s := s) (vm0 := s.vm) X0 hx hZ hown (hw _ (List.mem_of_getElem? (i := 4) rfl)) (fun d hd => hw d (own_wS d hd)) e0 hS0 (Nat.zero_le _) (g := (mkF m 0 #[.val (Value.long q1), .second, .val (Value.long q2), .second, .unset] [])) rfl (hb hby d1_0) (n := 4) (by decide) (by decide) (by decide) (by decide)
  refine own_Go.by st1 ?_
  have O2 := O0.ext E1
  have K2 := K0.ext E1
  show own_Go p.tables e below _ (T1.setTop (mkF m 2 #[.val (Value.long q1), .second, .val (Value.long q2), .second, .unset] [(Value.ref sa1)]))
  obtain ⟨sa3, T3, h3, k3, X3, e3, E3, hS3, hk3, hZ3, hown3, st3⟩ := ldcS (s := s) (vm0 := T1.vm) X1 hx hZ1 hown1 (hw _ (List.mem_of_getElem? (i := 12) rfl)) (fun d hd => hw d (own_wS d hd)) e1 hS1 hk1 (g := (mkF m 2 #[.val (Value.long q1), .second, .val (Value.long q2), .second, .unset] [(Value.ref sa1)])) rfl (hb hby d1_2) (n := 4) (by decide) (by decide) (by decide) (by decide)
  refine own_Go.by st3 ?_
  have O4 := O2.ext E3
  have K4 := K2.ext E3
  show own_Go p.tables e below _ (T3.setTop (mkF m 4 #[.val (Value.long q1), .second, .val (Value.long q2), .second, .unset] [(Value.ref sa3), (Value.ref sa1)]))
  obtain ⟨T5, X5, e5, st5⟩ := getS2 X3 hx hZ3 hown3 (host := "") (Or.inl (hw _ (List.mem_of_getElem? (i := 13) rfl))) Via.refl e3 (H0.ext O4.2) (g := (mkF m 4 #[.val (Value.long q1), .second, .val (Value.long q2), .second, .unset] [(Value.ref sa3), (Value.ref sa1)])) rfl (hb hby d1_4)
  refine own_Go.by st5 ?_
  show own_Go p.tables e below _ (T5.setTop (mkF m 7 #[.val (Value.long q1), .second, .val (Value.long q2), .second, .unset] [(Value.ref aB), (Value.ref sa3), (Value.ref sa1)]))
  refine own_Go.by (fun tq kq => XS.lconst X5.here hx rfl (hb hby d1_7) kq) ?_
  show own_Go p.tables e below _ (T5.setTop (mkF m 8 #[.val (Value.long q1), .second, .val (Value.long q2), .second, .unset] [(Value.long (0 : Int64)), (Value.ref aB), (Value.ref sa3), (Value.ref sa1)]))
  refine own_Go.by (fun tq kq => XS.lconst X5.here hx rfl (hb hby d1_8) kq) ?_
  show own_Go p.tables e below _ (T5.setTop (mkF m 9 #[.val (Value.long q1), .second, .val (Value.long q2), .second, .unset] [(Value.long (1 : Int64)), (Value.long (0 : Int64)), (Value.ref aB), (Value.ref sa3), (Value.ref sa1)]))
  refine own_Go.by (fun tq kq => XS.lconst X5.here hx rfl (hb hby d1_9) kq) ?_
  show own_Go p.tables e below _ (T5.setTop (mkF m 10 #[.val (Value.long q1), .second, .val (Value.long q2), .second, .unset] [(Value.long (1 : Int64)), (Value.long (1 : Int64)), (Value.long (0 : Int64)), (Value.ref aB), (Value.ref sa3), (Value.ref sa1)]))
  refine own_Go.by (fun tq kq => XS.lconst X5.here hx rfl (hb hby d1_10) kq) ?_
  show own_Go p.tables e below _ (T5.setTop (mkF m 11 #[.val (Value.long q1), .second, .val (Value.long q2), .second, .unset] [(Value.long (0 : Int64)), (Value.long (1 : Int64)), (Value.long (1 : Int64)), (Value.long (0 : Int64)), (Value.ref aB), (Value.ref sa3), (Value.ref sa1)]))
  obtain ⟨_, _, ⟨T6, L6, k6, n6⟩, -, X6, hs6, hg6, ⟨Lc6, hQ6, l6, y6, z6⟩, st6⟩ := Jvm.RoadKit.callSS X5 hx (y := (⟨"com/example/gridmatch/gridmatch/Order", "iceberg", "(Ljava/lang/String;Ljava/lang/String;Lcom/example/gridmatch/gridmatch/Side;JJJJ)Lcom/example/gridmatch/gridmatch/Order;"⟩ : MethodName)) hown3 (mvT hZ3 (hw _ (List.mem_of_getElem? (i := 16) rfl))) (mvT hZ3 (hw _ (List.mem_of_getElem? (i := 17) rfl))) (mvT hZ3 (hw _ (List.mem_of_getElem? (i := 18) rfl))) (mvT hZ3 (hw _ (List.mem_of_getElem? (i := 19) rfl))) (by decide) (backOfS (W := 0) (rm2 l Z a0 hw [] sa1 sa3 aB (0 : Int64) (1 : Int64) (1 : Int64) (0 : Int64) aI aN aG h3 n0 O4 H1 H2 H3) hZ3 (hw _ (List.mem_of_getElem? (i := 19) rfl)) (hw _ (List.mem_of_getElem? (i := 18) rfl)) (by decide) (by decide)) (g := (mkF m 11 #[.val (Value.long q1), .second, .val (Value.long q2), .second, .unset] [(Value.long (0 : Int64)), (Value.long (1 : Int64)), (Value.long (1 : Int64)), (Value.long (0 : Int64)), (Value.ref aB), (Value.ref sa3), (Value.ref sa1)])) rfl (by rw [hml]; rfl) (argsL := [(Value.ref sa1), (Value.ref sa3), (Value.ref aB), (Value.long (0 : Int64)), (Value.long (1 : Int64)), (Value.long (1 : Int64)), (Value.long (0 : Int64))]) (rest := []) (lenOf own_pd5 rfl) rfl (by show 2 * 0 + _ ≤ _; exact Nat.le_of_eq rfl) (hb hby d1_11) (fun _ _ => ⟨rfl, e5, (by decide : 4 + 3 ≤ _), (by decide : 16 + 25 ≤ _)⟩)
  dsimp only [Pt.U, Pt.locs, Pt.cells, Pt.slots] at X6 l6 y6 z6 st6 hQ6 hs6 hg6
  subst l6 y6 z6
  obtain ⟨X6, hS6, hZ6, hown6⟩ := rebS (s := s) (vm0 := T3.vm) hS3 (by rw [e5]; exact hk3) X6 hs6 hg6 hZ3 hown3
  refine own_Go.by (fun tq kq => st6.trans kq) ?_
  obtain ⟨b_6, rfl, N6q, K6q, p6_0, p6_1, p6_2, p6_3, p6_4, p6_5⟩ := hQ6
  have N6 := Fr.app N0 N6q
  have O7 := O4.keep K6q all0
  have K7 := K4.trans K6q all0
  have g8 : n0 ≤ b_6 := Nat.le_trans (own_old_le O4) p6_0
  have z8 : h0.size ≤ b_6 := Nat.le_trans K4.1 p6_0
  show own_Go p.tables e below _ (T6.setTop (mkF m 14 #[.val (Value.long q1), .second, .val (Value.long q2), .second, .unset] [(Value.ref b_6)]))
  refine own_Go.by (fun tq kq => XS.astore X6.here hx rfl (hb hby d1_14) rfl rfl (l' := #[.val (Value.long q1), .second, .val (Value.long q2), .second, .val (Value.ref b_6)]) rfl kq) ?_
  show own_Go p.tables e below _ (T6.setTop (mkF m 16 #[.val (Value.long q1), .second, .val (Value.long q2), .second, .val (Value.ref b_6)] []))
  refine own_Go.by (fun tq kq => XS.aload X6.here hx rfl (hb hby d1_16) rfl rfl kq) ?_
  show own_Go p.tables e below _ (T6.setTop (mkF m 18 #[.val (Value.long q1), .second, .val (Value.long q2), .second, .val (Value.ref b_6)] [(Value.ref b_6)]))
  refine own_Go.by (fun tq kq => XS.lloadN X6.here hx rfl (hb hby d1_18) rfl kq) ?_
  show own_Go p.tables e below _ (T6.setTop (mkF m 19 #[.val (Value.long q1), .second, .val (Value.long q2), .second, .val (Value.ref b_6)] [(Value.long q2), (Value.ref b_6)]))
  obtain ⟨T9, h9, X9, e9, W9, st9⟩ := putF X6 hx hZ6 hown6 (host := "") (Or.inl (hw _ (List.mem_of_getElem? (i := 62) rfl))) Via.refl rfl p6_5 p6_1 (Or.inl (hw _ (List.mem_of_getElem? (i := 63) rfl))) (hw _ (List.mem_of_getElem? (i := 21) rfl)) (ty := .long) (by decide) rfl rfl (g := (mkF m 19 #[.val (Value.long q1), .second, .val (Value.long q2), .second, .val (Value.ref b_6)] [(Value.long q2), (Value.ref b_6)])) rfl rfl (hb hby d1_19)
  refine own_Go.by st9 ?_
  have N9 := Fr.snoc X9 N6 g8
  have O10 := O7.wr W9 g8
  have K10 := K7.wr W9 (Or.inr z8)
  have hk_10 := (Keep.of_wr W9).1
  have F9 := p6_5.same W9
  show own_Go p.tables e below _ (T9.setTop (mkF m 22 #[.val (Value.long q1), .second, .val (Value.long q2), .second, .val (Value.ref b_6)] []))
  obtain ⟨T11, h11, X11, e11, E11, A11, D11, -, st11⟩ := newO X9 hx hZ6 hown6 (hw _ (List.mem_of_getElem? (i := 64) rfl)) (hw _ (List.mem_of_getElem? (i := 65) rfl)) (hw _ (List.mem_of_getElem? (i := 66) rfl)) e9 (g := (mkF m 22 #[.val (Value.long q1), .second, .val (Value.long q2), .second, .val (Value.ref b_6)] [])) rfl (hb hby d1_22) (by decide) (by decide)
  obtain ⟨b11, y11⟩ : ∃ z, z = h9.size := ⟨_, rfl⟩
  rw [← y11] at A11 D11 st11
  refine own_Go.by st11 ?_
  have O12 := O10.ext E11
  have K12 := K10.ext E11
  have hk_12 := Nat.le_trans hk_10 E11.1
  have g13 : n0 ≤ b11 := Nat.le_trans (own_old_le O10) (Nat.le_of_eq y11.symm)
  have z13 : h0.size ≤ b11 := Nat.le_trans K10.1 (Nat.le_of_eq y11.symm)
  have F11_lastPlace : Fld Z h11 b11 "com/example/gridmatch/gridmatch/ByLastSlice" "lastPlace" "J" (Value.long (0 : Int64)) := D11 (Or.inr (hw _ (List.mem_of_getElem? (i := 89) rfl))) (ty := .long) (by decide)
  have F11_sequence : Fld Z h11 b11 "com/example/gridmatch/gridmatch/ByLastSlice" "sequence" "J" (Value.long (0 : Int64)) := D11 (Or.inr (hw _ (List.mem_of_getElem? (i := 92) rfl))) (ty := .long) (by decide)
  have F11_last : Fld Z h11 b11 "com/example/gridmatch/gridmatch/ByLastSlice" "last" "J" (Value.long (0 : Int64)) := D11 (Or.inr (hw _ (List.mem_of_getElem? (i := 100) rfl))) (ty := .long) (by decide)
  have F11_more : Fld Z h11 b11 "com/example/gridmatch/gridmatch/ByLastSlice" "more" "J" (Value.long (0 : Int64)) := D11 (Or.inr (hw _ (List.mem_of_getElem? (i := 115) rfl))) (ty := .long) (by decide)
  have F11_hidden : Fld Z h11 b11 "com/example/gridmatch/gridmatch/ByLastSlice" "hidden" "J" (Value.long (0 : Int64)) := D11 (Or.inr (hw _ (List.mem_of_getElem? (i := 117) rfl))) (ty := .long) (by decide)
  show own_Go p.tables e below _ (T11.setTop (mkF m 25 #[.val (Value.long q1), .second, .val (Value.long q2), .second, .val (Value.ref b_6)] [(Value.ref b11)]))
  refine own_Go.by (fun tq kq => XS.dup X11.here hx rfl (hb hby d1_25) rfl rfl kq) ?_
  show own_Go p.tables e below _ (T11.setTop (mkF m 26 #[.val (Value.long q1), .second, .val (Value.long q2), .second, .val (Value.ref b_6)] [(Value.ref b11), (Value.ref b11)]))
  refine own_Go.by (fun tq kq => XS.aload X11.here hx rfl (hb hby d1_26) rfl rfl kq) ?_
  show own_Go p.tables e below _ (T11.setTop (mkF m 28 #[.val (Value.long q1), .second, .val (Value.long q2), .second, .val (Value.ref b_6)] [(Value.ref b_6), (Value.ref b11), (Value.ref b11)]))
  refine own_Go.by (fun tq kq => XS.lloadN X11.here hx rfl (hb hby d1_28) rfl kq) ?_
  show own_Go p.tables e below _ (T11.setTop (mkF m 29 #[.val (Value.long q1), .second, .val (Value.long q2), .second, .val (Value.ref b_6)] [(Value.long q1), (Value.ref b_6), (Value.ref b11), (Value.ref b11)]))
  refine own_Go.by (fun tq kq => XS.lconst X11.here hx rfl (hb hby d1_29) kq) ?_
  show own_Go p.tables e below _ (T11.setTop (mkF m 30 #[.val (Value.long q1), .second, .val (Value.long q2), .second, .val (Value.ref b_6)] [(Value.long (1 : Int64)), (Value.long q1), (Value.ref b_6), (Value.ref b11), (Value.ref b11)]))
  refine own_Go.by (fun tq kq => XS.lsub X11.here hx rfl (hb hby d1_30) rfl kq) ?_
  show own_Go p.tables e below _ (T11.setTop (mkF m 31 #[.val (Value.long q1), .second, .val (Value.long q2), .second, .val (Value.ref b_6)] [(Value.long (q1 - (1 : Int64))), (Value.ref b_6), (Value.ref b11), (Value.ref b11)]))
  have c15 := ((p6_1.wr W9).ext E11)
  have c16 := ((p6_2.other W9 (Or.inr (slot_ne (Or.inl (hw _ (List.mem_of_getElem? (i := 53) rfl))) (Or.inl (hw _ (List.mem_of_getElem? (i := 63) rfl))) (by decide) (t := .long) (t' := .long) (by decide) (by decide)))).ext E11)
  have c17 := ((p6_4.other W9 (Or.inr (slot_ne (Or.inl (hw _ (List.mem_of_getElem? (i := 87) rfl))) (Or.inl (hw _ (List.mem_of_getElem? (i := 63) rfl))) (by decide) (t := .long) (t' := .long) (by decide) (by decide)))).ext E11)
  have c18 := ((p6_3.other W9 (Or.inr (slot_ne (Or.inl (hw _ (List.mem_of_getElem? (i := 55) rfl))) (Or.inl (hw _ (List.mem_of_getElem? (i := 63) rfl))) (by decide) (t := .long) (t' := .long) (by decide) (by decide)))).ext E11)
  have c19 := (F9.ext E11)
  obtain ⟨_, _, ⟨T14, L14, k14, n14⟩, -, X14, ⟨Lc14, hQ14, l14, y14, z14⟩, st14⟩ := X11.specialBack hx (y := (⟨"com/example/gridmatch/gridmatch/ByLastSlice", "<init>", "(Lcom/example/gridmatch/gridmatch/Order;J)V"⟩ : MethodName)) rfl hown6 (mvT hZ6 (hw _ (List.mem_of_getElem? (i := 67) rfl))) (mvT hZ6 (hw _ (List.mem_of_getElem? (i := 68) rfl))) (mvT hZ6 (hw _ (List.mem_of_getElem? (i := 69) rfl))) (by decide) (backOf (W := 1) (rm5 l Z a0 hw [] b11 b_6 (q1 - (1 : Int64)) q2 h11 n0 O12 A11 c15 g13 (Nat.ne_of_lt (Nat.lt_of_lt_of_le p6_1.lt (Nat.le_trans (Keep.of_wr W9).1 (Nat.le_of_eq y11.symm)))) c16 c17 c18 c19 F11_lastPlace F11_sequence F11_last F11_more F11_hidden) hZ6 (hw _ (List.mem_of_getElem? (i := 69) rfl)) (hw _ (List.mem_of_getElem? (i := 66) rfl)) (by decide) (by decide)) (g := (mkF m 31 #[.val (Value.long q1), .second, .val (Value.long q2), .second, .val (Value.ref b_6)] [(Value.long (q1 - (1 : Int64))), (Value.ref b_6), (Value.ref b11), (Value.ref b11)])) rfl (by rw [hml]; rfl) (Steps.refl _) (a := b11) (argsL := [(Value.ref b_6), (Value.long (q1 - (1 : Int64)))]) (rest := [(Value.ref b11)]) (lenOf own_pd6 rfl) rfl (by show 2 * 0 + _ ≤ _; exact Nat.le_of_eq rfl) (hb hby d1_31) (fun _ _ => ⟨rfl, e11, (by decide : 8 + 0 ≤ _), (by decide : 52 + 0 ≤ _)⟩)
  dsimp only [Pt.U, Pt.locs, Pt.cells, Pt.slots] at X14 l14 y14 z14 st14 hQ14
  subst l14 y14 z14
  refine own_Go.by (fun tq kq => st14.trans kq) ?_
  obtain ⟨rfl, N14q, K14q, p14_0, p14_1, p14_2⟩ := hQ14
  have N14 := Fr.app N9 N14q
  have O20 := O12.keep K14q (allS g13 all0)
  have K20 := K12.trans K14q (allS (Or.inr z13) all0)
  have hk_20 := Nat.le_trans hk_12 K14q.1
  have lp21 : Fld Z T14.heap b11 "com/example/gridmatch/gridmatch/ByLastSlice" "lastPlace" "J" (Value.long q1) := (Int64.sub_add_cancel q1 1 : ((q1 - (1 : Int64)) + (1 : Int64)) = q1) ▸ p14_1
  show own_Go p.tables e below _ (T14.setTop (mkF m 34 #[.val (Value.long q1), .second, .val (Value.long q2), .second, .val (Value.ref b_6)] [(Value.ref b11)]))
  obtain ⟨fs, hr, hrun, hended, hRE⟩ := Stand.leaveW (s := s) (vm₁ := T6.vm) X14 hS6 hk_20 (v := some (Value.ref b11)) (fun h => by rw [Bd.returns] at h; cases h)
  refine own_Go.fin (retOut X14 hx Bd.returns rfl (Or.inr (Or.inr (Or.inr (Or.inr ⟨rfl, rfl, rfl⟩)))) (hb hby d1_34) hr) ⟨hrun, hended, _, _, rfl, ?_, own_rew hRE (by decide) (by decide)⟩
  show Q1 Z q1 q2 aB aI aN aG h0 n0 _ T14.heap _
  exact ⟨b11, rfl, N14, K20, z13, p14_0, lp21, p14_2⟩

theorem d13_0 : decode prog_2_method_3_code 0 = .ok (.aload_n 0, 1) := by decide +kernel
theorem d13_1 : decode prog_2_method_3_code 1 = .ok (.getfield 13, 3) := by decide +kernel
theorem d13_4 : decode prog_2_method_3_code 4 = .ok (.aload_n 1, 1) := by decide +kernel
theorem d13_5 : decode prog_2_method_3_code 5 = .ok (.getfield 13, 3) := by decide +kernel
theorem d13_8 : decode prog_2_method_3_code 8 = .ok (.lcmp, 1) := by decide +kernel
theorem d13_9 : decode prog_2_method_3_code 9 = .ok (.ifCond .lt 27, 3) := by decide +kernel
theorem d13_12 : decode prog_2_method_3_code 12 = .ok (.aload_n 0, 1) := by decide +kernel
theorem d13_13 : decode prog_2_method_3_code 13 = .ok (.getfield 13, 3) := by decide +kernel
theorem d13_16 : decode prog_2_method_3_code 16 = .ok (.aload_n 1, 1) := by decide +kernel
theorem d13_17 : decode prog_2_method_3_code 17 = .ok (.getfield 13, 3) := by decide +kernel
theorem d13_20 : decode prog_2_method_3_code 20 = .ok (.lcmp, 1) := by decide +kernel
theorem d13_21 : decode prog_2_method_3_code 21 = .ok (.ifCond .ne 19, 3) := by decide +kernel
theorem d13_24 : decode prog_2_method_3_code 24 = .ok (.aload_n 0, 1) := by decide +kernel
theorem d13_25 : decode prog_2_method_3_code 25 = .ok (.getfield 22, 3) := by decide +kernel
theorem d13_28 : decode prog_2_method_3_code 28 = .ok (.aload_n 1, 1) := by decide +kernel
theorem d13_29 : decode prog_2_method_3_code 29 = .ok (.getfield 22, 3) := by decide +kernel
theorem d13_32 : decode prog_2_method_3_code 32 = .ok (.lcmp, 1) := by decide +kernel
theorem d13_33 : decode prog_2_method_3_code 33 = .ok (.ifCond .ge 7, 3) := by decide +kernel
theorem d13_36 : decode prog_2_method_3_code 36 = .ok (.iconst 1, 1) := by decide +kernel
theorem d13_37 : decode prog_2_method_3_code 37 = .ok (.goto 4, 3) := by decide +kernel
theorem d13_40 : decode prog_2_method_3_code 40 = .ok (.iconst 0, 1) := by decide +kernel
theorem d13_41 : decode prog_2_method_3_code 41 = .ok (.ireturn, 1) := by decide +kernel
theorem own_ef_13 (m : MethodId) (a1 : Addr) (a2 : Addr) : entryFrame m #[(Value.ref a1), (Value.ref a2)] 2 = mkF m 0 #[.val (Value.ref a1), .val (Value.ref a2)] [] := by first | (simp [entryFrame, mkF, argsToLocals, Value.category]; done) | rfl
def Q13 (Z : State) (a1 : Addr) (a2 : Addr) (u1 : Int64) (u2 : Int64) (v1 : Int64) (v2 : Int64) (h0 : Heap) (n0 : Nat) (v : Option Value) (h : Heap) (L : List Loc) : Prop := v = some (Value.int (if (u1 < u2 ∨ (u1 = u2 ∧ v1 < v2)) then (1 : Int32) else (0 : Int32))) ∧ Fr n0 L ∧ h = h0
set_option maxRecDepth 65536 in
set_option maxHeartbeats 40000000 in
theorem rm13 (l : Launch) (Z : State) (a0 : Array Value) (hw : ∀ d ∈ tables_1, d.before a0 Z = true) (ws : List Jvm.Cond) (a1 : Addr) (a2 : Addr) (u1 : Int64) (u2 : Int64) (v1 : Int64) (v2 : Int64) (h0 : Heap) (n0 : Nat) (O0 : Old Z n0 h0) (H0 : Fld Z h0 a1 "com/example/gridmatch/gridmatch/ByLastSlice" "lastPlace" "J" (Value.long u1)) (H1 : Fld Z h0 a2 "com/example/gridmatch/gridmatch/ByLastSlice" "lastPlace" "J" (Value.long u2)) (H2 : Fld Z h0 a1 "com/example/gridmatch/gridmatch/ByLastSlice" "sequence" "J" (Value.long v1)) (H3 : Fld Z h0 a2 "com/example/gridmatch/gridmatch/ByLastSlice" "sequence" "J" (Value.long v2)) :
    MetFree l (⟨"com/example/gridmatch/gridmatch/ByLastSlice", "before", "(Lcom/example/gridmatch/gridmatch/ByLastSlice;)Z"⟩ : MethodName) (head1 (Jvm.Cond.code (⟨"com/example/gridmatch/gridmatch/ByLastSlice", "before", "(Lcom/example/gridmatch/gridmatch/ByLastSlice;)Z"⟩ : MethodName) prog_2_method_3_code 2 (some .boolean) :: ws) ({ frames := 0, cells := 0, slots := 0, locals := 0 } : Room)) (fun a U => a = #[(Value.ref a1), (Value.ref a2)] ∧ Z.Warmed39 U.vm ∧ U.heap = h0) (fun _ _ _ _ _ => True) (fun _ U o U' => ∃ v L, o = .returned v ∧ Q13 Z a1 a2 u1 u2 v1 v2 h0 n0 v U'.heap L ∧ FrameEnd U o U' L ({ frames := 0, cells := 0, slots := 0, locals := 0 } : Room).cells ({ frames := 0, cells := 0, slots := 0, locals := 0 } : Room).slots) := by
  refine MetFree.of_bodySF (plainFor_of_name own_pn_com_example_gridmatch_gridmatch_ByLastSlice) hisR ?_
  intro p e s m args below meth c s₁ Bd hml0 hP hK
  obtain ⟨rfl, hZ, hh⟩ := hP
  have hx := Bd.exec
  have hby := Bd.bytes
  have hml : c.maxLocals = 2 := hml0
  have hown : s.vm.findClass "com/example/gridmatch/gridmatch/ByLastSlice" = some m.cls := findClass_of_methodNamed Bd.named
  have hnm := (name_of_methodNamed Bd.named Bd.method).1
  have X0 : Stand p l e ({ frames := 0, cells := 0, slots := 0, locals := 0 } : Room) s m #[(Value.ref a1), (Value.ref a2)] below meth c s₁ [] 0 0 := Stand.of_body Bd
  have e0 : s₁.heap = h0 := by rw [← hh, Bd.state]; rfl
  have N0 := Fr.nil n0
  have K0 : Keep h0 h0 [] := Keep.refl h0 []
  show own_Go p.tables e below _ (s₁.setTop (entryFrame m #[(Value.ref a1), (Value.ref a2)] 2))
  refine own_Go.by (fun tq kq => castTop (own_ef_13 m a1 a2) kq) ?_
  show own_Go p.tables e below _ (s₁.setTop (mkF m 0 #[.val (Value.ref a1), .val (Value.ref a2)] []))
  refine own_Go.by (fun tq kq => XS.aloadN X0.here hx rfl (hb hby d13_0) rfl rfl kq) ?_
  show own_Go p.tables e below _ (s₁.setTop (mkF m 1 #[.val (Value.ref a1), .val (Value.ref a2)] [(Value.ref a1)]))
  obtain ⟨T1, X1, e1, st1⟩ := getF X0 hx hZ hown (host := "") (Or.inl (hw _ (List.mem_of_getElem? (i := 88) rfl))) Via.refl e0 H0 (g := (mkF m 1 #[.val (Value.ref a1), .val (Value.ref a2)] [(Value.ref a1)])) rfl rfl (hb hby d13_1)
  refine own_Go.by st1 ?_
  show own_Go p.tables e below _ (T1.setTop (mkF m 4 #[.val (Value.ref a1), .val (Value.ref a2)] [(Value.long u1)]))
  refine own_Go.by (fun tq kq => XS.aloadN X1.here hx rfl (hb hby d13_4) rfl rfl kq) ?_
  show own_Go p.tables e below _ (T1.setTop (mkF m 5 #[.val (Value.ref a1), .val (Value.ref a2)] [(Value.ref a2), (Value.long u1)]))
  obtain ⟨T2, X2, e2, st2⟩ := getF X1 hx hZ hown (host := "") (Or.inl (hw _ (List.mem_of_getElem? (i := 88) rfl))) Via.refl e1 H1 (g := (mkF m 5 #[.val (Value.ref a1), .val (Value.ref a2)] [(Value.ref a2), (Value.long u1)])) rfl rfl (hb hby d13_5)
  refine own_Go.by st2 ?_
  show own_Go p.tables e below _ (T2.setTop (mkF m 8 #[.val (Value.ref a1), .val (Value.ref a2)] [(Value.long u2), (Value.long u1)]))
  refine own_Go.by (fun tq kq => XS.lcmp X2.here hx rfl (hb hby d13_8) rfl kq) ?_
  show own_Go p.tables e below _ (T2.setTop (mkF m 9 #[.val (Value.ref a1), .val (Value.ref a2)] [(Value.int (lcmpW u1 u2))]))
  by_cases hc9_3 : u1 < u2
  ·
    refine own_Go.by (fun tq kq => XS.ifYes X2.here hx rfl (pc0 := 9) (pc' := 36) rfl (hb hby d13_9) rfl ((if0 _ _).trans (tlt ((lw_lt u1 u2).mpr hc9_3)).1) (by decide) (by decide) kq) ?_
    show own_Go p.tables e below _ (T2.setTop (mkF m 36 #[.val (Value.ref a1), .val (Value.ref a2)] []))
    refine own_Go.by (fun tq kq => XS.iconst X2.here hx rfl (hb hby d13_36) kq) ?_
    show own_Go p.tables e below _ (T2.setTop (mkF m 37 #[.val (Value.ref a1), .val (Value.ref a2)] [(Value.int (1 : Int32))]))
    refine own_Go.by (fun tq kq => XS.goto X2.here hx rfl (pc0 := 37) (pc' := 41) rfl (hb hby d13_37) (by decide) (by decide) kq) ?_
    show own_Go p.tables e below _ (T2.setTop (mkF m 41 #[.val (Value.ref a1), .val (Value.ref a2)] [(Value.int (1 : Int32))]))
    obtain ⟨fs, hr, hrun, hended, hW, hsame⟩ := X2.leave (v := some (Value.int (nar .boolean (1 : Int32)))) (fun h => by rw [Bd.returns] at h; cases h)
    refine own_Go.fin (retN X2 hx (t := .boolean) Bd.returns (by simp) (hb hby d13_41) hr) ⟨hrun, hended, _, _, rfl, ?_, ⟨_, rfl⟩, hW, hsame.mono (by decide) (by decide)⟩
    show Q13 Z a1 a2 u1 u2 v1 v2 h0 n0 _ T2.heap _
    rw [e2]
    exact ⟨(by rw [(if_pos (Or.inl hc9_3))]; rfl), N0, rfl⟩
  ·
    refine own_Go.by (fun tq kq => XS.ifNo X2.here hx rfl (hb hby d13_9) rfl ((if0 _ _).trans (flt (mt (lw_lt u1 u2).mp hc9_3)).1) kq) ?_
    show own_Go p.tables e below _ (T2.setTop (mkF m 12 #[.val (Value.ref a1), .val (Value.ref a2)] []))
    refine own_Go.by (fun tq kq => XS.aloadN X2.here hx rfl (hb hby d13_12) rfl rfl kq) ?_
    show own_Go p.tables e below _ (T2.setTop (mkF m 13 #[.val (Value.ref a1), .val (Value.ref a2)] [(Value.ref a1)]))
    obtain ⟨T4, X4, e4, st4⟩ := getF X2 hx hZ hown (host := "") (Or.inl (hw _ (List.mem_of_getElem? (i := 88) rfl))) Via.refl e2 H0 (g := (mkF m 13 #[.val (Value.ref a1), .val (Value.ref a2)] [(Value.ref a1)])) rfl rfl (hb hby d13_13)
    refine own_Go.by st4 ?_
    show own_Go p.tables e below _ (T4.setTop (mkF m 16 #[.val (Value.ref a1), .val (Value.ref a2)] [(Value.long u1)]))
    refine own_Go.by (fun tq kq => XS.aloadN X4.here hx rfl (hb hby d13_16) rfl rfl kq) ?_
    show own_Go p.tables e below _ (T4.setTop (mkF m 17 #[.val (Value.ref a1), .val (Value.ref a2)] [(Value.ref a2), (Value.long u1)]))
    obtain ⟨T5, X5, e5, st5⟩ := getF X4 hx hZ hown (host := "") (Or.inl (hw _ (List.mem_of_getElem? (i := 88) rfl))) Via.refl e4 H1 (g := (mkF m 17 #[.val (Value.ref a1), .val (Value.ref a2)] [(Value.ref a2), (Value.long u1)])) rfl rfl (hb hby d13_17)
    refine own_Go.by st5 ?_
    show own_Go p.tables e below _ (T5.setTop (mkF m 20 #[.val (Value.ref a1), .val (Value.ref a2)] [(Value.long u2), (Value.long u1)]))
    refine own_Go.by (fun tq kq => XS.lcmp X5.here hx rfl (hb hby d13_20) rfl kq) ?_
    show own_Go p.tables e below _ (T5.setTop (mkF m 21 #[.val (Value.ref a1), .val (Value.ref a2)] [(Value.int (lcmpW u1 u2))]))
    by_cases hc21_6 : u1 = u2
    ·
      refine own_Go.by (fun tq kq => XS.ifNo X5.here hx rfl (hb hby d13_21) rfl ((if0 _ _).trans (teq ((lw_eq u1 u2).mpr hc21_6)).2) kq) ?_
      show own_Go p.tables e below _ (T5.setTop (mkF m 24 #[.val (Value.ref a1), .val (Value.ref a2)] []))
      refine own_Go.by (fun tq kq => XS.aloadN X5.here hx rfl (hb hby d13_24) rfl rfl kq) ?_
      show own_Go p.tables e below _ (T5.setTop (mkF m 25 #[.val (Value.ref a1), .val (Value.ref a2)] [(Value.ref a1)]))
      obtain ⟨T7, X7, e7, st7⟩ := getF X5 hx hZ hown (host := "") (Or.inl (hw _ (List.mem_of_getElem? (i := 91) rfl))) Via.refl e5 H2 (g := (mkF m 25 #[.val (Value.ref a1), .val (Value.ref a2)] [(Value.ref a1)])) rfl rfl (hb hby d13_25)
      refine own_Go.by st7 ?_
      show own_Go p.tables e below _ (T7.setTop (mkF m 28 #[.val (Value.ref a1), .val (Value.ref a2)] [(Value.long v1)]))
      refine own_Go.by (fun tq kq => XS.aloadN X7.here hx rfl (hb hby d13_28) rfl rfl kq) ?_
      show own_Go p.tables e below _ (T7.setTop (mkF m 29 #[.val (Value.ref a1), .val (Value.ref a2)] [(Value.ref a2), (Value.long v1)]))
      obtain ⟨T8, X8, e8, st8⟩ := getF X7 hx hZ hown (host := "") (Or.inl (hw _ (List.mem_of_getElem? (i := 91) rfl))) Via.refl e7 H3 (g := (mkF m 29 #[.val (Value.ref a1), .val (Value.ref a2)] [(Value.ref a2), (Value.long v1)])) rfl rfl (hb hby d13_29)
      refine own_Go.by st8 ?_
      show own_Go p.tables e below _ (T8.setTop (mkF m 32 #[.val (Value.ref a1), .val (Value.ref a2)] [(Value.long v2), (Value.long v1)]))
      refine own_Go.by (fun tq kq => XS.lcmp X8.here hx rfl (hb hby d13_32) rfl kq) ?_
      show own_Go p.tables e below _ (T8.setTop (mkF m 33 #[.val (Value.ref a1), .val (Value.ref a2)] [(Value.int (lcmpW v1 v2))]))
      by_cases hc33_9 : v1 < v2
      ·
        refine own_Go.by (fun tq kq => XS.ifNo X8.here hx rfl (hb hby d13_33) rfl ((if0 _ _).trans (tlt ((lw_lt v1 v2).mpr hc33_9)).2.1) kq) ?_
        show own_Go p.tables e below _ (T8.setTop (mkF m 36 #[.val (Value.ref a1), .val (Value.ref a2)] []))
        refine own_Go.by (fun tq kq => XS.iconst X8.here hx rfl (hb hby d13_36) kq) ?_
        show own_Go p.tables e below _ (T8.setTop (mkF m 37 #[.val (Value.ref a1), .val (Value.ref a2)] [(Value.int (1 : Int32))]))
        refine own_Go.by (fun tq kq => XS.goto X8.here hx rfl (pc0 := 37) (pc' := 41) rfl (hb hby d13_37) (by decide) (by decide) kq) ?_
        show own_Go p.tables e below _ (T8.setTop (mkF m 41 #[.val (Value.ref a1), .val (Value.ref a2)] [(Value.int (1 : Int32))]))
        obtain ⟨fs, hr, hrun, hended, hW, hsame⟩ := X8.leave (v := some (Value.int (nar .boolean (1 : Int32)))) (fun h => by rw [Bd.returns] at h; cases h)
        refine own_Go.fin (retN X8 hx (t := .boolean) Bd.returns (by simp) (hb hby d13_41) hr) ⟨hrun, hended, _, _, rfl, ?_, ⟨_, rfl⟩, hW, hsame.mono (by decide) (by decide)⟩
        show Q13 Z a1 a2 u1 u2 v1 v2 h0 n0 _ T8.heap _
        rw [e8]
        exact ⟨(by rw [(if_pos (Or.inr ⟨hc21_6, hc33_9⟩))]; rfl), N0, rfl⟩
      ·
        refine own_Go.by (fun tq kq => XS.ifYes X8.here hx rfl (pc0 := 33) (pc' := 40) rfl (hb hby d13_33) rfl ((if0 _ _).trans (flt (mt (lw_lt v1 v2).mp hc33_9)).2.1) (by decide) (by decide) kq) ?_
        show own_Go p.tables e below _ (T8.setTop (mkF m 40 #[.val (Value.ref a1), .val (Value.ref a2)] []))
        refine own_Go.by (fun tq kq => XS.iconst X8.here hx rfl (hb hby d13_40) kq) ?_
        show own_Go p.tables e below _ (T8.setTop (mkF m 41 #[.val (Value.ref a1), .val (Value.ref a2)] [(Value.int (0 : Int32))]))
        obtain ⟨fs, hr, hrun, hended, hW, hsame⟩ := X8.leave (v := some (Value.int (nar .boolean (0 : Int32)))) (fun h => by rw [Bd.returns] at h; cases h)
        refine own_Go.fin (retN X8 hx (t := .boolean) Bd.returns (by simp) (hb hby d13_41) hr) ⟨hrun, hended, _, _, rfl, ?_, ⟨_, rfl⟩, hW, hsame.mono (by decide) (by decide)⟩
        show Q13 Z a1 a2 u1 u2 v1 v2 h0 n0 _ T8.heap _
        rw [e8]
        exact ⟨(by rw [(if_neg (fun q => q.elim hc9_3 (fun r => hc33_9 r.2)))]; rfl), N0, rfl⟩
    ·
      refine own_Go.by (fun tq kq => XS.ifYes X5.here hx rfl (pc0 := 21) (pc' := 40) rfl (hb hby d13_21) rfl ((if0 _ _).trans (feq (mt (lw_eq u1 u2).mp hc21_6)).2) (by decide) (by decide) kq) ?_
      show own_Go p.tables e below _ (T5.setTop (mkF m 40 #[.val (Value.ref a1), .val (Value.ref a2)] []))
      refine own_Go.by (fun tq kq => XS.iconst X5.here hx rfl (hb hby d13_40) kq) ?_
      show own_Go p.tables e below _ (T5.setTop (mkF m 41 #[.val (Value.ref a1), .val (Value.ref a2)] [(Value.int (0 : Int32))]))
      obtain ⟨fs, hr, hrun, hended, hW, hsame⟩ := X5.leave (v := some (Value.int (nar .boolean (0 : Int32)))) (fun h => by rw [Bd.returns] at h; cases h)
      refine own_Go.fin (retN X5 hx (t := .boolean) Bd.returns (by simp) (hb hby d13_41) hr) ⟨hrun, hended, _, _, rfl, ?_, ⟨_, rfl⟩, hW, hsame.mono (by decide) (by decide)⟩
      show Q13 Z a1 a2 u1 u2 v1 v2 h0 n0 _ T5.heap _
      rw [e5]
      exact ⟨(by rw [(if_neg (fun q => q.elim hc9_3 (fun r => hc21_6 r.1)))]; rfl), N0, rfl⟩

theorem own_pd7 : parseMethodDescriptor "(JJ)Lcom/example/gridmatch/gridmatch/ByLastSlice;" = some ⟨[.long, .long], some (.object "com/example/gridmatch/gridmatch/ByLastSlice")⟩ := by decide +kernel
theorem own_pd8 : parseMethodDescriptor "(Lcom/example/gridmatch/gridmatch/ByLastSlice;)Z" = some ⟨[(.object "com/example/gridmatch/gridmatch/ByLastSlice")], some .boolean⟩ := by decide +kernel
theorem own_ef_0 (m : MethodId) (q1 : Int64) (q2 : Int64) (q3 : Int64) (q4 : Int64) (p5 : Int32) : entryFrame m #[(Value.long q1), (Value.long q2), (Value.long q3), (Value.long q4), (Value.int p5)] maxLocals = mkF m 0 #[.val (Value.long q1), .second, .val (Value.long q2), .second, .val (Value.long q3), .second, .val (Value.long q4), .second, .val (Value.int p5), .unset, .unset, .unset, .unset, .unset, .unset, .unset, .unset] [] := by first | (simp [entryFrame, mkF, argsToLocals, Value.category, maxLocals]; done) | rfl
def Q0 (Z : State) (q1 : Int64) (q2 : Int64) (q3 : Int64) (q4 : Int64) (p5 : Int32) (aB : Addr) (aI : Addr) (aN : Addr) (aG : Addr) (h0 : Heap) (n0 : Nat) (v : Option Value) (h : Heap) (L : List Loc) : Prop := v = some (Value.int (1 : Int32)) ∧ Fr n0 L ∧ Keep h0 h []
set_option maxRecDepth 65536 in
set_option maxHeartbeats 40000000 in
theorem rm0 (l : Launch) (Z : State) (a0 : Array Value) (hw : ∀ d ∈ tables_1, d.before a0 Z = true) (ws : List Jvm.Cond) (q1 : Int64) (q2 : Int64) (q3 : Int64) (q4 : Int64) (p5 : Int32) (aB : Addr) (aI : Addr) (aN : Addr) (aG : Addr) (h0 : Heap) (n0 : Nat) (O0 : Old Z n0 h0) (H0 : Sta Z Z.heap "com/example/gridmatch/gridmatch/Side" "BUY" "Lcom/example/gridmatch/gridmatch/Side;" (Value.ref aB)) (H1 : Sta Z Z.heap "com/example/gridmatch/gridmatch/OrderType" "ICB" "Lcom/example/gridmatch/gridmatch/OrderType;" (Value.ref aI)) (H2 : Sta Z Z.heap "com/example/gridmatch/gridmatch/Restriction" "NON" "Lcom/example/gridmatch/gridmatch/Restriction;" (Value.ref aN)) (H3 : Sta Z Z.heap "com/example/gridmatch/gridmatch/Validity" "GFS" "Lcom/example/gridmatch/gridmatch/Validity;" (Value.ref aG)) :
    MetFree l x (head1 (Jvm.Cond.code x code maxLocals ret :: ws) room_1) (fun a U => a = #[(Value.long q1), (Value.long q2), (Value.long q3), (Value.long q4), (Value.int p5)] ∧ Z.Warmed39 U.vm ∧ U.heap = h0) (fun _ _ _ _ _ => True) (fun _ U o U' => ∃ v L, o = .returned v ∧ Q0 Z q1 q2 q3 q4 p5 aB aI aN aG h0 n0 v U'.heap L ∧ ReturnedEndW U o U' L room_1.cells room_1.slots) := by
  refine MetFree.of_bodySF (plainFor_of_name own_pn_com_example_gridmatch_gridmatch_ByLastSliceBeforePinLaw) hisR ?_
  intro p e s m args below meth c s₁ Bd hml0 hP hK
  obtain ⟨rfl, hZ, hh⟩ := hP
  have hx := Bd.exec
  have hby := Bd.bytes
  have hml : c.maxLocals = 17 := hml0
  have hown : s.vm.findClass "com/example/gridmatch/gridmatch/ByLastSliceBeforePinLaw" = some m.cls := findClass_of_methodNamed Bd.named
  have hnm := (name_of_methodNamed Bd.named Bd.method).1
  have X0 : Stand p l e room_1 s m #[(Value.long q1), (Value.long q2), (Value.long q3), (Value.long q4), (Value.int p5)] below meth c s₁ [] 0 0 := Stand.of_body Bd
  have e0 : s₁.heap = h0 := by rw [← hh, Bd.state]; rfl
  have hS0 : s.Since s.vm 0 := (State.WarmedH.refl s).since 0
  have N0 := Fr.nil n0
  have K0 : Keep h0 h0 [] := Keep.refl h0 []
  show own_Go p.tables e below _ (s₁.setTop (entryFrame m #[(Value.long q1), (Value.long q2), (Value.long q3), (Value.long q4), (Value.int p5)] maxLocals))
  refine own_Go.by (fun tq kq => castTop (own_ef_0 m q1 q2 q3 q4 p5) kq) ?_
  refine own_merge (α := Int64) (P := fun pp => True) (F := fun pp => s₁.setTop (mkF m 15 #[.val (Value.long q1), .second, .val (Value.long q2), .second, .val (Value.long q3), .second, .val (Value.long q4), .second, .val (Value.int p5), .val (Value.long pp), .second, .unset, .unset, .unset, .unset, .unset, .unset] [])) ?_ ?_
  ·
    intro pp h_pp
    refine own_merge (α := Int64) (P := fun qq => True) (F := fun qq => s₁.setTop (mkF m 30 #[.val (Value.long q1), .second, .val (Value.long q2), .second, .val (Value.long q3), .second, .val (Value.long q4), .second, .val (Value.int p5), .val (Value.long pp), .second, .val (Value.long qq), .second, .unset, .unset, .unset, .unset] [])) ?_ ?_
    ·
      intro qq h_qq
      show own_Go p.tables e below _ (s₁.setTop (mkF m 30 #[.val (Value.long q1), .second, .val (Value.long q2), .second, .val (Value.long q3), .second, .val (Value.long q4), .second, .val (Value.int p5), .val (Value.long pp), .second, .val (Value.long qq), .second, .unset, .unset, .unset, .unset] []))
      refine own_Go.by (fun tq kq => XS.lloadN X0.here hx rfl (hb hby at_30) rfl kq) ?_
      show own_Go p.tables e below _ (s₁.setTop (mkF m 31 #[.val (Value.long q1), .second, .val (Value.long q2), .second, .val (Value.long q3), .second, .val (Value.long q4), .second, .val (Value.int p5), .val (Value.long pp), .second, .val (Value.long qq), .second, .unset, .unset, .unset, .unset] [(Value.long q1)]))
      refine own_Go.by (fun tq kq => XS.lloadN X0.here hx rfl (hb hby at_31) rfl kq) ?_
      show own_Go p.tables e below _ (s₁.setTop (mkF m 32 #[.val (Value.long q1), .second, .val (Value.long q2), .second, .val (Value.long q3), .second, .val (Value.long q4), .second, .val (Value.int p5), .val (Value.long pp), .second, .val (Value.long qq), .second, .unset, .unset, .unset, .unset] [(Value.long q2), (Value.long q1)]))
      obtain ⟨_, _, ⟨T1, L1, k1, n1⟩, -, X1, hs1, hg1, ⟨Lc1, hQ1, l1, y1, z1⟩, st1⟩ := Jvm.RoadKit.callSS X0 hx (y := (⟨"com/example/gridmatch/gridmatch/ByLastSliceBeforePinLaw", "node", "(JJ)Lcom/example/gridmatch/gridmatch/ByLastSlice;"⟩ : MethodName)) hown (mvT hZ (hw _ (List.mem_of_getElem? (i := 0) rfl))) (mvT hZ (hw _ (List.mem_of_getElem? (i := 1) rfl))) (mvT hZ (hw _ (List.mem_of_getElem? (i := 2) rfl))) (mvT hZ (hw _ (List.mem_of_getElem? (i := 3) rfl))) (by decide) (backOfS (W := 0) (rm1 l Z a0 hw [] q1 q2 aB aI aN aG h0 n0 O0 H0 H1 H2 H3) hZ (hw _ (List.mem_of_getElem? (i := 3) rfl)) (hw _ (List.mem_of_getElem? (i := 2) rfl)) (by decide) (by decide)) (g := (mkF m 32 #[.val (Value.long q1), .second, .val (Value.long q2), .second, .val (Value.long q3), .second, .val (Value.long q4), .second, .val (Value.int p5), .val (Value.long pp), .second, .val (Value.long qq), .second, .unset, .unset, .unset, .unset] [(Value.long q2), (Value.long q1)])) rfl (by rw [hml]; rfl) (argsL := [(Value.long q1), (Value.long q2)]) (rest := []) (lenOf own_pd7 rfl) rfl (by show 2 * 0 + _ ≤ _; exact Nat.le_of_eq rfl) (hb hby at_32) (fun _ _ => ⟨rfl, e0, (by decide : 0 + 8 ≤ _), (by decide : 0 + 52 ≤ _)⟩)
      dsimp only [Pt.U, Pt.locs, Pt.cells, Pt.slots] at X1 l1 y1 z1 st1 hQ1 hs1 hg1
      subst l1 y1 z1
      obtain ⟨X1, hS1, hZ1, hown1⟩ := rebS (s := s) (vm0 := s.vm) hS0 (Nat.zero_le _) X1 hs1 hg1 hZ hown
      refine own_Go.by (fun tq kq => st1.trans kq) ?_
      obtain ⟨b_1, rfl, N1q, K1q, p1_0, p1_1, p1_2, p1_3⟩ := hQ1
      have N1 := Fr.app N0 N1q
      have O2 := O0.keep K1q all0
      have K2 := K0.trans K1q all0
      have g3 : n0 ≤ b_1 := Nat.le_trans (own_old_le O0) p1_0
      have z3 : h0.size ≤ b_1 := Nat.le_trans K0.1 p1_0
      show own_Go p.tables e below _ (T1.setTop (mkF m 35 #[.val (Value.long q1), .second, .val (Value.long q2), .second, .val (Value.long q3), .second, .val (Value.long q4), .second, .val (Value.int p5), .val (Value.long pp), .second, .val (Value.long qq), .second, .unset, .unset, .unset, .unset] [(Value.ref b_1)]))
      refine own_Go.by (fun tq kq => XS.astore X1.here hx rfl (hb hby at_35) rfl rfl (l' := #[.val (Value.long q1), .second, .val (Value.long q2), .second, .val (Value.long q3), .second, .val (Value.long q4), .second, .val (Value.int p5), .val (Value.long pp), .second, .val (Value.long qq), .second, .val (Value.ref b_1), .unset, .unset, .unset]) rfl kq) ?_
      show own_Go p.tables e below _ (T1.setTop (mkF m 37 #[.val (Value.long q1), .second, .val (Value.long q2), .second, .val (Value.long q3), .second, .val (Value.long q4), .second, .val (Value.int p5), .val (Value.long pp), .second, .val (Value.long qq), .second, .val (Value.ref b_1), .unset, .unset, .unset] []))
      refine own_Go.by (fun tq kq => XS.lload X1.here hx rfl (hb hby at_37) rfl kq) ?_
      show own_Go p.tables e below _ (T1.setTop (mkF m 39 #[.val (Value.long q1), .second, .val (Value.long q2), .second, .val (Value.long q3), .second, .val (Value.long q4), .second, .val (Value.int p5), .val (Value.long pp), .second, .val (Value.long qq), .second, .val (Value.ref b_1), .unset, .unset, .unset] [(Value.long pp)]))
      refine own_Go.by (fun tq kq => XS.lload X1.here hx rfl (hb hby at_39) rfl kq) ?_
      show own_Go p.tables e below _ (T1.setTop (mkF m 41 #[.val (Value.long q1), .second, .val (Value.long q2), .second, .val (Value.long q3), .second, .val (Value.long q4), .second, .val (Value.int p5), .val (Value.long pp), .second, .val (Value.long qq), .second, .val (Value.ref b_1), .unset, .unset, .unset] [(Value.long qq), (Value.long pp)]))
      obtain ⟨_, _, ⟨T4, L4, k4, n4⟩, -, X4, hs4, hg4, ⟨Lc4, hQ4, l4, y4, z4⟩, st4⟩ := Jvm.RoadKit.callSS X1 hx (y := (⟨"com/example/gridmatch/gridmatch/ByLastSliceBeforePinLaw", "node", "(JJ)Lcom/example/gridmatch/gridmatch/ByLastSlice;"⟩ : MethodName)) hown1 (mvT hZ1 (hw _ (List.mem_of_getElem? (i := 0) rfl))) (mvT hZ1 (hw _ (List.mem_of_getElem? (i := 1) rfl))) (mvT hZ1 (hw _ (List.mem_of_getElem? (i := 2) rfl))) (mvT hZ1 (hw _ (List.mem_of_getElem? (i := 3) rfl))) (by decide) (backOfS (W := 0) (rm1 l Z a0 hw [] pp qq aB aI aN aG T1.heap n0 O2 H0 H1 H2 H3) hZ1 (hw _ (List.mem_of_getElem? (i := 3) rfl)) (hw _ (List.mem_of_getElem? (i := 2) rfl)) (by decide) (by decide)) (g := (mkF m 41 #[.val (Value.long q1), .second, .val (Value.long q2), .second, .val (Value.long q3), .second, .val (Value.long q4), .second, .val (Value.int p5), .val (Value.long pp), .second, .val (Value.long qq), .second, .val (Value.ref b_1), .unset, .unset, .unset] [(Value.long qq), (Value.long pp)])) rfl (by rw [hml]; rfl) (argsL := [(Value.long pp), (Value.long qq)]) (rest := []) (lenOf own_pd7 rfl) rfl (by show 2 * 0 + _ ≤ _; exact Nat.le_of_eq rfl) (hb hby at_41) (fun _ _ => ⟨rfl, rfl, (by decide : 8 + 8 ≤ _), (by decide : 52 + 52 ≤ _)⟩)
      dsimp only [Pt.U, Pt.locs, Pt.cells, Pt.slots] at X4 l4 y4 z4 st4 hQ4 hs4 hg4
      subst l4 y4 z4
      obtain ⟨X4, hS4, hZ4, hown4⟩ := rebS (s := s) (vm0 := T1.vm) hS1 (Nat.le_refl _) X4 hs4 hg4 hZ1 hown1
      refine own_Go.by (fun tq kq => st4.trans kq) ?_
      obtain ⟨b_4, rfl, N4q, K4q, p4_0, p4_1, p4_2, p4_3⟩ := hQ4
      have N4 := Fr.app N1 N4q
      have O5 := O2.keep K4q all0
      have K5 := K2.trans K4q all0
      have g6 : n0 ≤ b_4 := Nat.le_trans (own_old_le O2) p4_0
      have z6 : h0.size ≤ b_4 := Nat.le_trans K2.1 p4_0
      show own_Go p.tables e below _ (T4.setTop (mkF m 44 #[.val (Value.long q1), .second, .val (Value.long q2), .second, .val (Value.long q3), .second, .val (Value.long q4), .second, .val (Value.int p5), .val (Value.long pp), .second, .val (Value.long qq), .second, .val (Value.ref b_1), .unset, .unset, .unset] [(Value.ref b_4)]))
      refine own_Go.by (fun tq kq => XS.astore X4.here hx rfl (hb hby at_44) rfl rfl (l' := #[.val (Value.long q1), .second, .val (Value.long q2), .second, .val (Value.long q3), .second, .val (Value.long q4), .second, .val (Value.int p5), .val (Value.long pp), .second, .val (Value.long qq), .second, .val (Value.ref b_1), .val (Value.ref b_4), .unset, .unset]) rfl kq) ?_
      refine own_merge (α := Int32) (P := fun xy => xy = (if (q1 < pp ∨ (q1 = pp ∧ q2 < qq)) then (1 : Int32) else (0 : Int32))) (F := fun xy => T4.setTop (mkF m 74 #[.val (Value.long q1), .second, .val (Value.long q2), .second, .val (Value.long q3), .second, .val (Value.long q4), .second, .val (Value.int p5), .val (Value.long pp), .second, .val (Value.long qq), .second, .val (Value.ref b_1), .val (Value.ref b_4), .val (Value.int xy), .unset] [])) ?_ ?_
      ·
        intro xy h_xy
        refine own_merge (α := Int32) (P := fun yx => yx = (if (pp < q1 ∨ (pp = q1 ∧ qq < q2)) then (1 : Int32) else (0 : Int32))) (F := fun yx => T4.setTop (mkF m 102 #[.val (Value.long q1), .second, .val (Value.long q2), .second, .val (Value.long q3), .second, .val (Value.long q4), .second, .val (Value.int p5), .val (Value.long pp), .second, .val (Value.long qq), .second, .val (Value.ref b_1), .val (Value.ref b_4), .val (Value.int xy), .val (Value.int yx)] [])) ?_ ?_
        ·
          intro yx h_yx
          show own_Go p.tables e below _ (T4.setTop (mkF m 102 #[.val (Value.long q1), .second, .val (Value.long q2), .second, .val (Value.long q3), .second, .val (Value.long q4), .second, .val (Value.int p5), .val (Value.long pp), .second, .val (Value.long qq), .second, .val (Value.ref b_1), .val (Value.ref b_4), .val (Value.int xy), .val (Value.int yx)] []))
          refine own_Go.by (fun tq kq => XS.aload X4.here hx rfl (hb hby at_102) rfl rfl kq) ?_
          show own_Go p.tables e below _ (T4.setTop (mkF m 104 #[.val (Value.long q1), .second, .val (Value.long q2), .second, .val (Value.long q3), .second, .val (Value.long q4), .second, .val (Value.int p5), .val (Value.long pp), .second, .val (Value.long qq), .second, .val (Value.ref b_1), .val (Value.ref b_4), .val (Value.int xy), .val (Value.int yx)] [(Value.ref b_1)]))
          refine own_Go.by (fun tq kq => XS.aload X4.here hx rfl (hb hby at_104) rfl rfl kq) ?_
          show own_Go p.tables e below _ (T4.setTop (mkF m 106 #[.val (Value.long q1), .second, .val (Value.long q2), .second, .val (Value.long q3), .second, .val (Value.long q4), .second, .val (Value.int p5), .val (Value.long pp), .second, .val (Value.long qq), .second, .val (Value.ref b_1), .val (Value.ref b_4), .val (Value.int xy), .val (Value.int yx)] [(Value.ref b_4), (Value.ref b_1)]))
          have c8 := (p1_2.keep K4q nin0)
          have c9 := (p1_3.keep K4q nin0)
          have c10 := (p1_1.keep K4q)
          obtain ⟨cq7, kq7, q7a, q7b, q7c⟩ := isOf hZ4 rfl c10
          obtain ⟨_, _, ⟨T7, L7, k7, n7⟩, -, X7, ⟨Lc7, hQ7, l7, y7, z7⟩, st7⟩ := X4.virtualBack hx (y := (⟨"com/example/gridmatch/gridmatch/ByLastSlice", "before", "(Lcom/example/gridmatch/gridmatch/ByLastSlice;)Z"⟩ : MethodName)) (z := (⟨"com/example/gridmatch/gridmatch/ByLastSlice", "before", "(Lcom/example/gridmatch/gridmatch/ByLastSlice;)Z"⟩ : MethodName)) hown4 (mvT hZ4 (hw _ (List.mem_of_getElem? (i := 118) rfl))) (mvT hZ4 (hw _ (List.mem_of_getElem? (i := 119) rfl))) (notFace_of_selects (args := #[]) (mvT hZ4 (hw _ (List.mem_of_getElem? (i := 121) rfl)))) (mvT hZ4 (hw _ (List.mem_of_getElem? (i := 121) rfl))) (mvT hZ4 (hw _ (List.mem_of_getElem? (i := 120) rfl))) (by decide) (backOf (W := 0) (rm13 l Z a0 hw [] b_1 b_4 q1 pp q2 qq T4.heap n0 O5 c8 p4_2 c9 p4_3) hZ4 (hw _ (List.mem_of_getElem? (i := 122) rfl)) (hw _ (List.mem_of_getElem? (i := 66) rfl)) (by decide) (by decide)) q7a q7c (g := (mkF m 106 #[.val (Value.long q1), .second, .val (Value.long q2), .second, .val (Value.long q3), .second, .val (Value.long q4), .second, .val (Value.int p5), .val (Value.long pp), .second, .val (Value.long qq), .second, .val (Value.ref b_1), .val (Value.ref b_4), .val (Value.int xy), .val (Value.int yx)] [(Value.ref b_4), (Value.ref b_1)])) rfl (by rw [hml]; rfl) (Steps.refl _) (argsL := [(Value.ref b_4)]) (rest := []) (lenOf own_pd8 rfl) rfl (by show 2 * 0 + _ ≤ _; exact Nat.le_of_eq rfl) (hb hby at_106) (fun _ _ => ⟨rfl, rfl, (by decide : 16 + 0 ≤ _), (by decide : 104 + 0 ≤ _)⟩)
          dsimp only [Pt.U, Pt.locs, Pt.cells, Pt.slots] at X7 l7 y7 z7 st7 hQ7
          subst l7 y7 z7
          refine own_Go.by (fun tq kq => st7.trans kq) ?_
          obtain ⟨rfl, N7q, e7⟩ := hQ7
          have N7 := Fr.app N4 N7q
          show own_Go p.tables e below _ (T7.setTop (mkF m 109 #[.val (Value.long q1), .second, .val (Value.long q2), .second, .val (Value.long q3), .second, .val (Value.long q4), .second, .val (Value.int p5), .val (Value.long pp), .second, .val (Value.long qq), .second, .val (Value.ref b_1), .val (Value.ref b_4), .val (Value.int xy), .val (Value.int yx)] [(Value.int (if (q1 < pp ∨ (q1 = pp ∧ q2 < qq)) then (1 : Int32) else (0 : Int32)))]))
          refine own_Go.by (fun tq kq => XS.iload X7.here hx rfl (hb hby at_109) rfl kq) ?_
          show own_Go p.tables e below _ (T7.setTop (mkF m 111 #[.val (Value.long q1), .second, .val (Value.long q2), .second, .val (Value.long q3), .second, .val (Value.long q4), .second, .val (Value.int p5), .val (Value.long pp), .second, .val (Value.long qq), .second, .val (Value.ref b_1), .val (Value.ref b_4), .val (Value.int xy), .val (Value.int yx)] [(Value.int xy), (Value.int (if (q1 < pp ∨ (q1 = pp ∧ q2 < qq)) then (1 : Int32) else (0 : Int32)))]))
          refine own_Go.by (fun tq kq => XS.icmpNo X7.here hx rfl (hb hby at_111) rfl (teq h_xy.symm).2 kq) ?_
          show own_Go p.tables e below _ (T7.setTop (mkF m 114 #[.val (Value.long q1), .second, .val (Value.long q2), .second, .val (Value.long q3), .second, .val (Value.long q4), .second, .val (Value.int p5), .val (Value.long pp), .second, .val (Value.long qq), .second, .val (Value.ref b_1), .val (Value.ref b_4), .val (Value.int xy), .val (Value.int yx)] []))
          refine own_Go.by (fun tq kq => XS.aload X7.here hx rfl (hb hby at_114) rfl rfl kq) ?_
          show own_Go p.tables e below _ (T7.setTop (mkF m 116 #[.val (Value.long q1), .second, .val (Value.long q2), .second, .val (Value.long q3), .second, .val (Value.long q4), .second, .val (Value.int p5), .val (Value.long pp), .second, .val (Value.long qq), .second, .val (Value.ref b_1), .val (Value.ref b_4), .val (Value.int xy), .val (Value.int yx)] [(Value.ref b_4)]))
          refine own_Go.by (fun tq kq => XS.aload X7.here hx rfl (hb hby at_116) rfl rfl kq) ?_
          show own_Go p.tables e below _ (T7.setTop (mkF m 118 #[.val (Value.long q1), .second, .val (Value.long q2), .second, .val (Value.long q3), .second, .val (Value.long q4), .second, .val (Value.int p5), .val (Value.long pp), .second, .val (Value.long qq), .second, .val (Value.ref b_1), .val (Value.ref b_4), .val (Value.int xy), .val (Value.int yx)] [(Value.ref b_1), (Value.ref b_4)]))
          obtain ⟨cq11, kq11, q11a, q11b, q11c⟩ := isOf hZ4 e7 p4_1
          obtain ⟨_, _, ⟨T11, L11, k11, n11⟩, -, X11, ⟨Lc11, hQ11, l11, y11, z11⟩, st11⟩ := X7.virtualBack hx (y := (⟨"com/example/gridmatch/gridmatch/ByLastSlice", "before", "(Lcom/example/gridmatch/gridmatch/ByLastSlice;)Z"⟩ : MethodName)) (z := (⟨"com/example/gridmatch/gridmatch/ByLastSlice", "before", "(Lcom/example/gridmatch/gridmatch/ByLastSlice;)Z"⟩ : MethodName)) hown4 (mvT hZ4 (hw _ (List.mem_of_getElem? (i := 118) rfl))) (mvT hZ4 (hw _ (List.mem_of_getElem? (i := 119) rfl))) (notFace_of_selects (args := #[]) (mvT hZ4 (hw _ (List.mem_of_getElem? (i := 121) rfl)))) (mvT hZ4 (hw _ (List.mem_of_getElem? (i := 121) rfl))) (mvT hZ4 (hw _ (List.mem_of_getElem? (i := 120) rfl))) (by decide) (backOf (W := 0) (rm13 l Z a0 hw [] b_4 b_1 pp q1 qq q2 T4.heap n0 O5 p4_2 c8 p4_3 c9) hZ4 (hw _ (List.mem_of_getElem? (i := 122) rfl)) (hw _ (List.mem_of_getElem? (i := 66) rfl)) (by decide) (by decide)) q11a q11c (g := (mkF m 118 #[.val (Value.long q1), .second, .val (Value.long q2), .second, .val (Value.long q3), .second, .val (Value.long q4), .second, .val (Value.int p5), .val (Value.long pp), .second, .val (Value.long qq), .second, .val (Value.ref b_1), .val (Value.ref b_4), .val (Value.int xy), .val (Value.int yx)] [(Value.ref b_1), (Value.ref b_4)])) rfl (by rw [hml]; rfl) (Steps.refl _) (argsL := [(Value.ref b_1)]) (rest := []) (lenOf own_pd8 rfl) rfl (by show 2 * 0 + _ ≤ _; exact Nat.le_of_eq rfl) (hb hby at_118) (fun _ _ => ⟨rfl, e7, (by decide : 16 + 0 ≤ _), (by decide : 104 + 0 ≤ _)⟩)
          dsimp only [Pt.U, Pt.locs, Pt.cells, Pt.slots] at X11 l11 y11 z11 st11 hQ11
          subst l11 y11 z11
          refine own_Go.by (fun tq kq => st11.trans kq) ?_
          obtain ⟨rfl, N11q, e11⟩ := hQ11
          have N11 := Fr.app N7 N11q
          show own_Go p.tables e below _ (T11.setTop (mkF m 121 #[.val (Value.long q1), .second, .val (Value.long q2), .second, .val (Value.long q3), .second, .val (Value.long q4), .second, .val (Value.int p5), .val (Value.long pp), .second, .val (Value.long qq), .second, .val (Value.ref b_1), .val (Value.ref b_4), .val (Value.int xy), .val (Value.int yx)] [(Value.int (if (pp < q1 ∨ (pp = q1 ∧ qq < q2)) then (1 : Int32) else (0 : Int32)))]))
          refine own_Go.by (fun tq kq => XS.iload X11.here hx rfl (hb hby at_121) rfl kq) ?_
          show own_Go p.tables e below _ (T11.setTop (mkF m 123 #[.val (Value.long q1), .second, .val (Value.long q2), .second, .val (Value.long q3), .second, .val (Value.long q4), .second, .val (Value.int p5), .val (Value.long pp), .second, .val (Value.long qq), .second, .val (Value.ref b_1), .val (Value.ref b_4), .val (Value.int xy), .val (Value.int yx)] [(Value.int yx), (Value.int (if (pp < q1 ∨ (pp = q1 ∧ qq < q2)) then (1 : Int32) else (0 : Int32)))]))
          refine own_Go.by (fun tq kq => XS.icmpNo X11.here hx rfl (hb hby at_123) rfl (teq h_yx.symm).2 kq) ?_
          show own_Go p.tables e below _ (T11.setTop (mkF m 126 #[.val (Value.long q1), .second, .val (Value.long q2), .second, .val (Value.long q3), .second, .val (Value.long q4), .second, .val (Value.int p5), .val (Value.long pp), .second, .val (Value.long qq), .second, .val (Value.ref b_1), .val (Value.ref b_4), .val (Value.int xy), .val (Value.int yx)] []))
          refine own_Go.by (fun tq kq => XS.aload X11.here hx rfl (hb hby at_126) rfl rfl kq) ?_
          show own_Go p.tables e below _ (T11.setTop (mkF m 128 #[.val (Value.long q1), .second, .val (Value.long q2), .second, .val (Value.long q3), .second, .val (Value.long q4), .second, .val (Value.int p5), .val (Value.long pp), .second, .val (Value.long qq), .second, .val (Value.ref b_1), .val (Value.ref b_4), .val (Value.int xy), .val (Value.int yx)] [(Value.ref b_1)]))
          refine own_Go.by (fun tq kq => XS.aload X11.here hx rfl (hb hby at_128) rfl rfl kq) ?_
          show own_Go p.tables e below _ (T11.setTop (mkF m 130 #[.val (Value.long q1), .second, .val (Value.long q2), .second, .val (Value.long q3), .second, .val (Value.long q4), .second, .val (Value.int p5), .val (Value.long pp), .second, .val (Value.long qq), .second, .val (Value.ref b_1), .val (Value.ref b_4), .val (Value.int xy), .val (Value.int yx)] [(Value.ref b_1), (Value.ref b_1)]))
          obtain ⟨cq12, kq12, q12a, q12b, q12c⟩ := isOf hZ4 e11 c10
          obtain ⟨_, _, ⟨T12, L12, k12, n12⟩, -, X12, ⟨Lc12, hQ12, l12, y12, z12⟩, st12⟩ := X11.virtualBack hx (y := (⟨"com/example/gridmatch/gridmatch/ByLastSlice", "before", "(Lcom/example/gridmatch/gridmatch/ByLastSlice;)Z"⟩ : MethodName)) (z := (⟨"com/example/gridmatch/gridmatch/ByLastSlice", "before", "(Lcom/example/gridmatch/gridmatch/ByLastSlice;)Z"⟩ : MethodName)) hown4 (mvT hZ4 (hw _ (List.mem_of_getElem? (i := 118) rfl))) (mvT hZ4 (hw _ (List.mem_of_getElem? (i := 119) rfl))) (notFace_of_selects (args := #[]) (mvT hZ4 (hw _ (List.mem_of_getElem? (i := 121) rfl)))) (mvT hZ4 (hw _ (List.mem_of_getElem? (i := 121) rfl))) (mvT hZ4 (hw _ (List.mem_of_getElem? (i := 120) rfl))) (by decide) (backOf (W := 0) (rm13 l Z a0 hw [] b_1 b_1 q1 q1 q2 q2 T4.heap n0 O5 c8 c8 c9 c9) hZ4 (hw _ (List.mem_of_getElem? (i := 122) rfl)) (hw _ (List.mem_of_getElem? (i := 66) rfl)) (by decide) (by decide)) q12a q12c (g := (mkF m 130 #[.val (Value.long q1), .second, .val (Value.long q2), .second, .val (Value.long q3), .second, .val (Value.long q4), .second, .val (Value.int p5), .val (Value.long pp), .second, .val (Value.long qq), .second, .val (Value.ref b_1), .val (Value.ref b_4), .val (Value.int xy), .val (Value.int yx)] [(Value.ref b_1), (Value.ref b_1)])) rfl (by rw [hml]; rfl) (Steps.refl _) (argsL := [(Value.ref b_1)]) (rest := []) (lenOf own_pd8 rfl) rfl (by show 2 * 0 + _ ≤ _; exact Nat.le_of_eq rfl) (hb hby at_130) (fun _ _ => ⟨rfl, e11, (by decide : 16 + 0 ≤ _), (by decide : 104 + 0 ≤ _)⟩)
          dsimp only [Pt.U, Pt.locs, Pt.cells, Pt.slots] at X12 l12 y12 z12 st12 hQ12
          subst l12 y12 z12
          refine own_Go.by (fun tq kq => st12.trans kq) ?_
          obtain ⟨rfl, N12q, e12⟩ := hQ12
          have N12 := Fr.app N11 N12q
          show own_Go p.tables e below _ (T12.setTop (mkF m 133 #[.val (Value.long q1), .second, .val (Value.long q2), .second, .val (Value.long q3), .second, .val (Value.long q4), .second, .val (Value.int p5), .val (Value.long pp), .second, .val (Value.long qq), .second, .val (Value.ref b_1), .val (Value.ref b_4), .val (Value.int xy), .val (Value.int yx)] [(Value.int (if (q1 < q1 ∨ (q1 = q1 ∧ q2 < q2)) then (1 : Int32) else (0 : Int32)))]))
          refine own_Go.by (fun tq kq => XS.ifNo X12.here hx rfl (hb hby at_133) rfl ((if0 _ _).trans (teq (own_irr q1 q2)).2) kq) ?_
          show own_Go p.tables e below _ (T12.setTop (mkF m 136 #[.val (Value.long q1), .second, .val (Value.long q2), .second, .val (Value.long q3), .second, .val (Value.long q4), .second, .val (Value.int p5), .val (Value.long pp), .second, .val (Value.long qq), .second, .val (Value.ref b_1), .val (Value.ref b_4), .val (Value.int xy), .val (Value.int yx)] []))
          refine own_Go.by (fun tq kq => XS.iconst X12.here hx rfl (hb hby at_136) kq) ?_
          show own_Go p.tables e below _ (T12.setTop (mkF m 137 #[.val (Value.long q1), .second, .val (Value.long q2), .second, .val (Value.long q3), .second, .val (Value.long q4), .second, .val (Value.int p5), .val (Value.long pp), .second, .val (Value.long qq), .second, .val (Value.ref b_1), .val (Value.ref b_4), .val (Value.int xy), .val (Value.int yx)] [(Value.int (1 : Int32))]))
          refine own_Go.by (fun tq kq => XS.goto X12.here hx rfl (pc0 := 137) (pc' := 141) rfl (hb hby at_137) (by decide) (by decide) kq) ?_
          show own_Go p.tables e below _ (T12.setTop (mkF m 141 #[.val (Value.long q1), .second, .val (Value.long q2), .second, .val (Value.long q3), .second, .val (Value.long q4), .second, .val (Value.int p5), .val (Value.long pp), .second, .val (Value.long qq), .second, .val (Value.ref b_1), .val (Value.ref b_4), .val (Value.int xy), .val (Value.int yx)] [(Value.int (1 : Int32))]))
          obtain ⟨fs, hr, hrun, hended, hRE⟩ := Stand.leaveW (s := s) (vm₁ := T4.vm) X12 hS4 (by rw [e12]; exact (Nat.le_refl _)) (v := some (Value.int (nar .boolean (1 : Int32)))) (fun h => by rw [Bd.returns] at h; cases h)
          refine own_Go.fin (retN X12 hx (t := .boolean) Bd.returns (by simp) (hb hby at_141) hr) ⟨hrun, hended, _, _, rfl, ?_, own_rew hRE (by decide) (by decide)⟩
          show Q0 Z q1 q2 q3 q4 p5 aB aI aN aG h0 n0 _ T12.heap _
          rw [e12]
          exact ⟨rfl, N12, K5⟩
        ·
          intro g_yx
          show own_Go p.tables e below _ (T4.setTop (mkF m 74 #[.val (Value.long q1), .second, .val (Value.long q2), .second, .val (Value.long q3), .second, .val (Value.long q4), .second, .val (Value.int p5), .val (Value.long pp), .second, .val (Value.long qq), .second, .val (Value.ref b_1), .val (Value.ref b_4), .val (Value.int xy), .unset] []))
          refine own_Go.by (fun tq kq => XS.lload X4.here hx rfl (hb hby at_74) rfl kq) ?_
          show own_Go p.tables e below _ (T4.setTop (mkF m 76 #[.val (Value.long q1), .second, .val (Value.long q2), .second, .val (Value.long q3), .second, .val (Value.long q4), .second, .val (Value.int p5), .val (Value.long pp), .second, .val (Value.long qq), .second, .val (Value.ref b_1), .val (Value.ref b_4), .val (Value.int xy), .unset] [(Value.long pp)]))
          refine own_Go.by (fun tq kq => XS.lloadN X4.here hx rfl (hb hby at_76) rfl kq) ?_
          show own_Go p.tables e below _ (T4.setTop (mkF m 77 #[.val (Value.long q1), .second, .val (Value.long q2), .second, .val (Value.long q3), .second, .val (Value.long q4), .second, .val (Value.int p5), .val (Value.long pp), .second, .val (Value.long qq), .second, .val (Value.ref b_1), .val (Value.ref b_4), .val (Value.int xy), .unset] [(Value.long q1), (Value.long pp)]))
          refine own_Go.by (fun tq kq => XS.lcmp X4.here hx rfl (hb hby at_77) rfl kq) ?_
          show own_Go p.tables e below _ (T4.setTop (mkF m 78 #[.val (Value.long q1), .second, .val (Value.long q2), .second, .val (Value.long q3), .second, .val (Value.long q4), .second, .val (Value.int p5), .val (Value.long pp), .second, .val (Value.long qq), .second, .val (Value.ref b_1), .val (Value.ref b_4), .val (Value.int xy), .unset] [(Value.int (lcmpW pp q1))]))
          by_cases hc78_13 : pp < q1
          ·
            refine own_Go.by (fun tq kq => XS.ifYes X4.here hx rfl (pc0 := 78) (pc' := 95) rfl (hb hby at_78) rfl ((if0 _ _).trans (tlt ((lw_lt pp q1).mpr hc78_13)).1) (by decide) (by decide) kq) ?_
            show own_Go p.tables e below _ (T4.setTop (mkF m 95 #[.val (Value.long q1), .second, .val (Value.long q2), .second, .val (Value.long q3), .second, .val (Value.long q4), .second, .val (Value.int p5), .val (Value.long pp), .second, .val (Value.long qq), .second, .val (Value.ref b_1), .val (Value.ref b_4), .val (Value.int xy), .unset] []))
            refine own_Go.by (fun tq kq => XS.iconst X4.here hx rfl (hb hby at_95) kq) ?_
            show own_Go p.tables e below _ (T4.setTop (mkF m 96 #[.val (Value.long q1), .second, .val (Value.long q2), .second, .val (Value.long q3), .second, .val (Value.long q4), .second, .val (Value.int p5), .val (Value.long pp), .second, .val (Value.long qq), .second, .val (Value.ref b_1), .val (Value.ref b_4), .val (Value.int xy), .unset] [(Value.int (1 : Int32))]))
            refine own_Go.by (fun tq kq => XS.goto X4.here hx rfl (pc0 := 96) (pc' := 100) rfl (hb hby at_96) (by decide) (by decide) kq) ?_
            show own_Go p.tables e below _ (T4.setTop (mkF m 100 #[.val (Value.long q1), .second, .val (Value.long q2), .second, .val (Value.long q3), .second, .val (Value.long q4), .second, .val (Value.int p5), .val (Value.long pp), .second, .val (Value.long qq), .second, .val (Value.ref b_1), .val (Value.ref b_4), .val (Value.int xy), .unset] [(Value.int (1 : Int32))]))
            refine own_Go.by (fun tq kq => XS.istore X4.here hx rfl (hb hby at_100) rfl (l' := #[.val (Value.long q1), .second, .val (Value.long q2), .second, .val (Value.long q3), .second, .val (Value.long q4), .second, .val (Value.int p5), .val (Value.long pp), .second, .val (Value.long qq), .second, .val (Value.ref b_1), .val (Value.ref b_4), .val (Value.int xy), .val (Value.int (1 : Int32))]) rfl kq) ?_
            exact g_yx _ (if_pos (Or.inl hc78_13)).symm
          ·
            refine own_Go.by (fun tq kq => XS.ifNo X4.here hx rfl (hb hby at_78) rfl ((if0 _ _).trans (flt (mt (lw_lt pp q1).mp hc78_13)).1) kq) ?_
            show own_Go p.tables e below _ (T4.setTop (mkF m 81 #[.val (Value.long q1), .second, .val (Value.long q2), .second, .val (Value.long q3), .second, .val (Value.long q4), .second, .val (Value.int p5), .val (Value.long pp), .second, .val (Value.long qq), .second, .val (Value.ref b_1), .val (Value.ref b_4), .val (Value.int xy), .unset] []))
            refine own_Go.by (fun tq kq => XS.lload X4.here hx rfl (hb hby at_81) rfl kq) ?_
            show own_Go p.tables e below _ (T4.setTop (mkF m 83 #[.val (Value.long q1), .second, .val (Value.long q2), .second, .val (Value.long q3), .second, .val (Value.long q4), .second, .val (Value.int p5), .val (Value.long pp), .second, .val (Value.long qq), .second, .val (Value.ref b_1), .val (Value.ref b_4), .val (Value.int xy), .unset] [(Value.long pp)]))
            refine own_Go.by (fun tq kq => XS.lloadN X4.here hx rfl (hb hby at_83) rfl kq) ?_
            show own_Go p.tables e below _ (T4.setTop (mkF m 84 #[.val (Value.long q1), .second, .val (Value.long q2), .second, .val (Value.long q3), .second, .val (Value.long q4), .second, .val (Value.int p5), .val (Value.long pp), .second, .val (Value.long qq), .second, .val (Value.ref b_1), .val (Value.ref b_4), .val (Value.int xy), .unset] [(Value.long q1), (Value.long pp)]))
            refine own_Go.by (fun tq kq => XS.lcmp X4.here hx rfl (hb hby at_84) rfl kq) ?_
            show own_Go p.tables e below _ (T4.setTop (mkF m 85 #[.val (Value.long q1), .second, .val (Value.long q2), .second, .val (Value.long q3), .second, .val (Value.long q4), .second, .val (Value.int p5), .val (Value.long pp), .second, .val (Value.long qq), .second, .val (Value.ref b_1), .val (Value.ref b_4), .val (Value.int xy), .unset] [(Value.int (lcmpW pp q1))]))
            by_cases hc85_14 : pp = q1
            ·
              refine own_Go.by (fun tq kq => XS.ifNo X4.here hx rfl (hb hby at_85) rfl ((if0 _ _).trans (teq ((lw_eq pp q1).mpr hc85_14)).2) kq) ?_
              show own_Go p.tables e below _ (T4.setTop (mkF m 88 #[.val (Value.long q1), .second, .val (Value.long q2), .second, .val (Value.long q3), .second, .val (Value.long q4), .second, .val (Value.int p5), .val (Value.long pp), .second, .val (Value.long qq), .second, .val (Value.ref b_1), .val (Value.ref b_4), .val (Value.int xy), .unset] []))
              refine own_Go.by (fun tq kq => XS.lload X4.here hx rfl (hb hby at_88) rfl kq) ?_
              show own_Go p.tables e below _ (T4.setTop (mkF m 90 #[.val (Value.long q1), .second, .val (Value.long q2), .second, .val (Value.long q3), .second, .val (Value.long q4), .second, .val (Value.int p5), .val (Value.long pp), .second, .val (Value.long qq), .second, .val (Value.ref b_1), .val (Value.ref b_4), .val (Value.int xy), .unset] [(Value.long qq)]))
              refine own_Go.by (fun tq kq => XS.lloadN X4.here hx rfl (hb hby at_90) rfl kq) ?_
              show own_Go p.tables e below _ (T4.setTop (mkF m 91 #[.val (Value.long q1), .second, .val (Value.long q2), .second, .val (Value.long q3), .second, .val (Value.long q4), .second, .val (Value.int p5), .val (Value.long pp), .second, .val (Value.long qq), .second, .val (Value.ref b_1), .val (Value.ref b_4), .val (Value.int xy), .unset] [(Value.long q2), (Value.long qq)]))
              refine own_Go.by (fun tq kq => XS.lcmp X4.here hx rfl (hb hby at_91) rfl kq) ?_
              show own_Go p.tables e below _ (T4.setTop (mkF m 92 #[.val (Value.long q1), .second, .val (Value.long q2), .second, .val (Value.long q3), .second, .val (Value.long q4), .second, .val (Value.int p5), .val (Value.long pp), .second, .val (Value.long qq), .second, .val (Value.ref b_1), .val (Value.ref b_4), .val (Value.int xy), .unset] [(Value.int (lcmpW qq q2))]))
              by_cases hc92_15 : qq < q2
              ·
                refine own_Go.by (fun tq kq => XS.ifNo X4.here hx rfl (hb hby at_92) rfl ((if0 _ _).trans (tlt ((lw_lt qq q2).mpr hc92_15)).2.1) kq) ?_
                show own_Go p.tables e below _ (T4.setTop (mkF m 95 #[.val (Value.long q1), .second, .val (Value.long q2), .second, .val (Value.long q3), .second, .val (Value.long q4), .second, .val (Value.int p5), .val (Value.long pp), .second, .val (Value.long qq), .second, .val (Value.ref b_1), .val (Value.ref b_4), .val (Value.int xy), .unset] []))
                refine own_Go.by (fun tq kq => XS.iconst X4.here hx rfl (hb hby at_95) kq) ?_
                show own_Go p.tables e below _ (T4.setTop (mkF m 96 #[.val (Value.long q1), .second, .val (Value.long q2), .second, .val (Value.long q3), .second, .val (Value.long q4), .second, .val (Value.int p5), .val (Value.long pp), .second, .val (Value.long qq), .second, .val (Value.ref b_1), .val (Value.ref b_4), .val (Value.int xy), .unset] [(Value.int (1 : Int32))]))
                refine own_Go.by (fun tq kq => XS.goto X4.here hx rfl (pc0 := 96) (pc' := 100) rfl (hb hby at_96) (by decide) (by decide) kq) ?_
                show own_Go p.tables e below _ (T4.setTop (mkF m 100 #[.val (Value.long q1), .second, .val (Value.long q2), .second, .val (Value.long q3), .second, .val (Value.long q4), .second, .val (Value.int p5), .val (Value.long pp), .second, .val (Value.long qq), .second, .val (Value.ref b_1), .val (Value.ref b_4), .val (Value.int xy), .unset] [(Value.int (1 : Int32))]))
                refine own_Go.by (fun tq kq => XS.istore X4.here hx rfl (hb hby at_100) rfl (l' := #[.val (Value.long q1), .second, .val (Value.long q2), .second, .val (Value.long q3), .second, .val (Value.long q4), .second, .val (Value.int p5), .val (Value.long pp), .second, .val (Value.long qq), .second, .val (Value.ref b_1), .val (Value.ref b_4), .val (Value.int xy), .val (Value.int (1 : Int32))]) rfl kq) ?_
                exact g_yx _ (if_pos (Or.inr ⟨hc85_14, hc92_15⟩)).symm
              ·
                refine own_Go.by (fun tq kq => XS.ifYes X4.here hx rfl (pc0 := 92) (pc' := 99) rfl (hb hby at_92) rfl ((if0 _ _).trans (flt (mt (lw_lt qq q2).mp hc92_15)).2.1) (by decide) (by decide) kq) ?_
                show own_Go p.tables e below _ (T4.setTop (mkF m 99 #[.val (Value.long q1), .second, .val (Value.long q2), .second, .val (Value.long q3), .second, .val (Value.long q4), .second, .val (Value.int p5), .val (Value.long pp), .second, .val (Value.long qq), .second, .val (Value.ref b_1), .val (Value.ref b_4), .val (Value.int xy), .unset] []))
                refine own_Go.by (fun tq kq => XS.iconst X4.here hx rfl (hb hby at_99) kq) ?_
                show own_Go p.tables e below _ (T4.setTop (mkF m 100 #[.val (Value.long q1), .second, .val (Value.long q2), .second, .val (Value.long q3), .second, .val (Value.long q4), .second, .val (Value.int p5), .val (Value.long pp), .second, .val (Value.long qq), .second, .val (Value.ref b_1), .val (Value.ref b_4), .val (Value.int xy), .unset] [(Value.int (0 : Int32))]))
                refine own_Go.by (fun tq kq => XS.istore X4.here hx rfl (hb hby at_100) rfl (l' := #[.val (Value.long q1), .second, .val (Value.long q2), .second, .val (Value.long q3), .second, .val (Value.long q4), .second, .val (Value.int p5), .val (Value.long pp), .second, .val (Value.long qq), .second, .val (Value.ref b_1), .val (Value.ref b_4), .val (Value.int xy), .val (Value.int (0 : Int32))]) rfl kq) ?_
                exact g_yx _ (if_neg (fun q => q.elim hc78_13 (fun r => hc92_15 r.2))).symm
            ·
              refine own_Go.by (fun tq kq => XS.ifYes X4.here hx rfl (pc0 := 85) (pc' := 99) rfl (hb hby at_85) rfl ((if0 _ _).trans (feq (mt (lw_eq pp q1).mp hc85_14)).2) (by decide) (by decide) kq) ?_
              show own_Go p.tables e below _ (T4.setTop (mkF m 99 #[.val (Value.long q1), .second, .val (Value.long q2), .second, .val (Value.long q3), .second, .val (Value.long q4), .second, .val (Value.int p5), .val (Value.long pp), .second, .val (Value.long qq), .second, .val (Value.ref b_1), .val (Value.ref b_4), .val (Value.int xy), .unset] []))
              refine own_Go.by (fun tq kq => XS.iconst X4.here hx rfl (hb hby at_99) kq) ?_
              show own_Go p.tables e below _ (T4.setTop (mkF m 100 #[.val (Value.long q1), .second, .val (Value.long q2), .second, .val (Value.long q3), .second, .val (Value.long q4), .second, .val (Value.int p5), .val (Value.long pp), .second, .val (Value.long qq), .second, .val (Value.ref b_1), .val (Value.ref b_4), .val (Value.int xy), .unset] [(Value.int (0 : Int32))]))
              refine own_Go.by (fun tq kq => XS.istore X4.here hx rfl (hb hby at_100) rfl (l' := #[.val (Value.long q1), .second, .val (Value.long q2), .second, .val (Value.long q3), .second, .val (Value.long q4), .second, .val (Value.int p5), .val (Value.long pp), .second, .val (Value.long qq), .second, .val (Value.ref b_1), .val (Value.ref b_4), .val (Value.int xy), .val (Value.int (0 : Int32))]) rfl kq) ?_
              exact g_yx _ (if_neg (fun q => q.elim hc78_13 (fun r => hc85_14 r.1))).symm
      ·
        intro g_xy
        show own_Go p.tables e below _ (T4.setTop (mkF m 46 #[.val (Value.long q1), .second, .val (Value.long q2), .second, .val (Value.long q3), .second, .val (Value.long q4), .second, .val (Value.int p5), .val (Value.long pp), .second, .val (Value.long qq), .second, .val (Value.ref b_1), .val (Value.ref b_4), .unset, .unset] []))
        refine own_Go.by (fun tq kq => XS.lloadN X4.here hx rfl (hb hby at_46) rfl kq) ?_
        show own_Go p.tables e below _ (T4.setTop (mkF m 47 #[.val (Value.long q1), .second, .val (Value.long q2), .second, .val (Value.long q3), .second, .val (Value.long q4), .second, .val (Value.int p5), .val (Value.long pp), .second, .val (Value.long qq), .second, .val (Value.ref b_1), .val (Value.ref b_4), .unset, .unset] [(Value.long q1)]))
        refine own_Go.by (fun tq kq => XS.lload X4.here hx rfl (hb hby at_47) rfl kq) ?_
        show own_Go p.tables e below _ (T4.setTop (mkF m 49 #[.val (Value.long q1), .second, .val (Value.long q2), .second, .val (Value.long q3), .second, .val (Value.long q4), .second, .val (Value.int p5), .val (Value.long pp), .second, .val (Value.long qq), .second, .val (Value.ref b_1), .val (Value.ref b_4), .unset, .unset] [(Value.long pp), (Value.long q1)]))
        refine own_Go.by (fun tq kq => XS.lcmp X4.here hx rfl (hb hby at_49) rfl kq) ?_
        show own_Go p.tables e below _ (T4.setTop (mkF m 50 #[.val (Value.long q1), .second, .val (Value.long q2), .second, .val (Value.long q3), .second, .val (Value.long q4), .second, .val (Value.int p5), .val (Value.long pp), .second, .val (Value.long qq), .second, .val (Value.ref b_1), .val (Value.ref b_4), .unset, .unset] [(Value.int (lcmpW q1 pp))]))
        by_cases hc50_16 : q1 < pp
        ·
          refine own_Go.by (fun tq kq => XS.ifYes X4.here hx rfl (pc0 := 50) (pc' := 67) rfl (hb hby at_50) rfl ((if0 _ _).trans (tlt ((lw_lt q1 pp).mpr hc50_16)).1) (by decide) (by decide) kq) ?_
          show own_Go p.tables e below _ (T4.setTop (mkF m 67 #[.val (Value.long q1), .second, .val (Value.long q2), .second, .val (Value.long q3), .second, .val (Value.long q4), .second, .val (Value.int p5), .val (Value.long pp), .second, .val (Value.long qq), .second, .val (Value.ref b_1), .val (Value.ref b_4), .unset, .unset] []))
          refine own_Go.by (fun tq kq => XS.iconst X4.here hx rfl (hb hby at_67) kq) ?_
          show own_Go p.tables e below _ (T4.setTop (mkF m 68 #[.val (Value.long q1), .second, .val (Value.long q2), .second, .val (Value.long q3), .second, .val (Value.long q4), .second, .val (Value.int p5), .val (Value.long pp), .second, .val (Value.long qq), .second, .val (Value.ref b_1), .val (Value.ref b_4), .unset, .unset] [(Value.int (1 : Int32))]))
          refine own_Go.by (fun tq kq => XS.goto X4.here hx rfl (pc0 := 68) (pc' := 72) rfl (hb hby at_68) (by decide) (by decide) kq) ?_
          show own_Go p.tables e below _ (T4.setTop (mkF m 72 #[.val (Value.long q1), .second, .val (Value.long q2), .second, .val (Value.long q3), .second, .val (Value.long q4), .second, .val (Value.int p5), .val (Value.long pp), .second, .val (Value.long qq), .second, .val (Value.ref b_1), .val (Value.ref b_4), .unset, .unset] [(Value.int (1 : Int32))]))
          refine own_Go.by (fun tq kq => XS.istore X4.here hx rfl (hb hby at_72) rfl (l' := #[.val (Value.long q1), .second, .val (Value.long q2), .second, .val (Value.long q3), .second, .val (Value.long q4), .second, .val (Value.int p5), .val (Value.long pp), .second, .val (Value.long qq), .second, .val (Value.ref b_1), .val (Value.ref b_4), .val (Value.int (1 : Int32)), .unset]) rfl kq) ?_
          exact g_xy _ (if_pos (Or.inl hc50_16)).symm
        ·
          refine own_Go.by (fun tq kq => XS.ifNo X4.here hx rfl (hb hby at_50) rfl ((if0 _ _).trans (flt (mt (lw_lt q1 pp).mp hc50_16)).1) kq) ?_
          show own_Go p.tables e below _ (T4.setTop (mkF m 53 #[.val (Value.long q1), .second, .val (Value.long q2), .second, .val (Value.long q3), .second, .val (Value.long q4), .second, .val (Value.int p5), .val (Value.long pp), .second, .val (Value.long qq), .second, .val (Value.ref b_1), .val (Value.ref b_4), .unset, .unset] []))
          refine own_Go.by (fun tq kq => XS.lloadN X4.here hx rfl (hb hby at_53) rfl kq) ?_
          show own_Go p.tables e below _ (T4.setTop (mkF m 54 #[.val (Value.long q1), .second, .val (Value.long q2), .second, .val (Value.long q3), .second, .val (Value.long q4), .second, .val (Value.int p5), .val (Value.long pp), .second, .val (Value.long qq), .second, .val (Value.ref b_1), .val (Value.ref b_4), .unset, .unset] [(Value.long q1)]))
          refine own_Go.by (fun tq kq => XS.lload X4.here hx rfl (hb hby at_54) rfl kq) ?_
          show own_Go p.tables e below _ (T4.setTop (mkF m 56 #[.val (Value.long q1), .second, .val (Value.long q2), .second, .val (Value.long q3), .second, .val (Value.long q4), .second, .val (Value.int p5), .val (Value.long pp), .second, .val (Value.long qq), .second, .val (Value.ref b_1), .val (Value.ref b_4), .unset, .unset] [(Value.long pp), (Value.long q1)]))
          refine own_Go.by (fun tq kq => XS.lcmp X4.here hx rfl (hb hby at_56) rfl kq) ?_
          show own_Go p.tables e below _ (T4.setTop (mkF m 57 #[.val (Value.long q1), .second, .val (Value.long q2), .second, .val (Value.long q3), .second, .val (Value.long q4), .second, .val (Value.int p5), .val (Value.long pp), .second, .val (Value.long qq), .second, .val (Value.ref b_1), .val (Value.ref b_4), .unset, .unset] [(Value.int (lcmpW q1 pp))]))
          by_cases hc57_17 : q1 = pp
          ·
            refine own_Go.by (fun tq kq => XS.ifNo X4.here hx rfl (hb hby at_57) rfl ((if0 _ _).trans (teq ((lw_eq q1 pp).mpr hc57_17)).2) kq) ?_
            show own_Go p.tables e below _ (T4.setTop (mkF m 60 #[.val (Value.long q1), .second, .val (Value.long q2), .second, .val (Value.long q3), .second, .val (Value.long q4), .second, .val (Value.int p5), .val (Value.long pp), .second, .val (Value.long qq), .second, .val (Value.ref b_1), .val (Value.ref b_4), .unset, .unset] []))
            refine own_Go.by (fun tq kq => XS.lloadN X4.here hx rfl (hb hby at_60) rfl kq) ?_
            show own_Go p.tables e below _ (T4.setTop (mkF m 61 #[.val (Value.long q1), .second, .val (Value.long q2), .second, .val (Value.long q3), .second, .val (Value.long q4), .second, .val (Value.int p5), .val (Value.long pp), .second, .val (Value.long qq), .second, .val (Value.ref b_1), .val (Value.ref b_4), .unset, .unset] [(Value.long q2)]))
            refine own_Go.by (fun tq kq => XS.lload X4.here hx rfl (hb hby at_61) rfl kq) ?_
            show own_Go p.tables e below _ (T4.setTop (mkF m 63 #[.val (Value.long q1), .second, .val (Value.long q2), .second, .val (Value.long q3), .second, .val (Value.long q4), .second, .val (Value.int p5), .val (Value.long pp), .second, .val (Value.long qq), .second, .val (Value.ref b_1), .val (Value.ref b_4), .unset, .unset] [(Value.long qq), (Value.long q2)]))
            refine own_Go.by (fun tq kq => XS.lcmp X4.here hx rfl (hb hby at_63) rfl kq) ?_
            show own_Go p.tables e below _ (T4.setTop (mkF m 64 #[.val (Value.long q1), .second, .val (Value.long q2), .second, .val (Value.long q3), .second, .val (Value.long q4), .second, .val (Value.int p5), .val (Value.long pp), .second, .val (Value.long qq), .second, .val (Value.ref b_1), .val (Value.ref b_4), .unset, .unset] [(Value.int (lcmpW q2 qq))]))
            by_cases hc64_18 : q2 < qq
            ·
              refine own_Go.by (fun tq kq => XS.ifNo X4.here hx rfl (hb hby at_64) rfl ((if0 _ _).trans (tlt ((lw_lt q2 qq).mpr hc64_18)).2.1) kq) ?_
              show own_Go p.tables e below _ (T4.setTop (mkF m 67 #[.val (Value.long q1), .second, .val (Value.long q2), .second, .val (Value.long q3), .second, .val (Value.long q4), .second, .val (Value.int p5), .val (Value.long pp), .second, .val (Value.long qq), .second, .val (Value.ref b_1), .val (Value.ref b_4), .unset, .unset] []))
              refine own_Go.by (fun tq kq => XS.iconst X4.here hx rfl (hb hby at_67) kq) ?_
              show own_Go p.tables e below _ (T4.setTop (mkF m 68 #[.val (Value.long q1), .second, .val (Value.long q2), .second, .val (Value.long q3), .second, .val (Value.long q4), .second, .val (Value.int p5), .val (Value.long pp), .second, .val (Value.long qq), .second, .val (Value.ref b_1), .val (Value.ref b_4), .unset, .unset] [(Value.int (1 : Int32))]))
              refine own_Go.by (fun tq kq => XS.goto X4.here hx rfl (pc0 := 68) (pc' := 72) rfl (hb hby at_68) (by decide) (by decide) kq) ?_
              show own_Go p.tables e below _ (T4.setTop (mkF m 72 #[.val (Value.long q1), .second, .val (Value.long q2), .second, .val (Value.long q3), .second, .val (Value.long q4), .second, .val (Value.int p5), .val (Value.long pp), .second, .val (Value.long qq), .second, .val (Value.ref b_1), .val (Value.ref b_4), .unset, .unset] [(Value.int (1 : Int32))]))
              refine own_Go.by (fun tq kq => XS.istore X4.here hx rfl (hb hby at_72) rfl (l' := #[.val (Value.long q1), .second, .val (Value.long q2), .second, .val (Value.long q3), .second, .val (Value.long q4), .second, .val (Value.int p5), .val (Value.long pp), .second, .val (Value.long qq), .second, .val (Value.ref b_1), .val (Value.ref b_4), .val (Value.int (1 : Int32)), .unset]) rfl kq) ?_
              exact g_xy _ (if_pos (Or.inr ⟨hc57_17, hc64_18⟩)).symm
            ·
              refine own_Go.by (fun tq kq => XS.ifYes X4.here hx rfl (pc0 := 64) (pc' := 71) rfl (hb hby at_64) rfl ((if0 _ _).trans (flt (mt (lw_lt q2 qq).mp hc64_18)).2.1) (by decide) (by decide) kq) ?_
              show own_Go p.tables e below _ (T4.setTop (mkF m 71 #[.val (Value.long q1), .second, .val (Value.long q2), .second, .val (Value.long q3), .second, .val (Value.long q4), .second, .val (Value.int p5), .val (Value.long pp), .second, .val (Value.long qq), .second, .val (Value.ref b_1), .val (Value.ref b_4), .unset, .unset] []))
              refine own_Go.by (fun tq kq => XS.iconst X4.here hx rfl (hb hby at_71) kq) ?_
              show own_Go p.tables e below _ (T4.setTop (mkF m 72 #[.val (Value.long q1), .second, .val (Value.long q2), .second, .val (Value.long q3), .second, .val (Value.long q4), .second, .val (Value.int p5), .val (Value.long pp), .second, .val (Value.long qq), .second, .val (Value.ref b_1), .val (Value.ref b_4), .unset, .unset] [(Value.int (0 : Int32))]))
              refine own_Go.by (fun tq kq => XS.istore X4.here hx rfl (hb hby at_72) rfl (l' := #[.val (Value.long q1), .second, .val (Value.long q2), .second, .val (Value.long q3), .second, .val (Value.long q4), .second, .val (Value.int p5), .val (Value.long pp), .second, .val (Value.long qq), .second, .val (Value.ref b_1), .val (Value.ref b_4), .val (Value.int (0 : Int32)), .unset]) rfl kq) ?_
              exact g_xy _ (if_neg (fun q => q.elim hc50_16 (fun r => hc64_18 r.2))).symm
          ·
            refine own_Go.by (fun tq kq => XS.ifYes X4.here hx rfl (pc0 := 57) (pc' := 71) rfl (hb hby at_57) rfl ((if0 _ _).trans (feq (mt (lw_eq q1 pp).mp hc57_17)).2) (by decide) (by decide) kq) ?_
            show own_Go p.tables e below _ (T4.setTop (mkF m 71 #[.val (Value.long q1), .second, .val (Value.long q2), .second, .val (Value.long q3), .second, .val (Value.long q4), .second, .val (Value.int p5), .val (Value.long pp), .second, .val (Value.long qq), .second, .val (Value.ref b_1), .val (Value.ref b_4), .unset, .unset] []))
            refine own_Go.by (fun tq kq => XS.iconst X4.here hx rfl (hb hby at_71) kq) ?_
            show own_Go p.tables e below _ (T4.setTop (mkF m 72 #[.val (Value.long q1), .second, .val (Value.long q2), .second, .val (Value.long q3), .second, .val (Value.long q4), .second, .val (Value.int p5), .val (Value.long pp), .second, .val (Value.long qq), .second, .val (Value.ref b_1), .val (Value.ref b_4), .unset, .unset] [(Value.int (0 : Int32))]))
            refine own_Go.by (fun tq kq => XS.istore X4.here hx rfl (hb hby at_72) rfl (l' := #[.val (Value.long q1), .second, .val (Value.long q2), .second, .val (Value.long q3), .second, .val (Value.long q4), .second, .val (Value.int p5), .val (Value.long pp), .second, .val (Value.long qq), .second, .val (Value.ref b_1), .val (Value.ref b_4), .val (Value.int (0 : Int32)), .unset]) rfl kq) ?_
            exact g_xy _ (if_neg (fun q => q.elim hc50_16 (fun r => hc57_17 r.1))).symm
    ·
      intro g_qq
      show own_Go p.tables e below _ (s₁.setTop (mkF m 15 #[.val (Value.long q1), .second, .val (Value.long q2), .second, .val (Value.long q3), .second, .val (Value.long q4), .second, .val (Value.int p5), .val (Value.long pp), .second, .unset, .unset, .unset, .unset, .unset, .unset] []))
      refine own_Go.by (fun tq kq => XS.iload X0.here hx rfl (hb hby at_15) rfl kq) ?_
      show own_Go p.tables e below _ (s₁.setTop (mkF m 17 #[.val (Value.long q1), .second, .val (Value.long q2), .second, .val (Value.long q3), .second, .val (Value.long q4), .second, .val (Value.int p5), .val (Value.long pp), .second, .unset, .unset, .unset, .unset, .unset, .unset] [(Value.int p5)]))
      refine own_Go.by (fun tq kq => XS.iconst X0.here hx rfl (hb hby at_17) kq) ?_
      show own_Go p.tables e below _ (s₁.setTop (mkF m 18 #[.val (Value.long q1), .second, .val (Value.long q2), .second, .val (Value.long q3), .second, .val (Value.long q4), .second, .val (Value.int p5), .val (Value.long pp), .second, .unset, .unset, .unset, .unset, .unset, .unset] [(Value.int (2 : Int32)), (Value.int p5)]))
      refine own_Go.by (fun tq kq => XS.iand X0.here hx rfl (hb hby at_18) rfl kq) ?_
      show own_Go p.tables e below _ (s₁.setTop (mkF m 19 #[.val (Value.long q1), .second, .val (Value.long q2), .second, .val (Value.long q3), .second, .val (Value.long q4), .second, .val (Value.int p5), .val (Value.long pp), .second, .unset, .unset, .unset, .unset, .unset, .unset] [(Value.int (p5 &&& (2 : Int32)))]))
      by_cases hc19_19 : (p5 &&& (2 : Int32)) = (0 : Int32)
      ·
        refine own_Go.by (fun tq kq => XS.ifYes X0.here hx rfl (pc0 := 19) (pc' := 26) rfl (hb hby at_19) rfl ((if0 _ _).trans (teq hc19_19).1) (by decide) (by decide) kq) ?_
        show own_Go p.tables e below _ (s₁.setTop (mkF m 26 #[.val (Value.long q1), .second, .val (Value.long q2), .second, .val (Value.long q3), .second, .val (Value.long q4), .second, .val (Value.int p5), .val (Value.long pp), .second, .unset, .unset, .unset, .unset, .unset, .unset] []))
        refine own_Go.by (fun tq kq => XS.lload X0.here hx rfl (hb hby at_26) rfl kq) ?_
        show own_Go p.tables e below _ (s₁.setTop (mkF m 28 #[.val (Value.long q1), .second, .val (Value.long q2), .second, .val (Value.long q3), .second, .val (Value.long q4), .second, .val (Value.int p5), .val (Value.long pp), .second, .unset, .unset, .unset, .unset, .unset, .unset] [(Value.long q4)]))
        refine own_Go.by (fun tq kq => XS.lstore X0.here hx rfl (hb hby at_28) rfl (l' := #[.val (Value.long q1), .second, .val (Value.long q2), .second, .val (Value.long q3), .second, .val (Value.long q4), .second, .val (Value.int p5), .val (Value.long pp), .second, .val (Value.long q4), .second, .unset, .unset, .unset, .unset]) rfl kq) ?_
        exact g_qq _ trivial
      ·
        refine own_Go.by (fun tq kq => XS.ifNo X0.here hx rfl (hb hby at_19) rfl ((if0 _ _).trans (feq hc19_19).1) kq) ?_
        show own_Go p.tables e below _ (s₁.setTop (mkF m 22 #[.val (Value.long q1), .second, .val (Value.long q2), .second, .val (Value.long q3), .second, .val (Value.long q4), .second, .val (Value.int p5), .val (Value.long pp), .second, .unset, .unset, .unset, .unset, .unset, .unset] []))
        refine own_Go.by (fun tq kq => XS.lloadN X0.here hx rfl (hb hby at_22) rfl kq) ?_
        show own_Go p.tables e below _ (s₁.setTop (mkF m 23 #[.val (Value.long q1), .second, .val (Value.long q2), .second, .val (Value.long q3), .second, .val (Value.long q4), .second, .val (Value.int p5), .val (Value.long pp), .second, .unset, .unset, .unset, .unset, .unset, .unset] [(Value.long q2)]))
        refine own_Go.by (fun tq kq => XS.goto X0.here hx rfl (pc0 := 23) (pc' := 28) rfl (hb hby at_23) (by decide) (by decide) kq) ?_
        show own_Go p.tables e below _ (s₁.setTop (mkF m 28 #[.val (Value.long q1), .second, .val (Value.long q2), .second, .val (Value.long q3), .second, .val (Value.long q4), .second, .val (Value.int p5), .val (Value.long pp), .second, .unset, .unset, .unset, .unset, .unset, .unset] [(Value.long q2)]))
        refine own_Go.by (fun tq kq => XS.lstore X0.here hx rfl (hb hby at_28) rfl (l' := #[.val (Value.long q1), .second, .val (Value.long q2), .second, .val (Value.long q3), .second, .val (Value.long q4), .second, .val (Value.int p5), .val (Value.long pp), .second, .val (Value.long q2), .second, .unset, .unset, .unset, .unset]) rfl kq) ?_
        exact g_qq _ trivial
  ·
    intro g_pp
    show own_Go p.tables e below _ (s₁.setTop (mkF m 0 #[.val (Value.long q1), .second, .val (Value.long q2), .second, .val (Value.long q3), .second, .val (Value.long q4), .second, .val (Value.int p5), .unset, .unset, .unset, .unset, .unset, .unset, .unset, .unset] []))
    refine own_Go.by (fun tq kq => XS.iload X0.here hx rfl (hb hby at_0) rfl kq) ?_
    show own_Go p.tables e below _ (s₁.setTop (mkF m 2 #[.val (Value.long q1), .second, .val (Value.long q2), .second, .val (Value.long q3), .second, .val (Value.long q4), .second, .val (Value.int p5), .unset, .unset, .unset, .unset, .unset, .unset, .unset, .unset] [(Value.int p5)]))
    refine own_Go.by (fun tq kq => XS.iconst X0.here hx rfl (hb hby at_2) kq) ?_
    show own_Go p.tables e below _ (s₁.setTop (mkF m 3 #[.val (Value.long q1), .second, .val (Value.long q2), .second, .val (Value.long q3), .second, .val (Value.long q4), .second, .val (Value.int p5), .unset, .unset, .unset, .unset, .unset, .unset, .unset, .unset] [(Value.int (1 : Int32)), (Value.int p5)]))
    refine own_Go.by (fun tq kq => XS.iand X0.here hx rfl (hb hby at_3) rfl kq) ?_
    show own_Go p.tables e below _ (s₁.setTop (mkF m 4 #[.val (Value.long q1), .second, .val (Value.long q2), .second, .val (Value.long q3), .second, .val (Value.long q4), .second, .val (Value.int p5), .unset, .unset, .unset, .unset, .unset, .unset, .unset, .unset] [(Value.int (p5 &&& (1 : Int32)))]))
    by_cases hc4_20 : (p5 &&& (1 : Int32)) = (0 : Int32)
    ·
      refine own_Go.by (fun tq kq => XS.ifYes X0.here hx rfl (pc0 := 4) (pc' := 11) rfl (hb hby at_4) rfl ((if0 _ _).trans (teq hc4_20).1) (by decide) (by decide) kq) ?_
      show own_Go p.tables e below _ (s₁.setTop (mkF m 11 #[.val (Value.long q1), .second, .val (Value.long q2), .second, .val (Value.long q3), .second, .val (Value.long q4), .second, .val (Value.int p5), .unset, .unset, .unset, .unset, .unset, .unset, .unset, .unset] []))
      refine own_Go.by (fun tq kq => XS.lload X0.here hx rfl (hb hby at_11) rfl kq) ?_
      show own_Go p.tables e below _ (s₁.setTop (mkF m 13 #[.val (Value.long q1), .second, .val (Value.long q2), .second, .val (Value.long q3), .second, .val (Value.long q4), .second, .val (Value.int p5), .unset, .unset, .unset, .unset, .unset, .unset, .unset, .unset] [(Value.long q3)]))
      refine own_Go.by (fun tq kq => XS.lstore X0.here hx rfl (hb hby at_13) rfl (l' := #[.val (Value.long q1), .second, .val (Value.long q2), .second, .val (Value.long q3), .second, .val (Value.long q4), .second, .val (Value.int p5), .val (Value.long q3), .second, .unset, .unset, .unset, .unset, .unset, .unset]) rfl kq) ?_
      exact g_pp _ trivial
    ·
      refine own_Go.by (fun tq kq => XS.ifNo X0.here hx rfl (hb hby at_4) rfl ((if0 _ _).trans (feq hc4_20).1) kq) ?_
      show own_Go p.tables e below _ (s₁.setTop (mkF m 7 #[.val (Value.long q1), .second, .val (Value.long q2), .second, .val (Value.long q3), .second, .val (Value.long q4), .second, .val (Value.int p5), .unset, .unset, .unset, .unset, .unset, .unset, .unset, .unset] []))
      refine own_Go.by (fun tq kq => XS.lloadN X0.here hx rfl (hb hby at_7) rfl kq) ?_
      show own_Go p.tables e below _ (s₁.setTop (mkF m 8 #[.val (Value.long q1), .second, .val (Value.long q2), .second, .val (Value.long q3), .second, .val (Value.long q4), .second, .val (Value.int p5), .unset, .unset, .unset, .unset, .unset, .unset, .unset, .unset] [(Value.long q1)]))
      refine own_Go.by (fun tq kq => XS.goto X0.here hx rfl (pc0 := 8) (pc' := 13) rfl (hb hby at_8) (by decide) (by decide) kq) ?_
      show own_Go p.tables e below _ (s₁.setTop (mkF m 13 #[.val (Value.long q1), .second, .val (Value.long q2), .second, .val (Value.long q3), .second, .val (Value.long q4), .second, .val (Value.int p5), .unset, .unset, .unset, .unset, .unset, .unset, .unset, .unset] [(Value.long q1)]))
      refine own_Go.by (fun tq kq => XS.lstore X0.here hx rfl (hb hby at_13) rfl (l' := #[.val (Value.long q1), .second, .val (Value.long q2), .second, .val (Value.long q3), .second, .val (Value.long q4), .second, .val (Value.int p5), .val (Value.long q1), .second, .unset, .unset, .unset, .unset, .unset, .unset]) rfl kq) ?_
      exact g_pp _ trivial

set_option maxRecDepth 65536 in
set_option maxHeartbeats 40000000 in
theorem comes_1 {Post : Tables → Env → Array Value → State → Outcome → State → Prop} (hpost : ∀ tb e args s v u, (limb_1_1.after args s (.returned v) u = true ∧ limb_1_2.after args s (.returned v) u = true ∧ True) → ReturnedEndW s (.returned v) u (Jvm.fieldLocs frame_1_writes args s ++ Jvm.arrayLocs frame_1_arrays args s ++ Jvm.staticLocs frame_1_statics s) 24 3328 → Post tb e args s (.returned v) u) :
    ArmFor flags0 classFile x code maxLocals ret World_1 tables_1 room_1 Calls_1 rest_1 Pre_1 Post := by
  intro l hfl _ _ p e ha hc hk s m args below hf hA hF happ hP
  obtain ⟨hcalls, hrest, hpre⟩ := hP
  obtain ⟨-, -, -, hnamed, -, -, -, hat⟩ := (Spec.applies_iff hf).mp happ
  obtain ⟨hg, hn⟩ := and_e (Cond.before_iff.mp (show (Jvm.Cond.and given_1 narrow_1).before args s = true from hpre))
  obtain ⟨hcount, hg⟩ := and_e hg
  obtain ⟨hg0, hg⟩ := and_e hg
  obtain ⟨hg1, hg⟩ := and_e hg
  obtain ⟨hg2, hg⟩ := and_e hg
  obtain ⟨hg3, hg⟩ := and_e hg
  have hg4 := hg
  obtain ⟨w0, w1, w2, w3, w4, rfl⟩ : ∃ w0 w1 w2 w3 w4 : Value, args = #[w0, w1, w2, w3, w4] := by
    have hs : args.size = 5 := by simpa [Cond.value, given_1] using hcount
    obtain ⟨L⟩ := args
    match L, hs with
    | [w0, w1, w2, w3, w4], _ => exact ⟨w0, w1, w2, w3, w4, rfl⟩
  have hw := fun d (hd : d ∈ tables_1) => atoms_spec (ws := Jvm.Cond.code x code maxLocals ret :: tables_1) hat d (List.mem_cons_of_mem _ hd)
  have hfit : Fit s := fun {y c} hc i hi => by
    obtain ⟨ha, rfl⟩ := Array.getElem?_eq_some_iff.mp hc
    have q := List.all_eq_true.mp ((Array.all_eq_true_iff_forall_mem.mp hF) _ (Array.getElem_mem ha)) i (List.mem_range.mpr hi)
    simpa [Array.getElem?_eq_getElem hi] using q
  obtain ⟨i0, ei0⟩ := isL_v hg0
  obtain rfl : w0 = (.long i0) := Option.some.inj ei0
  obtain ⟨i1, ei1⟩ := isL_v hg1
  obtain rfl : w1 = (.long i1) := Option.some.inj ei1
  obtain ⟨i2, ei2⟩ := isL_v hg2
  obtain rfl : w2 = (.long i2) := Option.some.inj ei2
  obtain ⟨i3, ei3⟩ := isL_v hg3
  obtain rfl : w3 = (.long i3) := Option.some.inj ei3
  obtain ⟨i4, ei4⟩ := is_v hg4
  obtain rfl : w4 = (.int i4) := Option.some.inj ei4
  obtain ⟨h0, hn⟩ := and_e hn
  obtain ⟨h1, hn⟩ := and_e hn
  obtain ⟨h2, h3⟩ := and_e hn
  obtain ⟨b0, eb0⟩ := exa_v h0
  have S0 := Sta.start eb0 (Or.inr ⟨(hw _ (List.mem_of_getElem? (i := 14) rfl)), (hw _ (List.mem_of_getElem? (i := 15) rfl))⟩)
  obtain ⟨b1, eb1⟩ := exa_v h1
  have S1 := Sta.start eb1 (Or.inr ⟨(hw _ (List.mem_of_getElem? (i := 23) rfl)), (hw _ (List.mem_of_getElem? (i := 24) rfl))⟩)
  obtain ⟨b2, eb2⟩ := exa_v h2
  have S2 := Sta.start eb2 (Or.inr ⟨(hw _ (List.mem_of_getElem? (i := 26) rfl)), (hw _ (List.mem_of_getElem? (i := 27) rfl))⟩)
  obtain ⟨b3, eb3⟩ := exa_v h3
  have S3 := Sta.start eb3 (Or.inr ⟨(hw _ (List.mem_of_getElem? (i := 38) rfl)), (hw _ (List.mem_of_getElem? (i := 39) rfl))⟩)
  obtain ⟨n, o, h1, h2, h3, _, L, rfl, ⟨rfl, N, -⟩, hq⟩ := rm0 l s _ hw tables_1 i0 i1 i2 i3 i4 b0 b1 b2 b3 s.heap s.heap.size (Old.start s) S0 S1 S2 S3 p e ha hc hk s m _ below hf ((Spec.applies_iff_loose hf).mp happ).1 ⟨rfl, State.Warmed39.refl s, rfl⟩ trivial
  refine ⟨n, _, h1, h2, h3, hpost _ _ _ _ _ _ ⟨Cond.after_iff.mpr rfl, Cond.after_iff.mpr (eq_i res_at (Term.int_eval (1)) rfl), trivial⟩ ⟨hq.1, hq.2.1, hq.2.2.1, (hq.2.2.2.sift fun y hy => Or.inr (N y hy)).mono (by decide) (by decide)⟩⟩
theorem main_1_1 : Claimed_1_1 := comes_1 fun _ _ _ _ _ _ h hF => ⟨h.1, hF⟩
theorem main_1_2 : Claimed_1_2 := comes_1 fun _ _ _ _ _ _ h hF => ⟨h.2.1, hF⟩
end Jvm.Pilot.@@N@@
namespace Jvm.Pilot.@@N@@
open Jvm Jvm.ClassFile Sem Op Lib Jvm.Free Jvm.Stand Jvm.Pilot.@@N@@.Jvm.D
/-! MADE BY PROGRAM (witnessworld.py) out of the Statement's table words and the real class files: 24 classes; the members and pool entries that the words name. The judged class is class 1, her method 1. -/
namespace start1
open Jvm.ClassFile
def u (s : String) : CpInfo := .utf8 (stringToUtf16 s)
/-- a pool by its gaps: so many unusable entries, then the entry; so many at the end -/
def gap : Nat → List CpInfo → List CpInfo
  | 0, r => r
  | n + 1, r => .unusable :: gap n r
def poolList (es : List (Nat × CpInfo)) (last : Nat) : List CpInfo := es.foldr (fun e r => gap e.1 (e.2 :: r)) (gap last [])
def pool (es : List (Nat × CpInfo)) (last : Nat) : Array CpInfo := ⟨poolList es last⟩
def fileOf (pool : Array CpInfo) (this : Nat) (attrs : Array Attribute := #[]) (ms : Array MethodInfo := #[]) (fl : Nat := 33) (sup : Nat := 0) (ifs : Array Nat := #[]) (fds : Array FieldInfo := #[]) : ClassFile where
  minorVersion := 0
  majorVersion := 65
  constantPool := pool
  accessFlags := fl
  thisClass := this
  superClass := sup
  interfaces := ifs
  fields := fds
  methods := ms
  attributes := attrs
def plain (name : String) (sup : Option ClassId) : Class where
  name := name
  kind := .ordinary
  loader := none
  accessFlags := 33
  super := sup
  interfaces := #[]
  cf := none
  fields := #[]
  methods := #[]
  instanceTypes := #[]
  staticTypes := #[]
  resolved := #[]
  callSites := []
  init := .initialized
  statics := none
  mirror := none

def pool0 : Array CpInfo := pool [(5, u "<init>"), (0, u "()V"), (1, .class_ 10), (1, u "java/lang/Object")] 113

def k0c0 : Code := { maxStack := 0, maxLocals := 1, code := object_method_1_code, exceptionTable := #[], attributes := #[] }
def k0m0 : Method := { name := "<init>", desc := "()V", sig := { parameters := [], returnType := none }, accessFlags := 1, code := some k0c0 }
/-- java/lang/Object -/
def k0 : Class := { plain "java/lang/Object" none with
  accessFlags := 33
  interfaces := #[]
  cf := some (fileOf pool0 8 #[] #[{ accessFlags := 1, nameIndex := 5, descriptorIndex := 6, attributes := #[] }] 33 0 #[] #[])
  fields := #[]
  methods := #[k0m0]
  instanceTypes := #[]
  staticTypes := #[]
  resolved := Array.replicate 124 none
  statics := none }

def pool1 : Array CpInfo := pool [(2, .class_ 4), (1, u "java/lang/Object"), (0, u "<init>"), (0, u "()V"), (0, .methodref 8 9), (0, .class_ 10), (0, .nameAndType 11 12), (0, u "com/example/gridmatch/gridmatch/ByLastSliceBeforePinLaw"), (0, u "node"), (0, u "(JJ)Lcom/example/gridmatch/gridmatch/ByLastSlice;"), (0, .methodref 14 15), (0, .class_ 16), (0, .nameAndType 17 18), (0, u "com/example/gridmatch/gridmatch/ByLastSlice"), (0, u "before"), (0, u "(Lcom/example/gridmatch/gridmatch/ByLastSlice;)Z"), (0, .string 20), (0, u "r"), (0, .string 22), (0, u "c"), (0, .fieldref 24 25), (0, .class_ 26), (0, .nameAndType 27 28), (0, u "com/example/gridmatch/gridmatch/Side"), (0, u "BUY"), (0, u "Lcom/example/gridmatch/gridmatch/Side;"), (0, .methodref 30 31), (0, .class_ 32), (0, .nameAndType 33 34), (0, u "com/example/gridmatch/gridmatch/Order"), (0, u "iceberg"), (0, u "(Ljava/lang/String;Ljava/lang/String;Lcom/example/gridmatch/gridmatch/Side;JJJJ)Lcom/example/gridmatch/gridmatch/Order;"), (0, .fieldref 30 36), (0, .nameAndType 37 38), (0, u "sequence"), (0, u "J"), (0, .methodref 14 40), (0, .nameAndType 5 41), (0, u "(Lcom/example/gridmatch/gridmatch/Order;J)V"), (2, u "law"), (0, u "(JJJJI)Z")] 3

def k1m0 : Method := { name := "<init>", desc := "()V", sig := { parameters := [], returnType := none }, accessFlags := 1, code := none }
def k1c1 : Code := { maxStack := 4, maxLocals := 17, code := code, exceptionTable := #[], attributes := #[] }
def k1m1 : Method := { name := "law", desc := "(JJJJI)Z", sig := { parameters := [.long, .long, .long, .long, .int], returnType := some .boolean }, accessFlags := 9, code := some k1c1 }
def k1c2 : Code := { maxStack := 11, maxLocals := 5, code := method_3_code, exceptionTable := #[], attributes := #[] }
def k1m2 : Method := { name := "node", desc := "(JJ)Lcom/example/gridmatch/gridmatch/ByLastSlice;", sig := { parameters := [.long, .long], returnType := some (.object "com/example/gridmatch/gridmatch/ByLastSlice") }, accessFlags := 10, code := some k1c2 }
/-- com/example/gridmatch/gridmatch/ByLastSliceBeforePinLaw -/
def k1 : Class := { plain "com/example/gridmatch/gridmatch/ByLastSliceBeforePinLaw" (some 0) with
  accessFlags := 49
  interfaces := #[]
  cf := some (fileOf pool1 8 #[] #[{ accessFlags := 1, nameIndex := 5, descriptorIndex := 6, attributes := #[] }, { accessFlags := 9, nameIndex := 44, descriptorIndex := 45, attributes := #[] }, { accessFlags := 10, nameIndex := 11, descriptorIndex := 12, attributes := #[] }] 49 2 #[] #[])
  fields := #[]
  methods := #[k1m0, k1m1, k1m2]
  instanceTypes := #[]
  staticTypes := #[]
  resolved := Array.replicate 49 none
  statics := none }

def pool2 : Array CpInfo := pool [(1, .class_ 2), (0, u "java/io/Serializable"), (0, .class_ 4), (0, u "java/lang/Object")] 2

/-- java/io/Serializable -/
def k2 : Class := { plain "java/io/Serializable" (some 0) with
  accessFlags := 1537
  interfaces := #[]
  cf := some (fileOf pool2 1 #[] #[] 1537 3 #[] #[])
  fields := #[]
  methods := #[]
  instanceTypes := #[]
  staticTypes := #[]
  resolved := Array.replicate 7 none
  statics := none }

def pool3 : Array CpInfo := pool [(1, .class_ 2), (0, u "java/lang/Comparable"), (0, .class_ 4), (0, u "java/lang/Object")] 7

/-- java/lang/Comparable -/
def k3 : Class := { plain "java/lang/Comparable" (some 0) with
  accessFlags := 1537
  interfaces := #[]
  cf := some (fileOf pool3 1 #[] #[] 1537 3 #[] #[])
  fields := #[]
  methods := #[]
  instanceTypes := #[]
  staticTypes := #[]
  resolved := Array.replicate 12 none
  statics := none }

def pool4 : Array CpInfo := pool [(2, .class_ 4), (1, u "java/lang/CharSequence"), (42, .class_ 48), (0, u "java/lang/CharSequence$1CodePointIterator"), (10, .class_ 60), (0, u "java/lang/CharSequence$1CharIterator"), (5, .class_ 67), (0, u "java/lang/Object")] 63

/-- java/lang/CharSequence -/
def k4 : Class := { plain "java/lang/CharSequence" (some 0) with
  accessFlags := 1537
  interfaces := #[]
  cf := some (fileOf pool4 2 #[.nestMembers #[47, 59]] #[] 1537 66 #[] #[])
  fields := #[]
  methods := #[]
  instanceTypes := #[]
  staticTypes := #[]
  resolved := Array.replicate 131 none
  statics := none }

def pool5 : Array CpInfo := pool [(1, .class_ 2), (0, u "java/lang/constant/Constable"), (0, .class_ 4), (0, u "java/lang/Object")] 6

/-- java/lang/constant/Constable -/
def k5 : Class := { plain "java/lang/constant/Constable" (some 0) with
  accessFlags := 1537
  interfaces := #[]
  cf := some (fileOf pool5 1 #[] #[] 1537 3 #[] #[])
  fields := #[]
  methods := #[]
  instanceTypes := #[]
  staticTypes := #[]
  resolved := Array.replicate 11 none
  statics := none }

def pool6 : Array CpInfo := pool [(1, .class_ 2), (0, u "java/lang/constant/ConstantDesc"), (0, .class_ 4), (0, u "java/lang/Object")] 32

/-- java/lang/constant/ConstantDesc -/
def k6 : Class := { plain "java/lang/constant/ConstantDesc" (some 0) with
  accessFlags := 1537
  interfaces := #[]
  cf := some (fileOf pool6 1 #[] #[] 1537 3 #[] #[])
  fields := #[]
  methods := #[]
  instanceTypes := #[]
  staticTypes := #[]
  resolved := Array.replicate 37 none
  statics := none }

def pool7 : Array CpInfo := pool [(2, .class_ 4), (1, u "java/lang/Object"), (0, u "<init>"), (0, u "()V"), (3, .class_ 12), (1, u "java/lang/String"), (0, u "value"), (0, u "[B"), (2, u "coder"), (0, u "B"), (2, u "hash"), (0, u "I"), (2, u "hashIsZero"), (0, u "Z"), (13, u "COMPACT_STRINGS"), (534, .class_ 576), (0, u "java/lang/CharSequence"), (22, u "CASE_INSENSITIVE_ORDER"), (0, u "Ljava/util/Comparator;"), (500, u "serialPersistentFields"), (0, u "[Ljava/io/ObjectStreamField;"), (0, .class_ 1104), (0, u "java/lang/String$CaseInsensitiveComparator"), (1, .class_ 1107), (0, u "java/io/Serializable"), (0, .class_ 1109), (0, u "java/lang/Comparable"), (0, .class_ 1111), (0, u "java/lang/constant/Constable"), (0, .class_ 1113), (0, u "java/lang/constant/ConstantDesc"), (2, u "serialVersionUID"), (0, u "J"), (3, u "REPL"), (0, u "C"), (2, u "LATIN1"), (1, u "UTF16")] 323

def k7m0 : Method := { name := "<init>", desc := "()V", sig := { parameters := [], returnType := none }, accessFlags := 1, code := none }
/-- java/lang/String -/
def k7 : Class := { plain "java/lang/String" (some 0) with
  accessFlags := 49
  interfaces := #[2, 3, 4, 5, 6]
  cf := some (fileOf pool7 10 #[.nestMembers #[1103]] #[{ accessFlags := 1, nameIndex := 5, descriptorIndex := 6, attributes := #[] }] 49 2 #[1106, 1108, 575, 1110, 1112] #[{ accessFlags := 18, nameIndex := 13, descriptorIndex := 14, attributes := #[] }, { accessFlags := 18, nameIndex := 17, descriptorIndex := 18, attributes := #[] }, { accessFlags := 2, nameIndex := 21, descriptorIndex := 22, attributes := #[] }, { accessFlags := 2, nameIndex := 25, descriptorIndex := 26, attributes := #[] }, { accessFlags := 26, nameIndex := 1116, descriptorIndex := 1117, attributes := #[] }, { accessFlags := 24, nameIndex := 40, descriptorIndex := 26, attributes := #[] }, { accessFlags := 26, nameIndex := 1101, descriptorIndex := 1102, attributes := #[] }, { accessFlags := 26, nameIndex := 1121, descriptorIndex := 1122, attributes := #[] }, { accessFlags := 25, nameIndex := 599, descriptorIndex := 600, attributes := #[] }, { accessFlags := 24, nameIndex := 1125, descriptorIndex := 18, attributes := #[] }, { accessFlags := 24, nameIndex := 1127, descriptorIndex := 18, attributes := #[] }])
  fields := #[{ name := "value", type := (.array .byte), accessFlags := 18, slot := 0, constantValue := 0 }, { name := "coder", type := .byte, accessFlags := 18, slot := 1, constantValue := 0 }, { name := "hash", type := .int, accessFlags := 2, slot := 2, constantValue := 0 }, { name := "hashIsZero", type := .boolean, accessFlags := 2, slot := 3, constantValue := 0 }, { name := "serialVersionUID", type := .long, accessFlags := 26, slot := 0, constantValue := 0 }, { name := "COMPACT_STRINGS", type := .boolean, accessFlags := 24, slot := 1, constantValue := 0 }, { name := "serialPersistentFields", type := (.array (.object "java/io/ObjectStreamField")), accessFlags := 26, slot := 2, constantValue := 0 }, { name := "REPL", type := .char, accessFlags := 26, slot := 3, constantValue := 0 }, { name := "CASE_INSENSITIVE_ORDER", type := (.object "java/util/Comparator"), accessFlags := 25, slot := 4, constantValue := 0 }, { name := "LATIN1", type := .byte, accessFlags := 24, slot := 5, constantValue := 0 }, { name := "UTF16", type := .byte, accessFlags := 24, slot := 6, constantValue := 0 }]
  methods := #[k7m0]
  instanceTypes := #[(.array .byte), .byte, .int, .boolean]
  staticTypes := #[.long, .boolean, (.array (.object "java/io/ObjectStreamField")), .char, (.object "java/util/Comparator"), .byte, .byte]
  resolved := Array.replicate 1451 none
  statics := none }

def pool8 : Array CpInfo := pool [(2, .class_ 4), (1, u "java/lang/Enum"), (0, u "name"), (0, u "Ljava/lang/String;"), (2, u "ordinal"), (0, u "I"), (1, .class_ 14), (1, u "java/lang/Object"), (4, u "hash"), (86, .class_ 108), (1, u "java/lang/Enum$EnumDesc"), (2, .class_ 112), (0, u "java/lang/constant/Constable"), (0, .class_ 114), (0, u "java/lang/Comparable"), (0, .class_ 116), (0, u "java/io/Serializable")] 87

/-- java/lang/Enum -/
def k8 : Class := { plain "java/lang/Enum" (some 0) with
  accessFlags := 1057
  interfaces := #[5, 3, 2]
  cf := some (fileOf pool8 2 #[.nestMembers #[106]] #[] 1057 12 #[111, 113, 115] #[{ accessFlags := 18, nameIndex := 5, descriptorIndex := 6, attributes := #[] }, { accessFlags := 18, nameIndex := 9, descriptorIndex := 10, attributes := #[] }, { accessFlags := 2, nameIndex := 19, descriptorIndex := 10, attributes := #[] }])
  fields := #[{ name := "name", type := (.object "java/lang/String"), accessFlags := 18, slot := 0, constantValue := 0 }, { name := "ordinal", type := .int, accessFlags := 18, slot := 1, constantValue := 0 }, { name := "hash", type := .int, accessFlags := 2, slot := 2, constantValue := 0 }]
  methods := #[]
  instanceTypes := #[(.object "java/lang/String"), .int, .int]
  staticTypes := #[]
  resolved := Array.replicate 204 none
  statics := none }

def pool9 : Array CpInfo := pool [(1, .class_ 2), (0, u "com/example/gridmatch/gridmatch/Side"), (2, u "BUY"), (0, u "Lcom/example/gridmatch/gridmatch/Side;"), (2, u "SELL"), (2, u "$VALUES"), (0, u "[Lcom/example/gridmatch/gridmatch/Side;"), (6, .class_ 22), (1, u "java/lang/Enum")] 24

/-- com/example/gridmatch/gridmatch/Side -/
def k9 : Class := { plain "com/example/gridmatch/gridmatch/Side" (some 8) with
  accessFlags := 16432
  interfaces := #[]
  cf := some (fileOf pool9 1 #[] #[] 16432 20 #[] #[{ accessFlags := 16409, nameIndex := 5, descriptorIndex := 6, attributes := #[] }, { accessFlags := 16409, nameIndex := 9, descriptorIndex := 6, attributes := #[] }, { accessFlags := 4122, nameIndex := 12, descriptorIndex := 13, attributes := #[] }])
  fields := #[{ name := "BUY", type := (.object "com/example/gridmatch/gridmatch/Side"), accessFlags := 16409, slot := 0, constantValue := 0 }, { name := "SELL", type := (.object "com/example/gridmatch/gridmatch/Side"), accessFlags := 16409, slot := 1, constantValue := 0 }, { name := "$VALUES", type := (.array (.object "com/example/gridmatch/gridmatch/Side")), accessFlags := 4122, slot := 2, constantValue := 0 }]
  methods := #[]
  instanceTypes := #[(.object "java/lang/String"), .int, .int]
  staticTypes := #[(.object "com/example/gridmatch/gridmatch/Side"), (.object "com/example/gridmatch/gridmatch/Side"), (.array (.object "com/example/gridmatch/gridmatch/Side"))]
  resolved := Array.replicate 47 none
  statics := some 0 }

def pool10 : Array CpInfo := pool [(2, .class_ 4), (1, u "com/example/gridmatch/gridmatch/OrderType"), (1, u "Lcom/example/gridmatch/gridmatch/OrderType;"), (0, .methodref 8 9), (0, .class_ 10), (0, .nameAndType 11 12), (0, u "com/example/gridmatch/gridmatch/Order"), (0, u "<init>"), (0, u "(Ljava/lang/String;Ljava/lang/String;Lcom/example/gridmatch/gridmatch/Side;Lcom/example/gridmatch/gridmatch/OrderType;JJJJJLcom/example/gridmatch/gridmatch/Restriction;)V"), (0, .methodref 14 15), (0, .class_ 16), (0, .nameAndType 11 17), (0, u "java/lang/Object"), (0, u "()V"), (0, .string 19), (0, u ""), (0, .fieldref 8 21), (0, .nameAndType 22 23), (0, u "text"), (0, u "Ljava/lang/String;"), (0, .fieldref 25 26), (0, .class_ 27), (0, .nameAndType 28 29), (0, u "com/example/gridmatch/gridmatch/Validity"), (0, u "GFS"), (0, u "Lcom/example/gridmatch/gridmatch/Validity;"), (0, .fieldref 8 31), (0, .nameAndType 32 29), (0, u "validity"), (0, .fieldref 8 34), (0, .nameAndType 35 23), (0, u "reference"), (0, .fieldref 8 37), (0, .nameAndType 38 23), (0, u "contract"), (0, .fieldref 8 40), (0, .nameAndType 41 42), (0, u "side"), (0, u "Lcom/example/gridmatch/gridmatch/Side;"), (0, .fieldref 8 44), (0, .nameAndType 45 6), (0, u "type"), (0, .fieldref 8 47), (0, .nameAndType 48 49), (0, u "price"), (0, u "J"), (0, .fieldref 8 51), (0, .nameAndType 52 49), (0, u "remaining"), (0, .fieldref 8 54), (0, .nameAndType 55 49), (0, u "peak"), (0, .fieldref 8 57), (0, .nameAndType 58 49), (0, u "peakPriceDelta"), (0, .fieldref 8 60), (0, .nameAndType 61 49), (0, u "stopPrice"), (0, .fieldref 8 63), (0, .nameAndType 64 65), (0, u "restriction"), (0, u "Lcom/example/gridmatch/gridmatch/Restriction;"), (0, .fieldref 2 67), (0, .nameAndType 68 6), (0, u "ICB"), (0, .fieldref 70 71), (0, .class_ 72), (0, .nameAndType 73 65), (0, u "com/example/gridmatch/gridmatch/Restriction"), (0, u "NON"), (19, .fieldref 8 94), (0, .nameAndType 95 49), (0, u "shown"), (2, u "executed"), (2, u "validTo"), (0, u "Ljava/time/Instant;"), (41, u "()J"), (13, u "level"), (0, u "Lcom/example/gridmatch/gridmatch/OrderBook$Level;"), (3, u "(J)J"), (12, .methodref 8 177), (0, .nameAndType 178 144), (0, u "hiddenSlices"), (0, .methodref 180 181), (0, .class_ 182), (0, .nameAndType 183 184), (0, u "java/lang/Long"), (0, u "compareUnsigned"), (0, u "(JJ)I"), (10, u "ahead"), (0, u "Lcom/example/gridmatch/gridmatch/Order;"), (0, u "behind"), (0, u "sequence"), (0, u "hibernated"), (0, u "Z"), (0, u "arrival"), (3, u "iceberg"), (0, u "(Ljava/lang/String;Ljava/lang/String;Lcom/example/gridmatch/gridmatch/Side;JJJJ)Lcom/example/gridmatch/gridmatch/Order;"), (25, u "hiddenInSlices"), (0, u "lastHiddenSlice")] 12

def k10c0 : Code := { maxStack := 3, maxLocals := 16, code := prog_38_method_2_code, exceptionTable := #[], attributes := #[] }
def k10m0 : Method := { name := "<init>", desc := "(Ljava/lang/String;Ljava/lang/String;Lcom/example/gridmatch/gridmatch/Side;Lcom/example/gridmatch/gridmatch/OrderType;JJJJJLcom/example/gridmatch/gridmatch/Restriction;)V", sig := { parameters := [(.object "java/lang/String"), (.object "java/lang/String"), (.object "com/example/gridmatch/gridmatch/Side"), (.object "com/example/gridmatch/gridmatch/OrderType"), .long, .long, .long, .long, .long, (.object "com/example/gridmatch/gridmatch/Restriction")], returnType := none }, accessFlags := 2, code := some k10c0 }
def k10c1 : Code := { maxStack := 17, maxLocals := 11, code := prog_38_method_3_code, exceptionTable := #[], attributes := #[] }
def k10m1 : Method := { name := "iceberg", desc := "(Ljava/lang/String;Ljava/lang/String;Lcom/example/gridmatch/gridmatch/Side;JJJJ)Lcom/example/gridmatch/gridmatch/Order;", sig := { parameters := [(.object "java/lang/String"), (.object "java/lang/String"), (.object "com/example/gridmatch/gridmatch/Side"), .long, .long, .long, .long], returnType := some (.object "com/example/gridmatch/gridmatch/Order") }, accessFlags := 8, code := some k10c1 }
def k10c2 : Code := { maxStack := 4, maxLocals := 1, code := prog_38_method_28_code, exceptionTable := #[], attributes := #[] }
def k10m2 : Method := { name := "hiddenSlices", desc := "()J", sig := { parameters := [], returnType := some .long }, accessFlags := 0, code := some k10c2 }
def k10c3 : Code := { maxStack := 4, maxLocals := 3, code := prog_38_method_29_code, exceptionTable := #[], attributes := #[] }
def k10m3 : Method := { name := "hiddenInSlices", desc := "(J)J", sig := { parameters := [.long], returnType := some .long }, accessFlags := 0, code := some k10c3 }
def k10c4 : Code := { maxStack := 6, maxLocals := 1, code := prog_38_method_30_code, exceptionTable := #[], attributes := #[] }
def k10m4 : Method := { name := "lastHiddenSlice", desc := "()J", sig := { parameters := [], returnType := some .long }, accessFlags := 0, code := some k10c4 }
/-- com/example/gridmatch/gridmatch/Order -/
def k10 : Class := { plain "com/example/gridmatch/gridmatch/Order" (some 0) with
  accessFlags := 48
  interfaces := #[]
  cf := some (fileOf pool10 8 #[] #[{ accessFlags := 2, nameIndex := 11, descriptorIndex := 12, attributes := #[] }, { accessFlags := 8, nameIndex := 205, descriptorIndex := 206, attributes := #[] }, { accessFlags := 0, nameIndex := 178, descriptorIndex := 144, attributes := #[] }, { accessFlags := 0, nameIndex := 232, descriptorIndex := 163, attributes := #[] }, { accessFlags := 0, nameIndex := 233, descriptorIndex := 144, attributes := #[] }] 48 14 #[] #[{ accessFlags := 18, nameIndex := 35, descriptorIndex := 23, attributes := #[] }, { accessFlags := 18, nameIndex := 38, descriptorIndex := 23, attributes := #[] }, { accessFlags := 18, nameIndex := 41, descriptorIndex := 42, attributes := #[] }, { accessFlags := 2, nameIndex := 55, descriptorIndex := 49, attributes := #[] }, { accessFlags := 18, nameIndex := 58, descriptorIndex := 49, attributes := #[] }, { accessFlags := 18, nameIndex := 61, descriptorIndex := 49, attributes := #[] }, { accessFlags := 2, nameIndex := 45, descriptorIndex := 6, attributes := #[] }, { accessFlags := 2, nameIndex := 64, descriptorIndex := 65, attributes := #[] }, { accessFlags := 2, nameIndex := 48, descriptorIndex := 49, attributes := #[] }, { accessFlags := 2, nameIndex := 52, descriptorIndex := 49, attributes := #[] }, { accessFlags := 2, nameIndex := 95, descriptorIndex := 49, attributes := #[] }, { accessFlags := 2, nameIndex := 98, descriptorIndex := 49, attributes := #[] }, { accessFlags := 2, nameIndex := 22, descriptorIndex := 23, attributes := #[] }, { accessFlags := 2, nameIndex := 32, descriptorIndex := 29, attributes := #[] }, { accessFlags := 2, nameIndex := 101, descriptorIndex := 102, attributes := #[] }, { accessFlags := 0, nameIndex := 158, descriptorIndex := 159, attributes := #[] }, { accessFlags := 0, nameIndex := 195, descriptorIndex := 196, attributes := #[] }, { accessFlags := 0, nameIndex := 197, descriptorIndex := 196, attributes := #[] }, { accessFlags := 0, nameIndex := 198, descriptorIndex := 49, attributes := #[] }, { accessFlags := 0, nameIndex := 199, descriptorIndex := 200, attributes := #[] }, { accessFlags := 0, nameIndex := 201, descriptorIndex := 49, attributes := #[] }])
  fields := #[{ name := "reference", type := (.object "java/lang/String"), accessFlags := 18, slot := 0, constantValue := 0 }, { name := "contract", type := (.object "java/lang/String"), accessFlags := 18, slot := 1, constantValue := 0 }, { name := "side", type := (.object "com/example/gridmatch/gridmatch/Side"), accessFlags := 18, slot := 2, constantValue := 0 }, { name := "peak", type := .long, accessFlags := 2, slot := 3, constantValue := 0 }, { name := "peakPriceDelta", type := .long, accessFlags := 18, slot := 4, constantValue := 0 }, { name := "stopPrice", type := .long, accessFlags := 18, slot := 5, constantValue := 0 }, { name := "type", type := (.object "com/example/gridmatch/gridmatch/OrderType"), accessFlags := 2, slot := 6, constantValue := 0 }, { name := "restriction", type := (.object "com/example/gridmatch/gridmatch/Restriction"), accessFlags := 2, slot := 7, constantValue := 0 }, { name := "price", type := .long, accessFlags := 2, slot := 8, constantValue := 0 }, { name := "remaining", type := .long, accessFlags := 2, slot := 9, constantValue := 0 }, { name := "shown", type := .long, accessFlags := 2, slot := 10, constantValue := 0 }, { name := "executed", type := .long, accessFlags := 2, slot := 11, constantValue := 0 }, { name := "text", type := (.object "java/lang/String"), accessFlags := 2, slot := 12, constantValue := 0 }, { name := "validity", type := (.object "com/example/gridmatch/gridmatch/Validity"), accessFlags := 2, slot := 13, constantValue := 0 }, { name := "validTo", type := (.object "java/time/Instant"), accessFlags := 2, slot := 14, constantValue := 0 }, { name := "level", type := (.object "com/example/gridmatch/gridmatch/OrderBook$Level"), accessFlags := 0, slot := 15, constantValue := 0 }, { name := "ahead", type := (.object "com/example/gridmatch/gridmatch/Order"), accessFlags := 0, slot := 16, constantValue := 0 }, { name := "behind", type := (.object "com/example/gridmatch/gridmatch/Order"), accessFlags := 0, slot := 17, constantValue := 0 }, { name := "sequence", type := .long, accessFlags := 0, slot := 18, constantValue := 0 }, { name := "hibernated", type := .boolean, accessFlags := 0, slot := 19, constantValue := 0 }, { name := "arrival", type := .long, accessFlags := 0, slot := 20, constantValue := 0 }]
  methods := #[k10m0, k10m1, k10m2, k10m3, k10m4]
  instanceTypes := #[(.object "java/lang/String"), (.object "java/lang/String"), (.object "com/example/gridmatch/gridmatch/Side"), .long, .long, .long, (.object "com/example/gridmatch/gridmatch/OrderType"), (.object "com/example/gridmatch/gridmatch/Restriction"), .long, .long, .long, .long, (.object "java/lang/String"), (.object "com/example/gridmatch/gridmatch/Validity"), (.object "java/time/Instant"), (.object "com/example/gridmatch/gridmatch/OrderBook$Level"), (.object "com/example/gridmatch/gridmatch/Order"), (.object "com/example/gridmatch/gridmatch/Order"), .long, .boolean, .long]
  staticTypes := #[]
  resolved := Array.replicate 246 none
  statics := none }

def pool11 : Array CpInfo := pool [(1, .class_ 2), (0, u "com/example/gridmatch/gridmatch/OrderType"), (2, u "REG"), (0, u "Lcom/example/gridmatch/gridmatch/OrderType;"), (2, u "ICB"), (2, u "STOP"), (2, u "$VALUES"), (0, u "[Lcom/example/gridmatch/gridmatch/OrderType;"), (6, .class_ 25), (1, u "java/lang/Enum")] 34

/-- com/example/gridmatch/gridmatch/OrderType -/
def k11 : Class := { plain "com/example/gridmatch/gridmatch/OrderType" (some 8) with
  accessFlags := 16432
  interfaces := #[]
  cf := some (fileOf pool11 1 #[] #[] 16432 23 #[] #[{ accessFlags := 16409, nameIndex := 5, descriptorIndex := 6, attributes := #[] }, { accessFlags := 16409, nameIndex := 9, descriptorIndex := 6, attributes := #[] }, { accessFlags := 16409, nameIndex := 12, descriptorIndex := 6, attributes := #[] }, { accessFlags := 4122, nameIndex := 15, descriptorIndex := 16, attributes := #[] }])
  fields := #[{ name := "REG", type := (.object "com/example/gridmatch/gridmatch/OrderType"), accessFlags := 16409, slot := 0, constantValue := 0 }, { name := "ICB", type := (.object "com/example/gridmatch/gridmatch/OrderType"), accessFlags := 16409, slot := 1, constantValue := 0 }, { name := "STOP", type := (.object "com/example/gridmatch/gridmatch/OrderType"), accessFlags := 16409, slot := 2, constantValue := 0 }, { name := "$VALUES", type := (.array (.object "com/example/gridmatch/gridmatch/OrderType")), accessFlags := 4122, slot := 3, constantValue := 0 }]
  methods := #[]
  instanceTypes := #[(.object "java/lang/String"), .int, .int]
  staticTypes := #[(.object "com/example/gridmatch/gridmatch/OrderType"), (.object "com/example/gridmatch/gridmatch/OrderType"), (.object "com/example/gridmatch/gridmatch/OrderType"), (.array (.object "com/example/gridmatch/gridmatch/OrderType"))]
  resolved := Array.replicate 60 none
  statics := some 1 }

def pool12 : Array CpInfo := pool [(1, .class_ 2), (0, u "com/example/gridmatch/gridmatch/Restriction"), (2, u "NON"), (0, u "Lcom/example/gridmatch/gridmatch/Restriction;"), (2, u "IOC"), (2, u "FOK"), (2, u "AON"), (2, u "$VALUES"), (0, u "[Lcom/example/gridmatch/gridmatch/Restriction;"), (6, .class_ 28), (1, u "java/lang/Enum"), (8, u "unmatched"), (0, u "Lcom/example/gridmatch/gridmatch/Deletion;")] 37

/-- com/example/gridmatch/gridmatch/Restriction -/
def k12 : Class := { plain "com/example/gridmatch/gridmatch/Restriction" (some 8) with
  accessFlags := 16432
  interfaces := #[]
  cf := some (fileOf pool12 1 #[] #[] 16432 26 #[] #[{ accessFlags := 16409, nameIndex := 5, descriptorIndex := 6, attributes := #[] }, { accessFlags := 16409, nameIndex := 9, descriptorIndex := 6, attributes := #[] }, { accessFlags := 16409, nameIndex := 12, descriptorIndex := 6, attributes := #[] }, { accessFlags := 16409, nameIndex := 15, descriptorIndex := 6, attributes := #[] }, { accessFlags := 18, nameIndex := 37, descriptorIndex := 38, attributes := #[] }, { accessFlags := 4122, nameIndex := 18, descriptorIndex := 19, attributes := #[] }])
  fields := #[{ name := "NON", type := (.object "com/example/gridmatch/gridmatch/Restriction"), accessFlags := 16409, slot := 0, constantValue := 0 }, { name := "IOC", type := (.object "com/example/gridmatch/gridmatch/Restriction"), accessFlags := 16409, slot := 1, constantValue := 0 }, { name := "FOK", type := (.object "com/example/gridmatch/gridmatch/Restriction"), accessFlags := 16409, slot := 2, constantValue := 0 }, { name := "AON", type := (.object "com/example/gridmatch/gridmatch/Restriction"), accessFlags := 16409, slot := 3, constantValue := 0 }, { name := "unmatched", type := (.object "com/example/gridmatch/gridmatch/Deletion"), accessFlags := 18, slot := 3, constantValue := 0 }, { name := "$VALUES", type := (.array (.object "com/example/gridmatch/gridmatch/Restriction")), accessFlags := 4122, slot := 4, constantValue := 0 }]
  methods := #[]
  instanceTypes := #[(.object "java/lang/String"), .int, .int, (.object "com/example/gridmatch/gridmatch/Deletion")]
  staticTypes := #[(.object "com/example/gridmatch/gridmatch/Restriction"), (.object "com/example/gridmatch/gridmatch/Restriction"), (.object "com/example/gridmatch/gridmatch/Restriction"), (.object "com/example/gridmatch/gridmatch/Restriction"), (.array (.object "com/example/gridmatch/gridmatch/Restriction"))]
  resolved := Array.replicate 76 none
  statics := some 2 }

def pool13 : Array CpInfo := pool [(1, .class_ 2), (0, u "com/example/gridmatch/gridmatch/Validity"), (2, u "GFS"), (0, u "Lcom/example/gridmatch/gridmatch/Validity;"), (2, u "GTD"), (2, u "$VALUES"), (0, u "[Lcom/example/gridmatch/gridmatch/Validity;"), (6, .class_ 22), (1, u "java/lang/Enum"), (8, u "lapse"), (0, u "Lcom/example/gridmatch/gridmatch/Deletion;")] 30

/-- com/example/gridmatch/gridmatch/Validity -/
def k13 : Class := { plain "com/example/gridmatch/gridmatch/Validity" (some 8) with
  accessFlags := 16432
  interfaces := #[]
  cf := some (fileOf pool13 1 #[] #[] 16432 20 #[] #[{ accessFlags := 16409, nameIndex := 5, descriptorIndex := 6, attributes := #[] }, { accessFlags := 16409, nameIndex := 9, descriptorIndex := 6, attributes := #[] }, { accessFlags := 18, nameIndex := 31, descriptorIndex := 32, attributes := #[] }, { accessFlags := 4122, nameIndex := 12, descriptorIndex := 13, attributes := #[] }])
  fields := #[{ name := "GFS", type := (.object "com/example/gridmatch/gridmatch/Validity"), accessFlags := 16409, slot := 0, constantValue := 0 }, { name := "GTD", type := (.object "com/example/gridmatch/gridmatch/Validity"), accessFlags := 16409, slot := 1, constantValue := 0 }, { name := "lapse", type := (.object "com/example/gridmatch/gridmatch/Deletion"), accessFlags := 18, slot := 3, constantValue := 0 }, { name := "$VALUES", type := (.array (.object "com/example/gridmatch/gridmatch/Validity")), accessFlags := 4122, slot := 2, constantValue := 0 }]
  methods := #[]
  instanceTypes := #[(.object "java/lang/String"), .int, .int, (.object "com/example/gridmatch/gridmatch/Deletion")]
  staticTypes := #[(.object "com/example/gridmatch/gridmatch/Validity"), (.object "com/example/gridmatch/gridmatch/Validity"), (.array (.object "com/example/gridmatch/gridmatch/Validity"))]
  resolved := Array.replicate 63 none
  statics := some 3 }

def pool14 : Array CpInfo := pool [(1, .methodref 2 3), (0, .class_ 4), (0, .nameAndType 5 6), (0, u "java/lang/Object"), (0, u "<init>"), (0, u "()V"), (1, .class_ 10), (1, u "com/example/gridmatch/gridmatch/BalancedNode"), (0, u "left"), (0, u "Lcom/example/gridmatch/gridmatch/BalancedNode;"), (2, u "height"), (3, u "right"), (22, u "I")] 22

def k14c0 : Code := { maxStack := 1, maxLocals := 1, code := prog_1_method_1_code, exceptionTable := #[], attributes := #[] }
def k14m0 : Method := { name := "<init>", desc := "()V", sig := { parameters := [], returnType := none }, accessFlags := 0, code := some k14c0 }
/-- com/example/gridmatch/gridmatch/BalancedNode -/
def k14 : Class := { plain "com/example/gridmatch/gridmatch/BalancedNode" (some 0) with
  accessFlags := 1056
  interfaces := #[]
  cf := some (fileOf pool14 8 #[] #[{ accessFlags := 0, nameIndex := 5, descriptorIndex := 6, attributes := #[] }] 1056 2 #[] #[{ accessFlags := 0, nameIndex := 11, descriptorIndex := 12, attributes := #[] }, { accessFlags := 0, nameIndex := 19, descriptorIndex := 12, attributes := #[] }, { accessFlags := 2, nameIndex := 15, descriptorIndex := 42, attributes := #[] }])
  fields := #[{ name := "left", type := (.object "com/example/gridmatch/gridmatch/BalancedNode"), accessFlags := 0, slot := 0, constantValue := 0 }, { name := "right", type := (.object "com/example/gridmatch/gridmatch/BalancedNode"), accessFlags := 0, slot := 1, constantValue := 0 }, { name := "height", type := .int, accessFlags := 2, slot := 2, constantValue := 0 }]
  methods := #[k14m0]
  instanceTypes := #[(.object "com/example/gridmatch/gridmatch/BalancedNode"), (.object "com/example/gridmatch/gridmatch/BalancedNode"), .int]
  staticTypes := #[]
  resolved := Array.replicate 65 none
  statics := none }

def pool15 : Array CpInfo := pool [(1, .methodref 2 3), (0, .class_ 4), (0, .nameAndType 5 6), (0, u "com/example/gridmatch/gridmatch/BalancedNode"), (0, u "<init>"), (0, u "()V"), (1, .class_ 10), (1, u "com/example/gridmatch/gridmatch/OrderedNode")] 35

def k15c0 : Code := { maxStack := 1, maxLocals := 1, code := prog_55_method_1_code, exceptionTable := #[], attributes := #[] }
def k15m0 : Method := { name := "<init>", desc := "()V", sig := { parameters := [], returnType := none }, accessFlags := 0, code := some k15c0 }
/-- com/example/gridmatch/gridmatch/OrderedNode -/
def k15 : Class := { plain "com/example/gridmatch/gridmatch/OrderedNode" (some 14) with
  accessFlags := 1056
  interfaces := #[]
  cf := some (fileOf pool15 8 #[] #[{ accessFlags := 0, nameIndex := 5, descriptorIndex := 6, attributes := #[] }] 1056 2 #[] #[])
  fields := #[]
  methods := #[k15m0]
  instanceTypes := #[(.object "com/example/gridmatch/gridmatch/BalancedNode"), (.object "com/example/gridmatch/gridmatch/BalancedNode"), .int]
  staticTypes := #[]
  resolved := Array.replicate 46 none
  statics := none }

def pool16 : Array CpInfo := pool [(1, .methodref 2 3), (0, .class_ 4), (0, .nameAndType 5 6), (0, u "com/example/gridmatch/gridmatch/OrderedNode"), (0, u "<init>"), (0, u "()V"), (0, .methodref 8 9), (0, .class_ 10), (0, .nameAndType 11 12), (0, u "com/example/gridmatch/gridmatch/Order"), (0, u "hiddenSlices"), (0, u "()J"), (0, .fieldref 14 15), (0, .class_ 16), (0, .nameAndType 17 18), (0, u "com/example/gridmatch/gridmatch/ByLastSlice"), (0, u "lastPlace"), (0, u "J"), (0, .fieldref 8 20), (0, .nameAndType 21 18), (0, u "sequence"), (0, .fieldref 14 20), (0, .methodref 8 24), (0, .nameAndType 25 12), (0, u "lastHiddenSlice"), (0, .fieldref 14 27), (0, .nameAndType 28 18), (0, u "last"), (0, .methodref 8 30), (0, .nameAndType 31 32), (0, u "hiddenInSlices"), (0, u "(J)J"), (0, .fieldref 14 34), (0, .nameAndType 35 18), (0, u "more"), (0, .fieldref 14 37), (0, .nameAndType 38 18), (0, u "hidden"), (24, .class_ 65), (1, u "com/example/gridmatch/gridmatch/ByLastSlice$Split"), (23, u "lasts"), (2, u "mores"), (2, u "hiddens"), (6, u "before"), (0, u "(Lcom/example/gridmatch/gridmatch/ByLastSlice;)Z"), (0, u "(Lcom/example/gridmatch/gridmatch/Order;J)V")] 18

def k16c0 : Code := { maxStack := 5, maxLocals := 6, code := prog_2_method_1_code, exceptionTable := #[], attributes := #[] }
def k16m0 : Method := { name := "<init>", desc := "(Lcom/example/gridmatch/gridmatch/Order;J)V", sig := { parameters := [(.object "com/example/gridmatch/gridmatch/Order"), .long], returnType := none }, accessFlags := 0, code := some k16c0 }
def k16c1 : Code := { maxStack := 4, maxLocals := 2, code := prog_2_method_3_code, exceptionTable := #[], attributes := #[] }
def k16m1 : Method := { name := "before", desc := "(Lcom/example/gridmatch/gridmatch/ByLastSlice;)Z", sig := { parameters := [(.object "com/example/gridmatch/gridmatch/ByLastSlice")], returnType := some .boolean }, accessFlags := 0, code := some k16c1 }
/-- com/example/gridmatch/gridmatch/ByLastSlice -/
def k16 : Class := { plain "com/example/gridmatch/gridmatch/ByLastSlice" (some 15) with
  accessFlags := 48
  interfaces := #[]
  cf := some (fileOf pool16 14 #[.nestMembers #[63]] #[{ accessFlags := 0, nameIndex := 5, descriptorIndex := 104, attributes := #[] }, { accessFlags := 0, nameIndex := 102, descriptorIndex := 103, attributes := #[] }] 48 2 #[] #[{ accessFlags := 18, nameIndex := 17, descriptorIndex := 18, attributes := #[] }, { accessFlags := 18, nameIndex := 21, descriptorIndex := 18, attributes := #[] }, { accessFlags := 18, nameIndex := 28, descriptorIndex := 18, attributes := #[] }, { accessFlags := 18, nameIndex := 35, descriptorIndex := 18, attributes := #[] }, { accessFlags := 18, nameIndex := 38, descriptorIndex := 18, attributes := #[] }, { accessFlags := 2, nameIndex := 89, descriptorIndex := 18, attributes := #[] }, { accessFlags := 2, nameIndex := 92, descriptorIndex := 18, attributes := #[] }, { accessFlags := 2, nameIndex := 95, descriptorIndex := 18, attributes := #[] }])
  fields := #[{ name := "lastPlace", type := .long, accessFlags := 18, slot := 3, constantValue := 0 }, { name := "sequence", type := .long, accessFlags := 18, slot := 4, constantValue := 0 }, { name := "last", type := .long, accessFlags := 18, slot := 5, constantValue := 0 }, { name := "more", type := .long, accessFlags := 18, slot := 6, constantValue := 0 }, { name := "hidden", type := .long, accessFlags := 18, slot := 7, constantValue := 0 }, { name := "lasts", type := .long, accessFlags := 2, slot := 8, constantValue := 0 }, { name := "mores", type := .long, accessFlags := 2, slot := 9, constantValue := 0 }, { name := "hiddens", type := .long, accessFlags := 2, slot := 10, constantValue := 0 }]
  methods := #[k16m0, k16m1]
  instanceTypes := #[(.object "com/example/gridmatch/gridmatch/BalancedNode"), (.object "com/example/gridmatch/gridmatch/BalancedNode"), .int, .long, .long, .long, .long, .long, .long, .long, .long]
  staticTypes := #[]
  resolved := Array.replicate 123 none
  statics := none }

def pool17 : Array CpInfo := pool [(2, .class_ 4), (1, u "java/lang/Object"), (0, u "<init>"), (0, u "()V"), (1, .class_ 10), (1, u "java/lang/Number"), (2, .class_ 14), (0, u "java/io/Serializable"), (0, u "serialVersionUID"), (0, u "J")] 20

def k17m0 : Method := { name := "<init>", desc := "()V", sig := { parameters := [], returnType := none }, accessFlags := 1, code := none }
/-- java/lang/Number -/
def k17 : Class := { plain "java/lang/Number" (some 0) with
  accessFlags := 1057
  interfaces := #[2]
  cf := some (fileOf pool17 8 #[] #[{ accessFlags := 1, nameIndex := 5, descriptorIndex := 6, attributes := #[] }] 1057 2 #[13] #[{ accessFlags := 26, nameIndex := 15, descriptorIndex := 16, attributes := #[] }])
  fields := #[{ name := "serialVersionUID", type := .long, accessFlags := 26, slot := 0, constantValue := 0 }]
  methods := #[k17m0]
  instanceTypes := #[]
  staticTypes := #[.long]
  resolved := Array.replicate 37 none
  statics := none }

def pool18 : Array CpInfo := pool [(1, .class_ 2), (0, u "java/lang/Long"), (165, .long 9223372036854775808), (66, .class_ 237), (1, u "java/lang/Long$LongCache"), (33, .class_ 272), (0, u "java/lang/Number"), (2, u "value"), (0, u "J"), (25, .methodref 1 303), (0, .nameAndType 304 305), (0, u "compare"), (0, u "(JJ)I"), (55, u "TYPE"), (0, u "Ljava/lang/Class;"), (0, .class_ 364), (0, u "java/lang/Comparable"), (0, .class_ 366), (0, u "java/lang/constant/Constable"), (0, .class_ 368), (0, u "java/lang/constant/ConstantDesc"), (0, u "MIN_VALUE"), (1, u "MAX_VALUE"), (4, u "SIZE"), (0, u "I"), (1, u "BYTES"), (1, u "serialVersionUID"), (87, u "compareUnsigned")] 54

def k18c0 : Code := { maxStack := 4, maxLocals := 4, code := jdk_35_method_42_code, exceptionTable := #[], attributes := #[] }
def k18m0 : Method := { name := "compare", desc := "(JJ)I", sig := { parameters := [.long, .long], returnType := some .int }, accessFlags := 9, code := some k18c0 }
def k18c1 : Code := { maxStack := 6, maxLocals := 4, code := jdk_35_method_43_code, exceptionTable := #[], attributes := #[] }
def k18m1 : Method := { name := "compareUnsigned", desc := "(JJ)I", sig := { parameters := [.long, .long], returnType := some .int }, accessFlags := 9, code := some k18c1 }
/-- java/lang/Long -/
def k18 : Class := { plain "java/lang/Long" (some 17) with
  accessFlags := 49
  interfaces := #[3, 5, 6]
  cf := some (fileOf pool18 1 #[.nestMembers #[235]] #[{ accessFlags := 9, nameIndex := 304, descriptorIndex := 305, attributes := #[] }, { accessFlags := 9, nameIndex := 469, descriptorIndex := 305, attributes := #[] }] 49 271 #[363, 365, 367] #[{ accessFlags := 25, nameIndex := 369, descriptorIndex := 276, attributes := #[] }, { accessFlags := 25, nameIndex := 371, descriptorIndex := 276, attributes := #[] }, { accessFlags := 25, nameIndex := 361, descriptorIndex := 362, attributes := #[] }, { accessFlags := 18, nameIndex := 275, descriptorIndex := 276, attributes := #[] }, { accessFlags := 25, nameIndex := 376, descriptorIndex := 377, attributes := #[] }, { accessFlags := 25, nameIndex := 379, descriptorIndex := 377, attributes := #[] }, { accessFlags := 26, nameIndex := 381, descriptorIndex := 276, attributes := #[] }])
  fields := #[{ name := "MIN_VALUE", type := .long, accessFlags := 25, slot := 0, constantValue := 0 }, { name := "MAX_VALUE", type := .long, accessFlags := 25, slot := 1, constantValue := 0 }, { name := "TYPE", type := (.object "java/lang/Class"), accessFlags := 25, slot := 2, constantValue := 0 }, { name := "value", type := .long, accessFlags := 18, slot := 0, constantValue := 0 }, { name := "SIZE", type := .int, accessFlags := 25, slot := 3, constantValue := 0 }, { name := "BYTES", type := .int, accessFlags := 25, slot := 4, constantValue := 0 }, { name := "serialVersionUID", type := .long, accessFlags := 26, slot := 5, constantValue := 0 }]
  methods := #[k18m0, k18m1]
  instanceTypes := #[.long]
  staticTypes := #[.long, .long, (.object "java/lang/Class"), .int, .int, .long]
  resolved := Array.replicate 524 none
  statics := none }

def pool19 : Array CpInfo := pool [(1, u "java/lang/Cloneable"), (0, .class_ 1), (0, u "java/lang/Object"), (0, .class_ 3)] 3

/-- java/lang/Cloneable -/
def k19 : Class := { plain "java/lang/Cloneable" (some 0) with
  accessFlags := 1537
  interfaces := #[]
  cf := some (fileOf pool19 2 #[] #[] 1537 4 #[] #[])
  fields := #[]
  methods := #[]
  instanceTypes := #[]
  staticTypes := #[]
  resolved := Array.replicate 8 none
  statics := none }

/-- the primitive byte -/
def k20 : Class := { plain "byte" none with kind := .primitive 'B', accessFlags := 0x411 }
/-- [B -/
def k21 : Class := { plain "[B" (some 0) with kind := .array 20 .byte, interfaces := #[19, 2], accessFlags := 1041 }

/-- the primitive int -/
def k22 : Class := { plain "int" none with kind := .primitive 'I', accessFlags := 0x411 }
/-- [I -/
def k23 : Class := { plain "[I" (some 0) with kind := .array 22 .int, interfaces := #[19, 2], accessFlags := 1041 }

def heap : Heap := #[{ cls := 9, slots := #[.ref 4, .null, .null], vm := .statics 9 },
  { cls := 11, slots := #[.null, .ref 5, .null, .null], vm := .statics 11 },
  { cls := 12, slots := #[.ref 6, .null, .null, .null, .null], vm := .statics 12 },
  { cls := 13, slots := #[.ref 7, .null, .null], vm := .statics 13 },
  { cls := 9, slots := #[.null, .int 0, .int 0], vm := .none },
  { cls := 11, slots := #[.null, .int 0, .int 0], vm := .none },
  { cls := 12, slots := #[.null, .int 0, .int 0, .null], vm := .none },
  { cls := 13, slots := #[.null, .int 0, .int 0, .null], vm := .none }]
def classes : Array Class := #[k0, k1, k2, k3, k4, k5, k6, k7, k8, k9, k10, k11, k12, k13, k14, k15, k16, k17, k18, k19, k20, k21, k22, k23]
def interned : List (Array UInt16 × Addr) := []
def slotsUsed : Nat := 29
def theMethod : MethodId := ⟨1, 1⟩
def args0 : Array Value := #[.long 5, .long 9, .long 3, .long 4, .int 1]
def aboutOver (below : List Frame) : State where
  vm := { classes := classes, interned := interned.toArray }
  heap := heap
  slotsUsed := slotsUsed
  threads := #[{ frames := .invoking theMethod args0 :: below }]
def below0 : List Frame := [.native { method := ⟨0, 0⟩, args := #[] }]
def about1 : State := aboutOver below0
def p0 : Program := .bare "" "" ""
def e0 : Env := launch0.env 0 0 0
theorem w_frames : about1.frames = Frame.invoking theMethod args0 :: below0 := rfl
set_option maxRecDepth 65536 in
theorem w_args : argsFit about1.vm theMethod args0 = true := by decide +kernel
set_option maxRecDepth 65536 in
theorem w_heap : heapFits about1 = true := by decide +kernel
set_option maxRecDepth 65536 in
theorem w_runnable : about1.curStatus? = some .runnable := by decide +kernel
set_option maxRecDepth 65536 in
theorem w_alone : about1.alone = true := by decide +kernel
set_option maxRecDepth 65536 in
theorem w_named : about1.methodNamed? x = some theMethod := by decide +kernel
set_option maxRecDepth 65536 in
theorem w_hears : about1.hears theMethod below0 = true := by decide +kernel
set_option maxRecDepth 65536 in
theorem w_ripe : about1.ripe theMethod args0 below0 = true := by decide +kernel
theorem w_running : about1.status = .running := rfl
set_option maxRecDepth 65536 in
theorem w_room : about1.hasRoom e0.platform room_1 = true :=
  launch0.hasRoom_least _ room_1 (by decide +kernel) (by decide +kernel) (by decide +kernel) (by decide +kernel) (by decide +kernel) (by decide +kernel)
theorem allAtoms_all (ts : List Jvm.Cond) (a : Array Jvm.Value) (st : Jvm.State) : (allAtoms ts).before a st = ts.all (fun c => c.before a st) := by
  induction ts with
  | nil => rfl
  | cons c t ih =>
    show (Jvm.Cond.and c (allAtoms t)).before a st = _
    rw [Jvm.Cond.before_and, ih, List.all_cons]
def words1 : List Jvm.Cond := Jvm.Cond.code x code maxLocals ret :: tables_1
/-- a 'code' word, met by the world's own term for the bytes: nothing is compared byte by byte -/
theorem code_word {y : MethodName} {bytes : ByteArray} {mx : Nat} {rt : Option FieldType} {a : Array Value} {s : State} {m : MethodId} {meth : Method} {c : Code} (h1 : s.methodNamed? y = some m) (h2 : s.vm.method? m = some meth) (h3 : meth.code = some c) (h4 : c.code = bytes)
    (h5 : (c.maxLocals == mx && c.exceptionTable.isEmpty && decide (c.maxStack ≤ mostOperands) && decide (meth.sig.returnType = rt) && !meth.locks && decide (parseMethodDescriptor y.desc = some meth.sig)) = true) : (Jvm.Cond.code y bytes mx rt).before a s = true := by
  simp only [Bool.and_eq_true, beq_iff_eq, Bool.not_eq_true', decide_eq_true_eq] at h5
  obtain ⟨⟨⟨⟨⟨g1, g2⟩, g3⟩, g4⟩, g5⟩, g6⟩ := h5
  simp [Cond.before, Cond.holds, Cond.value, h1, h2, h3, h4, g1, g2, g3, g4, g5, g6]
def isCode : Jvm.Cond → Bool
  | .code _ _ _ _ => true
  | _ => false
theorem all_split {L : List Jvm.Cond} {P : Jvm.Cond → Bool} (h1 : L.all (fun c => isCode c || P c) = true) (h2 : ∀ c ∈ L.filter isCode, P c = true) : L.all P = true := by
  refine List.all_eq_true.mpr fun c hc => ?_
  have h := List.all_eq_true.mp h1 c hc
  rcases Bool.eq_false_or_eq_true (isCode c) with hi | hi
  · exact h2 c (List.mem_filter.mpr ⟨hc, hi⟩)
  · simpa [hi] using h
set_option maxRecDepth 65536 in
theorem w_c0 : (Jvm.Cond.code x code maxLocals ret).before args0 about1 = true := code_word (m := ⟨1, 1⟩) (meth := k1m1) (c := k1c1) (by decide +kernel) rfl rfl rfl (by decide +kernel)
set_option maxRecDepth 65536 in
theorem w_c1 : (Jvm.Cond.code ({ cls := "com/example/gridmatch/gridmatch/ByLastSliceBeforePinLaw", name := "node", desc := "(JJ)Lcom/example/gridmatch/gridmatch/ByLastSlice;" } : Jvm.MethodName) method_3_code (5 : Nat) (Option.some (Jvm.ClassFile.FieldType.object "com/example/gridmatch/gridmatch/ByLastSlice"))).before args0 about1 = true := code_word (m := ⟨1, 2⟩) (meth := k1m2) (c := k1c2) (by decide +kernel) rfl rfl rfl (by decide +kernel)
set_option maxRecDepth 65536 in
theorem w_c2 : (Jvm.Cond.code ({ cls := "com/example/gridmatch/gridmatch/Order", name := "iceberg", desc := "(Ljava/lang/String;Ljava/lang/String;Lcom/example/gridmatch/gridmatch/Side;JJJJ)Lcom/example/gridmatch/gridmatch/Order;" } : Jvm.MethodName) prog_38_method_3_code (11 : Nat) (Option.some (Jvm.ClassFile.FieldType.object "com/example/gridmatch/gridmatch/Order"))).before args0 about1 = true := code_word (m := ⟨10, 1⟩) (meth := k10m1) (c := k10c1) (by decide +kernel) rfl rfl rfl (by decide +kernel)
set_option maxRecDepth 65536 in
theorem w_c3 : (Jvm.Cond.code ({ cls := "com/example/gridmatch/gridmatch/Order", name := "<init>", desc := "(Ljava/lang/String;Ljava/lang/String;Lcom/example/gridmatch/gridmatch/Side;Lcom/example/gridmatch/gridmatch/OrderType;JJJJJLcom/example/gridmatch/gridmatch/Restriction;)V" } : Jvm.MethodName) prog_38_method_2_code (16 : Nat) (Option.none : Option Jvm.ClassFile.FieldType)).before args0 about1 = true := code_word (m := ⟨10, 0⟩) (meth := k10m0) (c := k10c0) (by decide +kernel) rfl rfl rfl (by decide +kernel)
set_option maxRecDepth 65536 in
theorem w_c4 : (Jvm.Cond.code ({ cls := "java/lang/Object", name := "<init>", desc := "()V" } : Jvm.MethodName) object_method_1_code (1 : Nat) (Option.none : Option Jvm.ClassFile.FieldType)).before args0 about1 = true := code_word (m := ⟨0, 0⟩) (meth := k0m0) (c := k0c0) (by decide +kernel) rfl rfl rfl (by decide +kernel)
set_option maxRecDepth 65536 in
theorem w_c5 : (Jvm.Cond.code ({ cls := "com/example/gridmatch/gridmatch/ByLastSlice", name := "<init>", desc := "(Lcom/example/gridmatch/gridmatch/Order;J)V" } : Jvm.MethodName) prog_2_method_1_code (6 : Nat) (Option.none : Option Jvm.ClassFile.FieldType)).before args0 about1 = true := code_word (m := ⟨16, 0⟩) (meth := k16m0) (c := k16c0) (by decide +kernel) rfl rfl rfl (by decide +kernel)
set_option maxRecDepth 65536 in
theorem w_c6 : (Jvm.Cond.code ({ cls := "com/example/gridmatch/gridmatch/OrderedNode", name := "<init>", desc := "()V" } : Jvm.MethodName) prog_55_method_1_code (1 : Nat) (Option.none : Option Jvm.ClassFile.FieldType)).before args0 about1 = true := code_word (m := ⟨15, 0⟩) (meth := k15m0) (c := k15c0) (by decide +kernel) rfl rfl rfl (by decide +kernel)
set_option maxRecDepth 65536 in
theorem w_c7 : (Jvm.Cond.code ({ cls := "com/example/gridmatch/gridmatch/BalancedNode", name := "<init>", desc := "()V" } : Jvm.MethodName) prog_1_method_1_code (1 : Nat) (Option.none : Option Jvm.ClassFile.FieldType)).before args0 about1 = true := code_word (m := ⟨14, 0⟩) (meth := k14m0) (c := k14c0) (by decide +kernel) rfl rfl rfl (by decide +kernel)
set_option maxRecDepth 65536 in
theorem w_c8 : (Jvm.Cond.code ({ cls := "com/example/gridmatch/gridmatch/Order", name := "hiddenSlices", desc := "()J" } : Jvm.MethodName) prog_38_method_28_code (1 : Nat) (Option.some Jvm.ClassFile.FieldType.long)).before args0 about1 = true := code_word (m := ⟨10, 2⟩) (meth := k10m2) (c := k10c2) (by decide +kernel) rfl rfl rfl (by decide +kernel)
set_option maxRecDepth 65536 in
theorem w_c9 : (Jvm.Cond.code ({ cls := "com/example/gridmatch/gridmatch/Order", name := "lastHiddenSlice", desc := "()J" } : Jvm.MethodName) prog_38_method_30_code (1 : Nat) (Option.some Jvm.ClassFile.FieldType.long)).before args0 about1 = true := code_word (m := ⟨10, 4⟩) (meth := k10m4) (c := k10c4) (by decide +kernel) rfl rfl rfl (by decide +kernel)
set_option maxRecDepth 65536 in
theorem w_c10 : (Jvm.Cond.code ({ cls := "com/example/gridmatch/gridmatch/Order", name := "hiddenInSlices", desc := "(J)J" } : Jvm.MethodName) prog_38_method_29_code (3 : Nat) (Option.some Jvm.ClassFile.FieldType.long)).before args0 about1 = true := code_word (m := ⟨10, 3⟩) (meth := k10m3) (c := k10c3) (by decide +kernel) rfl rfl rfl (by decide +kernel)
set_option maxRecDepth 65536 in
theorem w_c11 : (Jvm.Cond.code ({ cls := "java/lang/Long", name := "compareUnsigned", desc := "(JJ)I" } : Jvm.MethodName) jdk_35_method_43_code (4 : Nat) (Option.some Jvm.ClassFile.FieldType.int)).before args0 about1 = true := code_word (m := ⟨18, 1⟩) (meth := k18m1) (c := k18c1) (by decide +kernel) rfl rfl rfl (by decide +kernel)
set_option maxRecDepth 65536 in
theorem w_c12 : (Jvm.Cond.code ({ cls := "java/lang/Long", name := "compare", desc := "(JJ)I" } : Jvm.MethodName) jdk_35_method_42_code (4 : Nat) (Option.some Jvm.ClassFile.FieldType.int)).before args0 about1 = true := code_word (m := ⟨18, 0⟩) (meth := k18m0) (c := k18c0) (by decide +kernel) rfl rfl rfl (by decide +kernel)
set_option maxRecDepth 65536 in
theorem w_c13 : (Jvm.Cond.code ({ cls := "com/example/gridmatch/gridmatch/ByLastSlice", name := "before", desc := "(Lcom/example/gridmatch/gridmatch/ByLastSlice;)Z" } : Jvm.MethodName) prog_2_method_3_code (2 : Nat) (Option.some Jvm.ClassFile.FieldType.boolean)).before args0 about1 = true := code_word (m := ⟨16, 1⟩) (meth := k16m1) (c := k16c1) (by decide +kernel) rfl rfl rfl (by decide +kernel)
def codes1 : List Jvm.Cond := [Jvm.Cond.code x code maxLocals ret, Jvm.Cond.code ({ cls := "com/example/gridmatch/gridmatch/ByLastSliceBeforePinLaw", name := "node", desc := "(JJ)Lcom/example/gridmatch/gridmatch/ByLastSlice;" } : Jvm.MethodName) method_3_code (5 : Nat) (Option.some (Jvm.ClassFile.FieldType.object "com/example/gridmatch/gridmatch/ByLastSlice")), Jvm.Cond.code ({ cls := "com/example/gridmatch/gridmatch/Order", name := "iceberg", desc := "(Ljava/lang/String;Ljava/lang/String;Lcom/example/gridmatch/gridmatch/Side;JJJJ)Lcom/example/gridmatch/gridmatch/Order;" } : Jvm.MethodName) prog_38_method_3_code (11 : Nat) (Option.some (Jvm.ClassFile.FieldType.object "com/example/gridmatch/gridmatch/Order")), Jvm.Cond.code ({ cls := "com/example/gridmatch/gridmatch/Order", name := "<init>", desc := "(Ljava/lang/String;Ljava/lang/String;Lcom/example/gridmatch/gridmatch/Side;Lcom/example/gridmatch/gridmatch/OrderType;JJJJJLcom/example/gridmatch/gridmatch/Restriction;)V" } : Jvm.MethodName) prog_38_method_2_code (16 : Nat) (Option.none : Option Jvm.ClassFile.FieldType), Jvm.Cond.code ({ cls := "java/lang/Object", name := "<init>", desc := "()V" } : Jvm.MethodName) object_method_1_code (1 : Nat) (Option.none : Option Jvm.ClassFile.FieldType), Jvm.Cond.code ({ cls := "com/example/gridmatch/gridmatch/ByLastSlice", name := "<init>", desc := "(Lcom/example/gridmatch/gridmatch/Order;J)V" } : Jvm.MethodName) prog_2_method_1_code (6 : Nat) (Option.none : Option Jvm.ClassFile.FieldType), Jvm.Cond.code ({ cls := "com/example/gridmatch/gridmatch/OrderedNode", name := "<init>", desc := "()V" } : Jvm.MethodName) prog_55_method_1_code (1 : Nat) (Option.none : Option Jvm.ClassFile.FieldType), Jvm.Cond.code ({ cls := "com/example/gridmatch/gridmatch/BalancedNode", name := "<init>", desc := "()V" } : Jvm.MethodName) prog_1_method_1_code (1 : Nat) (Option.none : Option Jvm.ClassFile.FieldType), Jvm.Cond.code ({ cls := "com/example/gridmatch/gridmatch/Order", name := "hiddenSlices", desc := "()J" } : Jvm.MethodName) prog_38_method_28_code (1 : Nat) (Option.some Jvm.ClassFile.FieldType.long), Jvm.Cond.code ({ cls := "com/example/gridmatch/gridmatch/Order", name := "lastHiddenSlice", desc := "()J" } : Jvm.MethodName) prog_38_method_30_code (1 : Nat) (Option.some Jvm.ClassFile.FieldType.long), Jvm.Cond.code ({ cls := "com/example/gridmatch/gridmatch/Order", name := "hiddenInSlices", desc := "(J)J" } : Jvm.MethodName) prog_38_method_29_code (3 : Nat) (Option.some Jvm.ClassFile.FieldType.long), Jvm.Cond.code ({ cls := "java/lang/Long", name := "compareUnsigned", desc := "(JJ)I" } : Jvm.MethodName) jdk_35_method_43_code (4 : Nat) (Option.some Jvm.ClassFile.FieldType.int), Jvm.Cond.code ({ cls := "java/lang/Long", name := "compare", desc := "(JJ)I" } : Jvm.MethodName) jdk_35_method_42_code (4 : Nat) (Option.some Jvm.ClassFile.FieldType.int), Jvm.Cond.code ({ cls := "com/example/gridmatch/gridmatch/ByLastSlice", name := "before", desc := "(Lcom/example/gridmatch/gridmatch/ByLastSlice;)Z" } : Jvm.MethodName) prog_2_method_3_code (2 : Nat) (Option.some Jvm.ClassFile.FieldType.boolean)]
set_option maxRecDepth 65536 in
theorem codes_eq : words1.filter isCode = codes1 := rfl
theorem w_codes : ∀ c ∈ words1.filter isCode, c.before args0 about1 = true := by
  rw [codes_eq]
  intro c hc
  simp only [codes1, List.mem_cons, List.not_mem_nil, or_false] at hc
  rcases hc with rfl | rfl | rfl | rfl | rfl | rfl | rfl | rfl | rfl | rfl | rfl | rfl | rfl | rfl
  · exact w_c0
  · exact w_c1
  · exact w_c2
  · exact w_c3
  · exact w_c4
  · exact w_c5
  · exact w_c6
  · exact w_c7
  · exact w_c8
  · exact w_c9
  · exact w_c10
  · exact w_c11
  · exact w_c12
  · exact w_c13
set_option maxRecDepth 65536 in
theorem w_t1 : (words1.take 24).all (fun c => isCode c || c.before args0 about1) = true := by decide +kernel
set_option maxRecDepth 65536 in
theorem w_t2 : ((words1.drop 24).take 24).all (fun c => isCode c || c.before args0 about1) = true := by decide +kernel
set_option maxRecDepth 65536 in
theorem w_t3 : (((words1.drop 24).drop 24).take 24).all (fun c => isCode c || c.before args0 about1) = true := by decide +kernel
set_option maxRecDepth 65536 in
theorem w_t4 : ((((words1.drop 24).drop 24).drop 24).take 24).all (fun c => isCode c || c.before args0 about1) = true := by decide +kernel
set_option maxRecDepth 65536 in
theorem w_t5 : (((((words1.drop 24).drop 24).drop 24).drop 24).take 24).all (fun c => isCode c || c.before args0 about1) = true := by decide +kernel
set_option maxRecDepth 65536 in
theorem w_t6 : (((((words1.drop 24).drop 24).drop 24).drop 24).drop 24).all (fun c => isCode c || c.before args0 about1) = true := by decide +kernel
theorem w_tables : (allAtoms (Jvm.Cond.code x code maxLocals ret :: tables_1)).before args0 about1 = true := by
  rw [allAtoms_all]
  show words1.all (fun c => c.before args0 about1) = true
  refine all_split ?_ w_codes
  rw [← List.take_append_drop 24 words1, List.all_append, w_t1, ← List.take_append_drop 24 (words1.drop 24), List.all_append, w_t2, ← List.take_append_drop 24 ((words1.drop 24).drop 24), List.all_append, w_t3, ← List.take_append_drop 24 (((words1.drop 24).drop 24).drop 24), List.all_append, w_t4, ← List.take_append_drop 24 ((((words1.drop 24).drop 24).drop 24).drop 24), List.all_append, w_t5, w_t6]
  rfl
set_option maxRecDepth 65536 in
theorem w_case : (Jvm.Cond.and given_1 narrow_1).before args0 about1 = true := by decide +kernel
theorem w_applies : (headSpec (Jvm.Cond.code x code maxLocals ret :: tables_1) room_1).applies x e0.platform about1 = true :=
  (Spec.applies_iff w_frames).mpr ⟨w_running, w_runnable, w_alone, w_named, w_hears, w_ripe, w_room, w_tables⟩
theorem atStart : AtStart classFile x code maxLocals ret World_1 tables_1 room_1 Calls_1 rest_1 Pre_1 launch0 p0 e0 about1 theMethod args0 below0 :=
  ⟨lists_1, trivial, launch0.admits_env _ _ _, launch0.least_env, fairChoices_fair.cas, fairChoices_fair.clock, w_frames, w_args, w_heap, w_applies, trivial, trivial, w_case⟩
end start1
theorem witness_1 : WitnessClaimed_1 := ⟨start1.p0, start1.e0, start1.about1, start1.theMethod, start1.args0, start1.below0, start1.atStart⟩
end Jvm.Pilot.@@N@@
