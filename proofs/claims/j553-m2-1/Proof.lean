import JvmDerived
import JvmDerived.Pilot.@@N@@Statement
import JvmDerived.Pilot.@@N@@Code
set_option linter.unusedVariables false
set_option linter.unusedSimpArgs false
namespace Jvm.RoadKit
open Sem ClassFile Op Lib Jvm.Stand Jvm.Free Jvm.LawKit
section New
variable {p : Program} {l : Launch} {e : Env} {R : Room} {s : State} {m : MethodId} {args : Array Value} {below : List Frame} {meth : Method} {c : Code} {T : State} {locs : List Loc} {cells slots : Nat}
theorem retI (X : Stand p l e R s m args below meth c T locs cells slots) (hx : p.tables.exec = Jvm.exec) {pc : Nat} {Ls : Array Slot} {z : Int32} {rest : List Value} (hret : meth.sig.returnType = some .int) (hd : decode c.code pc = .ok (.ireturn, 1)) {fs : List Frame}
    (hl : ∀ (f : JFrame) (acts : List Action), f.method = m → f.locked = none → f.entered = [] → (doReturn e (T.setTop f) acts (some (.int z))).1 = T.setFrames fs) : Steps p.tables e below (T.setTop (mkF m pc Ls (.int z :: rest))) (T.setFrames fs) := by
  have hm' : T.vm.method? m = some meth := X.method'
  have hn : narrow .int (.int z) = .int z := rfl
  show Steps p.tables e below (T.setTop { method := m, pc := pc, locals := Ls, stack := _ :: rest, locked := none }) _
  jvm_step X.here [X.here.top, hx, hd, hm', hret, hn]
  first | (intro acts; rw [hl _ acts rfl rfl rfl]) | rw [hl _ _ rfl rfl rfl]
  exact Steps.refl _
end New
end Jvm.RoadKit

namespace Jvm.Pilot.@@N@@
open Jvm Jvm.ClassFile Sem Op Lib Jvm.Free Jvm.Stand Jvm.LawKit Jvm.RoadKit Bundle Jvm.Pilot.@@N@@.Jvm.D
def own_Go (tb : Tables) (e : Env) (below : List Frame) (K : State → Outcome → Prop) (S : State) : Prop := ∃ t o, Steps tb e below S t ∧ K t o
theorem own_Go.by {tb : Tables} {e : Env} {below : List Frame} {K : State → Outcome → Prop} {S S' : State} (h : ∀ t, Steps tb e below S' t → Steps tb e below S t) (g : own_Go tb e below K S') : own_Go tb e below K S := by
  obtain ⟨t, o, a, b⟩ := g
  exact ⟨t, o, h t a, b⟩
theorem own_Go.fin {tb : Tables} {e : Env} {below : List Frame} {K : State → Outcome → Prop} {S t : State} {o : Outcome} (h : Steps tb e below S t) (k : K t o) : own_Go tb e below K S := ⟨t, o, h, k⟩
theorem own_merge {α : Type} {P : α → Prop} {F : α → State} {tb : Tables} {e : Env} {below : List Frame} {K : State → Outcome → Prop} {S : State} (g : ∀ v, P v → own_Go tb e below K (F v)) (h : (∀ v, P v → own_Go tb e below K (F v)) → own_Go tb e below K S) : own_Go tb e below K S := h g
theorem own_old_le {Z : State} {n0 : Nat} {h : Heap} (O : Old Z n0 h) : n0 ≤ h.size := O.1 ▸ O.2.1
theorem own_rew {s t : State} {o : Outcome} {L : List Loc} {k n k' n' : Nat} (h : ReturnedEndW s o t L k n) (hk : k ≤ k') (hn : n ≤ n') : ReturnedEndW s o t L k' n' := ⟨h.1, h.2.1, h.2.2.1, h.2.2.2.mono hk hn⟩
theorem own_privsel {s : State} {a1 a2 args : Array Value} {y : MethodName} {n : Nat} (wi : (Jvm.Cond.instantiable y.cls n).before a1 s = true) (wp : (Jvm.Cond.privateMethod y).before a2 s = true) (wm : (Jvm.Cond.instanceMethod y).before args s = true) (hy : y.cls ≠ "java/lang/invoke/MethodHandle" ∧ y.cls ≠ "java/lang/invoke/VarHandle") : (Jvm.Cond.selects y.cls y y).before args s = true := by
  obtain ⟨c, k, h1, h2, -, h4, -⟩ := Cond.instantiable_spec wi
  simp only [Bool.or_eq_false_iff] at h4
  exact selects_self_of_private h1 h2 h4.1 (Cond.privateMethod_at wp) wm hy
theorem own_arr_keep {Z : State} {h h' : Heap} {a : Addr} {c : Cell} {ty : FieldType} {ws : List Addr} (A : Arr Z h a c ty) (K : Keep h h' ws) (q : a ∉ ws) : Arr Z h' a c ty := ⟨K.2.1 a c A.1 q, A.2⟩
abbrev sI (x : Int32) : Slot := .val (.int x)
abbrev sR (x : Addr) : Slot := .val (.ref x)
abbrev sJ (x : Int64) : Slot := .val (.long x)

theorem own_wS : ∀ d ∈ Bundle.stringAtoms, d ∈ tables_1 := by decide +kernel
theorem own_fitB {x : Int32} (h : x.toInt8.toInt32 = x) : fits .byte (.int x) = true := h ▸ fits_nar_byte x
theorem own_b8 (x : Int32) : (x.toInt8.toInt32).toInt8.toInt32 = x.toInt8.toInt32 := by simp
def own_cp (vs : List Value) (n : Nat) : List Value := (List.range n).map fun i => vs.getD i (.int (0 : Int32))
theorem own_cat {α : Type} (d us : List α) (n : Nat) : d.take 0 ++ us ++ d.drop (0 + n) = us ++ d.drop n := by simp
def own_hd (cd : Int32) : List Value := ((((((List.replicate 256 (.int (0 : Int32))).set 0 (.int (69 : Int32))).set 1 (.int (66 : Int32))).set 2 (.int (66 : Int32))).set 3 (.int (84 : Int32))).set 4 (.int (3 : Int32))).set 5 (.int cd)
theorem own_fldInt {args : Array Value} {s : State} {t : Term} {C n dd : String} {a : Addr} {v : Int32} (ht : t.eval args s none [] s = some (.ref a)) (h : (Jvm.Cond.eq (Term.field t C n dd) (Term.int v)).value args s none s [] = some true) : Fld s s.heap a C n dd (.int v) := by
  refine Fld.start ?_
  obtain ⟨x, y, e1, e2, k1, k2⟩ := cmp_v (Or.inl h)
  obtain rfl : Value.int v = y := Option.some.inj e2
  obtain ⟨z, rfl⟩ := k2
  have q := gotT (Cond.eq_ints e1 e2) h
  subst q
  rw [← fld_at ht]
  exact e1
theorem own_el {args : Array Value} {s : State} {t : Term} {a : Addr} {cl : Cell} {k v : Int32} (ht : t.eval args s none [] s = some (.ref a)) (hc : s.heap[a]? = some cl) (h : (Jvm.Cond.eq (Term.elem t (Term.int k)) (Term.int v)).value args s none s [] = some true) : cl.slots[k.toNatClampNeg]? = some (.int v) := by
  obtain ⟨x, y, e1, e2, k1, k2⟩ := cmp_v (Or.inl h)
  obtain rfl : Value.int v = y := Option.some.inj e2
  obtain ⟨z, rfl⟩ := k2
  have q := gotT (Cond.eq_ints e1 e2) h
  subst q
  exact (elem_in e1 ht rfl hc).2
theorem own_modn {x y z : Int32} (d : Int) (hy : y.toInt = d) (hd : 0 < d) (h : ((x &&& (2147483647 : Int32)) % y) = z) : 0 ≤ z.toInt ∧ z.toInt < d := by
  have q := c_and x (2147483647 : Int32) (by decide)
  have r := (c_irem (x &&& (2147483647 : Int32)) y d hy).1 q.1
  rw [h] at r
  rw [r]
  exact ⟨Int.emod_nonneg _ (by omega), Int.emod_lt_of_pos _ hd⟩
theorem own_lit {z : Int32} {k : Int32} (h : z.toInt = k.toInt) : z = k := Int32.toInt_inj.mp h

theorem d3_0 : decode jdk_31_method_11_code 0 = .ok (.aload_n 0, 1) := by decide +kernel
theorem d3_1 : decode jdk_31_method_11_code 1 = .ok (.ifnonnull 12, 3) := by decide +kernel
theorem d3_13 : decode jdk_31_method_11_code 13 = .ok (.aload_n 0, 1) := by decide +kernel
theorem d3_14 : decode jdk_31_method_11_code 14 = .ok (.areturn, 1) := by decide +kernel
theorem own_pn_java_util_Objects : plainName "java/util/Objects" = true := by first | (simp [plainName, overriddenIn]; done) | decide +kernel
theorem own_ef_3 (m : MethodId) (a1 : Addr) (a2 : Addr) : entryFrame m #[(Value.ref a1), (Value.ref a2)] 2 = mkF m 0 #[sR a1, sR a2] [] := by first | (simp [entryFrame, mkF, argsToLocals, Value.category]; done) | rfl
def Q3 (Z : State) (a1 : Addr) (a2 : Addr) (h0 : Heap) (n0 : Nat) (v : Option Value) (h : Heap) (L : List Loc) : Prop := v = some (Value.ref a1) ∧ Fr n0 L ∧ h = h0
set_option maxRecDepth 65536 in
set_option maxHeartbeats 40000000 in
theorem rm3 (l : Launch) (Z : State) (a0 : Array Value) (hw : ∀ d ∈ tables_1, d.before a0 Z = true) (ws : List Jvm.Cond) (a1 : Addr) (a2 : Addr) (h0 : Heap) (n0 : Nat) (O0 : Old Z n0 h0) :
    MetFree l (⟨"java/util/Objects", "requireNonNull", "(Ljava/lang/Object;Ljava/lang/String;)Ljava/lang/Object;"⟩ : MethodName) (head1 (Jvm.Cond.code (⟨"java/util/Objects", "requireNonNull", "(Ljava/lang/Object;Ljava/lang/String;)Ljava/lang/Object;"⟩ : MethodName) jdk_31_method_11_code 2 (some (.object "java/lang/Object")) :: ws) ({ frames := 0, cells := 0, slots := 0, locals := 0 } : Room)) (fun a U => a = #[(Value.ref a1), (Value.ref a2)] ∧ Z.Warmed39 U.vm ∧ U.heap = h0) (fun _ _ _ _ _ => True) (fun _ U o U' => ∃ v L, o = .returned v ∧ Q3 Z a1 a2 h0 n0 v U'.heap L ∧ FrameEnd U o U' L ({ frames := 0, cells := 0, slots := 0, locals := 0 } : Room).cells ({ frames := 0, cells := 0, slots := 0, locals := 0 } : Room).slots) := by
  refine MetFree.of_bodySF (plainFor_of_name own_pn_java_util_Objects) hisR ?_
  intro p e s m args below meth c s₁ Bd hml0 hP hK
  obtain ⟨rfl, hZ, hh⟩ := hP
  have hx := Bd.exec
  have hby := Bd.bytes
  have hml : c.maxLocals = 2 := hml0
  have hown : s.vm.findClass "java/util/Objects" = some m.cls := findClass_of_methodNamed Bd.named
  have hnm := (name_of_methodNamed Bd.named Bd.method).1
  have X0 : Stand p l e ({ frames := 0, cells := 0, slots := 0, locals := 0 } : Room) s m #[(Value.ref a1), (Value.ref a2)] below meth c s₁ [] 0 0 := Stand.of_body Bd
  have e0 : s₁.heap = h0 := by rw [← hh, Bd.state]; rfl
  have N0 := Fr.nil n0
  have K0 : Keep h0 h0 [] := Keep.refl h0 []
  show own_Go _ _ _ _ (s₁.setTop (entryFrame m #[(Value.ref a1), (Value.ref a2)] 2))
  refine own_Go.by (fun tq kq => castTop (own_ef_3 m a1 a2) kq) ?_
  show own_Go _ _ _ _ (s₁.setTop (mkF m 0 #[sR a1, sR a2] []))
  refine own_Go.by (fun tq kq => XS.aloadN X0.here hx rfl (hb hby d3_0) rfl rfl kq) ?_
  show own_Go _ _ _ _ (s₁.setTop (mkF m 1 #[sR a1, sR a2] [(Value.ref a1)]))
  refine own_Go.by (fun tq kq => XS.ifnonnullYes X0.here hx rfl (pc0 := 1) (pc' := 13) rfl (hb hby d3_1) rfl (by decide) (by decide) kq) ?_
  refine own_Go.by (fun tq kq => XS.aloadN X0.here hx rfl (hb hby d3_13) rfl rfl kq) ?_
  show own_Go _ _ _ _ (s₁.setTop (mkF m 14 #[sR a1, sR a2] [(Value.ref a1)]))
  obtain ⟨fs, hr, hrun, hended, hW, hsame⟩ := X0.leave (v := some (Value.ref a1)) (fun h => by rw [Bd.returns] at h; cases h)
  refine own_Go.fin (retOut X0 hx Bd.returns rfl (Or.inr (Or.inr (Or.inr (Or.inr ⟨rfl, rfl, rfl⟩)))) (hb hby d3_14) hr) ⟨hrun, hended, _, _, rfl, ?_, ⟨_, rfl⟩, hW, hsame.mono (by decide) (by decide)⟩
  show Q3 Z a1 a2 h0 n0 _ s₁.heap _
  rw [e0]
  exact ⟨rfl, N0, rfl⟩

theorem d7_0 : decode prog_26_method_4_code 0 = .ok (.aload_n 0, 1) := by decide +kernel
theorem d7_1 : decode prog_26_method_4_code 1 = .ok (.getfield 32, 3) := by decide +kernel
theorem d7_4 : decode prog_26_method_4_code 4 = .ok (.ireturn, 1) := by decide +kernel
theorem own_pn_com_example_ebbtide_ebbtide_core_SummaryKind : plainName "com/example/ebbtide/ebbtide/core/SummaryKind" = true := by first | (simp [plainName, overriddenIn]; done) | decide +kernel
theorem own_ef_7 (m : MethodId) (a1 : Addr) : entryFrame m #[(Value.ref a1)] 1 = mkF m 0 #[sR a1] [] := by first | (simp [entryFrame, mkF, argsToLocals, Value.category]; done) | rfl
def Q7 (Z : State) (a1 : Addr) (p2 : Int32) (h0 : Heap) (n0 : Nat) (v : Option Value) (h : Heap) (L : List Loc) : Prop := v = some (Value.int p2) ∧ Fr n0 L ∧ h = h0
set_option maxRecDepth 65536 in
set_option maxHeartbeats 40000000 in
theorem rm7 (l : Launch) (Z : State) (a0 : Array Value) (hw : ∀ d ∈ tables_1, d.before a0 Z = true) (ws : List Jvm.Cond) (a1 : Addr) (p2 : Int32) (h0 : Heap) (n0 : Nat) (O0 : Old Z n0 h0) (H0 : Fld Z h0 a1 "com/example/ebbtide/ebbtide/core/SummaryKind" "code" "I" (Value.int p2)) :
    MetFree l (⟨"com/example/ebbtide/ebbtide/core/SummaryKind", "code", "()I"⟩ : MethodName) (head1 (Jvm.Cond.code (⟨"com/example/ebbtide/ebbtide/core/SummaryKind", "code", "()I"⟩ : MethodName) prog_26_method_4_code 1 (some .int) :: ws) ({ frames := 0, cells := 0, slots := 0, locals := 0 } : Room)) (fun a U => a = #[(Value.ref a1)] ∧ Z.Warmed39 U.vm ∧ U.heap = h0) (fun _ _ _ _ _ => True) (fun _ U o U' => ∃ v L, o = .returned v ∧ Q7 Z a1 p2 h0 n0 v U'.heap L ∧ FrameEnd U o U' L ({ frames := 0, cells := 0, slots := 0, locals := 0 } : Room).cells ({ frames := 0, cells := 0, slots := 0, locals := 0 } : Room).slots) := by
  refine MetFree.of_bodySF (plainFor_of_name own_pn_com_example_ebbtide_ebbtide_core_SummaryKind) hisR ?_
  intro p e s m args below meth c s₁ Bd hml0 hP hK
  obtain ⟨rfl, hZ, hh⟩ := hP
  have hx := Bd.exec
  have hby := Bd.bytes
  have hml : c.maxLocals = 1 := hml0
  have hown : s.vm.findClass "com/example/ebbtide/ebbtide/core/SummaryKind" = some m.cls := findClass_of_methodNamed Bd.named
  have hnm := (name_of_methodNamed Bd.named Bd.method).1
  have X0 : Stand p l e ({ frames := 0, cells := 0, slots := 0, locals := 0 } : Room) s m #[(Value.ref a1)] below meth c s₁ [] 0 0 := Stand.of_body Bd
  have e0 : s₁.heap = h0 := by rw [← hh, Bd.state]; rfl
  have N0 := Fr.nil n0
  have K0 : Keep h0 h0 [] := Keep.refl h0 []
  show own_Go _ _ _ _ (s₁.setTop (entryFrame m #[(Value.ref a1)] 1))
  refine own_Go.by (fun tq kq => castTop (own_ef_7 m a1) kq) ?_
  show own_Go _ _ _ _ (s₁.setTop (mkF m 0 #[sR a1] []))
  refine own_Go.by (fun tq kq => XS.aloadN X0.here hx rfl (hb hby d7_0) rfl rfl kq) ?_
  show own_Go _ _ _ _ (s₁.setTop (mkF m 1 #[sR a1] [(Value.ref a1)]))
  obtain ⟨T1, X1, e1, st1⟩ := getF X0 hx hZ hown (host := "") (Or.inl (hw _ (List.mem_of_getElem? (i := 53) rfl))) Via.refl e0 H0 (g := (mkF m 1 #[sR a1] [(Value.ref a1)])) rfl rfl (hb hby d7_1)
  refine own_Go.by st1 ?_
  show own_Go _ _ _ _ (T1.setTop (mkF m 4 #[sR a1] [(Value.int p2)]))
  obtain ⟨fs, hr, hrun, hended, hW, hsame⟩ := X1.leave (v := some (Value.int p2)) (fun h => by rw [Bd.returns] at h; cases h)
  refine own_Go.fin (retI X1 hx Bd.returns (hb hby d7_4) hr) ⟨hrun, hended, _, _, rfl, ?_, ⟨_, rfl⟩, hW, hsame.mono (by decide) (by decide)⟩
  show Q7 Z a1 p2 h0 n0 _ T1.heap _
  rw [e1]
  exact ⟨rfl, N0, rfl⟩

theorem d5_0 : decode prog_10_method_10_code 0 = .ok (.aload_n 0, 1) := by decide +kernel
theorem d5_1 : decode prog_10_method_10_code 1 = .ok (.getfield 79, 3) := by decide +kernel
theorem d5_4 : decode prog_10_method_10_code 4 = .ok (.i2l, 1) := by decide +kernel
theorem d5_5 : decode prog_10_method_10_code 5 = .ok (.iload_n 1, 1) := by decide +kernel
theorem d5_6 : decode prog_10_method_10_code 6 = .ok (.i2l, 1) := by decide +kernel
theorem d5_7 : decode prog_10_method_10_code 7 = .ok (.ladd, 1) := by decide +kernel
theorem d5_8 : decode prog_10_method_10_code 8 = .ok (.lstore_n 2, 1) := by decide +kernel
theorem d5_9 : decode prog_10_method_10_code 9 = .ok (.lload_n 2, 1) := by decide +kernel
theorem d5_10 : decode prog_10_method_10_code 10 = .ok (.ldc2_w 97, 3) := by decide +kernel
theorem d5_13 : decode prog_10_method_10_code 13 = .ok (.lcmp, 1) := by decide +kernel
theorem d5_14 : decode prog_10_method_10_code 14 = .ok (.ifCond .le 13, 3) := by decide +kernel
theorem d5_27 : decode prog_10_method_10_code 27 = .ok (.lload_n 2, 1) := by decide +kernel
theorem d5_28 : decode prog_10_method_10_code 28 = .ok (.aload_n 0, 1) := by decide +kernel
theorem d5_29 : decode prog_10_method_10_code 29 = .ok (.getfield 9, 3) := by decide +kernel
theorem d5_32 : decode prog_10_method_10_code 32 = .ok (.arraylength, 1) := by decide +kernel
theorem d5_33 : decode prog_10_method_10_code 33 = .ok (.i2l, 1) := by decide +kernel
theorem d5_34 : decode prog_10_method_10_code 34 = .ok (.lcmp, 1) := by decide +kernel
theorem d5_35 : decode prog_10_method_10_code 35 = .ok (.ifCond .le 35, 3) := by decide +kernel
theorem d5_70 : decode prog_10_method_10_code 70 = .ok (.return_, 1) := by decide +kernel
theorem own_pn_com_example_ebbtide_ebbtide_core_Encoder : plainName "com/example/ebbtide/ebbtide/core/Encoder" = true := by first | (simp [plainName, overriddenIn]; done) | decide +kernel
theorem own_ef_5_a (m : MethodId) (a1 : Addr) (p2 : Int32) : entryFrame m #[(Value.ref a1), (Value.int p2)] 4 = mkF m 0 #[sR a1, sI p2, .unset, .unset] [] := by first | (simp [entryFrame, mkF, argsToLocals, Value.category]; done) | rfl
def Q5_a (Z : State) (a1 : Addr) (aB : Addr) (kB : ClassId) (vs : List Value) (n : Int32) (p2 : Int32) (h0 : Heap) (n0 : Nat) (v : Option Value) (h : Heap) (L : List Loc) : Prop := v = none ∧ Fr n0 L ∧ h = h0
set_option maxRecDepth 65536 in
set_option maxHeartbeats 40000000 in
theorem rm5_a (l : Launch) (Z : State) (a0 : Array Value) (hw : ∀ d ∈ tables_1, d.before a0 Z = true) (ws : List Jvm.Cond) (a1 : Addr) (aB : Addr) (kB : ClassId) (vs : List Value) (n : Int32) (p2 : Int32) (h0 : Heap) (n0 : Nat) (O0 : Old Z n0 h0) (H0 : Exa Z h0 a1 "com/example/ebbtide/ebbtide/core/Encoder") (H1 : Fld Z h0 a1 "com/example/ebbtide/ebbtide/core/Encoder" "bytes" "[B" (Value.ref aB)) (H2 : Fld Z h0 a1 "com/example/ebbtide/ebbtide/core/Encoder" "length" "I" (Value.int n)) (H3 : Arv Z h0 aB kB .byte (256 : Int32) vs (Value.int (0 : Int32))) (hA : ¬ ((2147483639 : Int64) < ((n.toInt64) + (p2.toInt64)))) (hB : ¬ (((256 : Int32).toInt64) < ((n.toInt64) + (p2.toInt64)))) :
    MetFree l (⟨"com/example/ebbtide/ebbtide/core/Encoder", "ensure", "(I)V"⟩ : MethodName) (head1 (Jvm.Cond.code (⟨"com/example/ebbtide/ebbtide/core/Encoder", "ensure", "(I)V"⟩ : MethodName) prog_10_method_10_code 4 none :: ws) ({ frames := 0, cells := 0, slots := 0, locals := 0 } : Room)) (fun a U => a = #[(Value.ref a1), (Value.int p2)] ∧ Z.Warmed39 U.vm ∧ U.heap = h0) (fun _ _ _ _ _ => True) (fun _ U o U' => ∃ v L, o = .returned v ∧ Q5_a Z a1 aB kB vs n p2 h0 n0 v U'.heap L ∧ FrameEnd U o U' L ({ frames := 0, cells := 0, slots := 0, locals := 0 } : Room).cells ({ frames := 0, cells := 0, slots := 0, locals := 0 } : Room).slots) := by
  refine MetFree.of_bodySF (plainFor_of_name own_pn_com_example_ebbtide_ebbtide_core_Encoder) hisR ?_
  intro p e s m args below meth c s₁ Bd hml0 hP hK
  obtain ⟨rfl, hZ, hh⟩ := hP
  have hx := Bd.exec
  have hby := Bd.bytes
  have hml : c.maxLocals = 4 := hml0
  have hown : s.vm.findClass "com/example/ebbtide/ebbtide/core/Encoder" = some m.cls := findClass_of_methodNamed Bd.named
  have hnm := (name_of_methodNamed Bd.named Bd.method).1
  have X0 : Stand p l e ({ frames := 0, cells := 0, slots := 0, locals := 0 } : Room) s m #[(Value.ref a1), (Value.int p2)] below meth c s₁ [] 0 0 := Stand.of_body Bd
  have e0 : s₁.heap = h0 := by rw [← hh, Bd.state]; rfl
  have N0 := Fr.nil n0
  have K0 : Keep h0 h0 [] := Keep.refl h0 []
  show own_Go _ _ _ _ (s₁.setTop (entryFrame m #[(Value.ref a1), (Value.int p2)] 4))
  refine own_Go.by (fun tq kq => castTop (own_ef_5_a m a1 p2) kq) ?_
  show own_Go _ _ _ _ (s₁.setTop (mkF m 0 #[sR a1, sI p2, .unset, .unset] []))
  refine own_Go.by (fun tq kq => XS.aloadN X0.here hx rfl (hb hby d5_0) rfl rfl kq) ?_
  show own_Go _ _ _ _ (s₁.setTop (mkF m 1 #[sR a1, sI p2, .unset, .unset] [(Value.ref a1)]))
  obtain ⟨T1, X1, e1, st1⟩ := getF X0 hx hZ hown (host := "") (Or.inl (hw _ (List.mem_of_getElem? (i := 38) rfl))) Via.refl e0 H2 (g := (mkF m 1 #[sR a1, sI p2, .unset, .unset] [(Value.ref a1)])) rfl rfl (hb hby d5_1)
  refine own_Go.by st1 ?_
  refine own_Go.by (fun tq kq => XS.i2l X1.here hx rfl (hb hby d5_4) rfl kq) ?_
  refine own_Go.by (fun tq kq => XS.iloadN X1.here hx rfl (hb hby d5_5) rfl kq) ?_
  refine own_Go.by (fun tq kq => XS.i2l X1.here hx rfl (hb hby d5_6) rfl kq) ?_
  show own_Go _ _ _ _ (T1.setTop (mkF m 7 #[sR a1, sI p2, .unset, .unset] [(Value.long (p2.toInt64)), (Value.long (n.toInt64))]))
  refine own_Go.by (fun tq kq => XS.ladd X1.here hx rfl (hb hby d5_7) rfl kq) ?_
  show own_Go _ _ _ _ (T1.setTop (mkF m 8 #[sR a1, sI p2, .unset, .unset] [(Value.long ((n.toInt64) + (p2.toInt64)))]))
  refine own_Go.by (fun tq kq => XS.lstoreN X1.here hx rfl (hb hby d5_8) rfl (l' := #[sR a1, sI p2, .val (Value.long ((n.toInt64) + (p2.toInt64))), .second]) rfl kq) ?_
  refine own_Go.by (fun tq kq => XS.lloadN X1.here hx rfl (hb hby d5_9) rfl kq) ?_
  show own_Go _ _ _ _ (T1.setTop (mkF m 10 #[sR a1, sI p2, .val (Value.long ((n.toInt64) + (p2.toInt64))), .second] [(Value.long ((n.toInt64) + (p2.toInt64)))]))
  refine own_Go.by (fun tq kq => X1.ldc2Long hx hown (mvT hZ (hw _ (List.mem_of_getElem? (i := 40) rfl))) (g := (mkF m 10 #[sR a1, sI p2, .val (Value.long ((n.toInt64) + (p2.toInt64))), .second] [(Value.long ((n.toInt64) + (p2.toInt64)))])) rfl (hb hby d5_10) _ kq) ?_
  show own_Go _ _ _ _ (T1.setTop (mkF m 13 #[sR a1, sI p2, .val (Value.long ((n.toInt64) + (p2.toInt64))), .second] [(Value.long (2147483639 : Int64)), (Value.long ((n.toInt64) + (p2.toInt64)))]))
  refine own_Go.by (fun tq kq => XS.lcmp X1.here hx rfl (hb hby d5_13) rfl kq) ?_
  show own_Go _ _ _ _ (T1.setTop (mkF m 14 #[sR a1, sI p2, .val (Value.long ((n.toInt64) + (p2.toInt64))), .second] [(Value.int (lcmpW ((n.toInt64) + (p2.toInt64)) (2147483639 : Int64)))]))
  refine own_Go.by (fun tq kq => XS.ifYes X1.here hx rfl (pc0 := 14) (pc' := 27) rfl (hb hby d5_14) rfl ((if0 _ _).trans (flt (mt (lw_gt ((n.toInt64) + (p2.toInt64)) (2147483639 : Int64)).mp hA)).2.2.2) (by decide) (by decide) kq) ?_
  refine own_Go.by (fun tq kq => XS.lloadN X1.here hx rfl (hb hby d5_27) rfl kq) ?_
  refine own_Go.by (fun tq kq => XS.aloadN X1.here hx rfl (hb hby d5_28) rfl rfl kq) ?_
  show own_Go _ _ _ _ (T1.setTop (mkF m 29 #[sR a1, sI p2, .val (Value.long ((n.toInt64) + (p2.toInt64))), .second] [(Value.ref a1), (Value.long ((n.toInt64) + (p2.toInt64)))]))
  obtain ⟨T2, X2, e2, st2⟩ := getF X1 hx hZ hown (host := "") (Or.inl (hw _ (List.mem_of_getElem? (i := 15) rfl))) Via.refl e1 H1 (g := (mkF m 29 #[sR a1, sI p2, .val (Value.long ((n.toInt64) + (p2.toInt64))), .second] [(Value.ref a1), (Value.long ((n.toInt64) + (p2.toInt64)))])) rfl rfl (hb hby d5_29)
  refine own_Go.by st2 ?_
  show own_Go _ _ _ _ (T2.setTop (mkF m 32 #[sR a1, sI p2, .val (Value.long ((n.toInt64) + (p2.toInt64))), .second] [(Value.ref aB), (Value.long ((n.toInt64) + (p2.toInt64)))]))
  obtain ⟨cl3, Ar3, q3, S3, M3, Hh3, G3⟩ := id H3
  refine own_Go.by (fun tq kq => X2.arraylength hx (by rw [e2]; exact Ar3.1) (State.isArrayOf_alike hZ.alike Ar3.2.1) (g := (mkF m 32 #[sR a1, sI p2, .val (Value.long ((n.toInt64) + (p2.toInt64))), .second] [(Value.ref aB), (Value.long ((n.toInt64) + (p2.toInt64)))])) rfl rfl (hb hby d5_32) _ kq) ?_
  rw [len_of S3 M3]
  refine own_Go.by (fun tq kq => XS.i2l X2.here hx rfl (hb hby d5_33) rfl kq) ?_
  show own_Go _ _ _ _ (T2.setTop (mkF m 34 #[sR a1, sI p2, .val (Value.long ((n.toInt64) + (p2.toInt64))), .second] [(Value.long ((256 : Int32).toInt64)), (Value.long ((n.toInt64) + (p2.toInt64)))]))
  refine own_Go.by (fun tq kq => XS.lcmp X2.here hx rfl (hb hby d5_34) rfl kq) ?_
  show own_Go _ _ _ _ (T2.setTop (mkF m 35 #[sR a1, sI p2, .val (Value.long ((n.toInt64) + (p2.toInt64))), .second] [(Value.int (lcmpW ((n.toInt64) + (p2.toInt64)) ((256 : Int32).toInt64)))]))
  refine own_Go.by (fun tq kq => XS.ifYes X2.here hx rfl (pc0 := 35) (pc' := 70) rfl (hb hby d5_35) rfl ((if0 _ _).trans (flt (mt (lw_gt ((n.toInt64) + (p2.toInt64)) ((256 : Int32).toInt64)).mp hB)).2.2.2) (by decide) (by decide) kq) ?_
  show own_Go _ _ _ _ (T2.setTop (mkF m 70 #[sR a1, sI p2, .val (Value.long ((n.toInt64) + (p2.toInt64))), .second] []))
  obtain ⟨fs, hr, hrun, hended, hW, hsame⟩ := X2.leave (v := none) (fun _ => rfl)
  refine own_Go.fin (X2.returnOut hx Bd.returns (hb hby d5_70) hr) ⟨hrun, hended, _, _, rfl, ?_, ⟨_, rfl⟩, hW, hsame.mono (by decide) (by decide)⟩
  show Q5_a Z a1 aB kB vs n p2 h0 n0 _ T2.heap _
  rw [e2]
  exact ⟨rfl, N0, rfl⟩

theorem own_pd0 : parseMethodDescriptor "(I)V" = some ⟨[.int], none⟩ := by decide +kernel
theorem d4_0 : decode prog_10_method_9_code 0 = .ok (.aload_n 0, 1) := by decide +kernel
theorem d4_1 : decode prog_10_method_9_code 1 = .ok (.iconst 1, 1) := by decide +kernel
theorem d4_2 : decode prog_10_method_9_code 2 = .ok (.invokevirtual 75, 3) := by decide +kernel
theorem d4_5 : decode prog_10_method_9_code 5 = .ok (.aload_n 0, 1) := by decide +kernel
theorem d4_6 : decode prog_10_method_9_code 6 = .ok (.getfield 9, 3) := by decide +kernel
theorem d4_9 : decode prog_10_method_9_code 9 = .ok (.aload_n 0, 1) := by decide +kernel
theorem d4_10 : decode prog_10_method_9_code 10 = .ok (.dup, 1) := by decide +kernel
theorem d4_11 : decode prog_10_method_9_code 11 = .ok (.getfield 79, 3) := by decide +kernel
theorem d4_14 : decode prog_10_method_9_code 14 = .ok (.dup_x1, 1) := by decide +kernel
theorem d4_15 : decode prog_10_method_9_code 15 = .ok (.iconst 1, 1) := by decide +kernel
theorem d4_16 : decode prog_10_method_9_code 16 = .ok (.iadd, 1) := by decide +kernel
theorem d4_17 : decode prog_10_method_9_code 17 = .ok (.putfield 79, 3) := by decide +kernel
theorem d4_20 : decode prog_10_method_9_code 20 = .ok (.iload_n 1, 1) := by decide +kernel
theorem d4_21 : decode prog_10_method_9_code 21 = .ok (.bastore, 1) := by decide +kernel
theorem d4_22 : decode prog_10_method_9_code 22 = .ok (.return_, 1) := by decide +kernel
theorem own_ef_4 (m : MethodId) (a1 : Addr) (p2 : Int32) : entryFrame m #[(Value.ref a1), (Value.int p2)] 2 = mkF m 0 #[sR a1, sI p2] [] := by first | (simp [entryFrame, mkF, argsToLocals, Value.category]; done) | rfl
def Q4 (Z : State) (a1 : Addr) (aB : Addr) (kB : ClassId) (vs : List Value) (n : Int32) (p2 : Int32) (i : Nat) (h0 : Heap) (n0 : Nat) (v : Option Value) (h : Heap) (L : List Loc) : Prop := v = none ∧ Fr n0 L ∧ Keep h0 h [a1, aB] ∧ (Exa Z h a1 "com/example/ebbtide/ebbtide/core/Encoder") ∧ (Fld Z h a1 "com/example/ebbtide/ebbtide/core/Encoder" "bytes" "[B" (Value.ref aB)) ∧ (Fld Z h a1 "com/example/ebbtide/ebbtide/core/Encoder" "length" "I" (Value.int (n + (1 : Int32)))) ∧ (Arv Z h aB kB .byte (256 : Int32) (vs.set i (Value.int p2)) (Value.int (0 : Int32)))
set_option maxRecDepth 65536 in
set_option maxHeartbeats 40000000 in
theorem rm4 (l : Launch) (Z : State) (a0 : Array Value) (hw : ∀ d ∈ tables_1, d.before a0 Z = true) (ws : List Jvm.Cond) (a1 : Addr) (aB : Addr) (kB : ClassId) (vs : List Value) (n : Int32) (p2 : Int32) (i : Nat) (h0 : Heap) (n0 : Nat) (O0 : Old Z n0 h0) (H0 : Exa Z h0 a1 "com/example/ebbtide/ebbtide/core/Encoder") (H1 : Fld Z h0 a1 "com/example/ebbtide/ebbtide/core/Encoder" "bytes" "[B" (Value.ref aB)) (H2 : Fld Z h0 a1 "com/example/ebbtide/ebbtide/core/Encoder" "length" "I" (Value.int n)) (H3 : Arv Z h0 aB kB .byte (256 : Int32) vs (Value.int (0 : Int32))) (H4 : n0 ≤ a1) (H5 : n0 ≤ aB) (H6 : a1 ≠ aB) (hA : ¬ ((2147483639 : Int64) < ((n.toInt64) + ((1 : Int32).toInt64)))) (hB : ¬ (((256 : Int32).toInt64) < ((n.toInt64) + ((1 : Int32).toInt64)))) (hin : ¬ (n < (0 : Int32)) ∧ n < (256 : Int32)) (hi : n.toNatClampNeg = i) (hil : i < vs.length) (hb8 : p2.toInt8.toInt32 = p2) :
    MetFree l (⟨"com/example/ebbtide/ebbtide/core/Encoder", "put", "(B)V"⟩ : MethodName) (head1 (Jvm.Cond.code (⟨"com/example/ebbtide/ebbtide/core/Encoder", "put", "(B)V"⟩ : MethodName) prog_10_method_9_code 2 none :: ws) ({ frames := 1, cells := 0, slots := 0, locals := 15 } : Room)) (fun a U => a = #[(Value.ref a1), (Value.int p2)] ∧ Z.Warmed39 U.vm ∧ U.heap = h0) (fun _ _ _ _ _ => True) (fun _ U o U' => ∃ v L, o = .returned v ∧ Q4 Z a1 aB kB vs n p2 i h0 n0 v U'.heap L ∧ FrameEnd U o U' L ({ frames := 1, cells := 0, slots := 0, locals := 15 } : Room).cells ({ frames := 1, cells := 0, slots := 0, locals := 15 } : Room).slots) := by
  refine MetFree.of_bodySF (plainFor_of_name own_pn_com_example_ebbtide_ebbtide_core_Encoder) hisR ?_
  intro p e s m args below meth c s₁ Bd hml0 hP hK
  obtain ⟨rfl, hZ, hh⟩ := hP
  have hx := Bd.exec
  have hby := Bd.bytes
  have hml : c.maxLocals = 2 := hml0
  have hown : s.vm.findClass "com/example/ebbtide/ebbtide/core/Encoder" = some m.cls := findClass_of_methodNamed Bd.named
  have hnm := (name_of_methodNamed Bd.named Bd.method).1
  have X0 : Stand p l e ({ frames := 1, cells := 0, slots := 0, locals := 15 } : Room) s m #[(Value.ref a1), (Value.int p2)] below meth c s₁ [] 0 0 := Stand.of_body Bd
  have e0 : s₁.heap = h0 := by rw [← hh, Bd.state]; rfl
  have N0 := Fr.nil n0
  have K0 := Keep.refl h0 [a1, aB]
  show own_Go _ _ _ _ (s₁.setTop (entryFrame m #[(Value.ref a1), (Value.int p2)] 2))
  refine own_Go.by (fun tq kq => castTop (own_ef_4 m a1 p2) kq) ?_
  show own_Go _ _ _ _ (s₁.setTop (mkF m 0 #[sR a1, sI p2] []))
  refine own_Go.by (fun tq kq => XS.aloadN X0.here hx rfl (hb hby d4_0) rfl rfl kq) ?_
  refine own_Go.by (fun tq kq => XS.iconst X0.here hx rfl (hb hby d4_1) kq) ?_
  show own_Go _ _ _ _ (s₁.setTop (mkF m 2 #[sR a1, sI p2] [(Value.int (1 : Int32)), (Value.ref a1)]))
  obtain ⟨cq1, q1, q1'⟩ := H0.cell
  obtain ⟨_, _, ⟨T1, L1, k1, n1⟩, -, X1, ⟨Lc1, hQ1, l1, y1, z1⟩, st1⟩ := X0.privateBack hx (y := (⟨"com/example/ebbtide/ebbtide/core/Encoder", "ensure", "(I)V"⟩ : MethodName)) hown (mvT hZ (hw _ (List.mem_of_getElem? (i := 34) rfl))) (mvT hZ (hw _ (List.mem_of_getElem? (i := 35) rfl))) (own_privsel (mvT hZ (hw _ (List.mem_of_getElem? (i := 7) rfl)) (args := #[])) (mvP hZ (hw _ (List.mem_of_getElem? (i := 36) rfl)) (args := #[])) (mvT hZ (hw _ (List.mem_of_getElem? (i := 35) rfl))) (by decide)) (Cond.privateMethod_at (mvP hZ (hw _ (List.mem_of_getElem? (i := 36) rfl)) (args := #[]))) (mvT hZ (hw _ (List.mem_of_getElem? (i := 37) rfl))) (by decide) (backOf (W := 0) (rm5_a l Z a0 hw [] a1 aB kB vs n (1 : Int32) h0 n0 O0 H0 H1 H2 H3 (hA : ¬ ((2147483639 : Int64) < ((n.toInt64) + ((1 : Int32).toInt64)))) (hB : ¬ (((256 : Int32).toInt64) < ((n.toInt64) + ((1 : Int32).toInt64))))) hZ (hw _ (List.mem_of_getElem? (i := 37) rfl)) (hw _ (List.mem_of_getElem? (i := 8) rfl)) (by decide) (by decide)) (g := (mkF m 2 #[sR a1, sI p2] [(Value.int (1 : Int32)), (Value.ref a1)])) rfl (by rw [hml]; rfl) (Steps.refl _) (a := a1) (by rw [e0]; exact q1) q1' (argsL := [(Value.int (1 : Int32))]) (rest := []) (lenOf own_pd0 rfl) rfl (by show 2 * 0 + _ ≤ _; exact Nat.le_of_eq rfl) (hb hby d4_2) (fun _ _ => ⟨rfl, e0, (by decide : 0 + 0 ≤ _), (by decide : 0 + 0 ≤ _)⟩)
  dsimp only [Pt.U, Pt.locs, Pt.cells, Pt.slots] at X1 l1 y1 z1 st1 hQ1
  subst l1 y1 z1
  refine own_Go.by (fun tq kq => st1.trans kq) ?_
  obtain ⟨rfl, N1q, e1⟩ := hQ1
  have N1 := Fr.app N0 N1q
  refine own_Go.by (fun tq kq => XS.aloadN X1.here hx rfl (hb hby d4_5) rfl rfl kq) ?_
  show own_Go _ _ _ _ (T1.setTop (mkF m 6 #[sR a1, sI p2] [(Value.ref a1)]))
  obtain ⟨T2, X2, e2, st2⟩ := getF X1 hx hZ hown (host := "") (Or.inl (hw _ (List.mem_of_getElem? (i := 15) rfl))) Via.refl e1 H1 (g := (mkF m 6 #[sR a1, sI p2] [(Value.ref a1)])) rfl rfl (hb hby d4_6)
  refine own_Go.by st2 ?_
  refine own_Go.by (fun tq kq => XS.aloadN X2.here hx rfl (hb hby d4_9) rfl rfl kq) ?_
  refine own_Go.by (fun tq kq => XS.dup X2.here hx rfl (hb hby d4_10) rfl rfl kq) ?_
  show own_Go _ _ _ _ (T2.setTop (mkF m 11 #[sR a1, sI p2] [(Value.ref a1), (Value.ref a1), (Value.ref aB)]))
  obtain ⟨T3, X3, e3, st3⟩ := getF X2 hx hZ hown (host := "") (Or.inl (hw _ (List.mem_of_getElem? (i := 38) rfl))) Via.refl e2 H2 (g := (mkF m 11 #[sR a1, sI p2] [(Value.ref a1), (Value.ref a1), (Value.ref aB)])) rfl rfl (hb hby d4_11)
  refine own_Go.by st3 ?_
  show own_Go _ _ _ _ (T3.setTop (mkF m 14 #[sR a1, sI p2] [(Value.int n), (Value.ref a1), (Value.ref aB)]))
  refine own_Go.by (fun tq kq => XS.dupX1 X3.here hx rfl (hb hby d4_14) rfl rfl rfl kq) ?_
  refine own_Go.by (fun tq kq => XS.iconst X3.here hx rfl (hb hby d4_15) kq) ?_
  refine own_Go.by (fun tq kq => XS.iadd X3.here hx rfl (hb hby d4_16) rfl kq) ?_
  show own_Go _ _ _ _ (T3.setTop (mkF m 17 #[sR a1, sI p2] [(Value.int (n + (1 : Int32))), (Value.ref a1), (Value.int n), (Value.ref aB)]))
  obtain ⟨T4, h4, X4, e4, W4, st4⟩ := putF X3 hx hZ hown (host := "") (Or.inl (hw _ (List.mem_of_getElem? (i := 38) rfl))) Via.refl e3 H2 H0 (Or.inl (hw _ (List.mem_of_getElem? (i := 39) rfl))) (hw _ (List.mem_of_getElem? (i := 7) rfl)) (ty := .int) (by decide) rfl rfl (g := (mkF m 17 #[sR a1, sI p2] [(Value.int (n + (1 : Int32))), (Value.ref a1), (Value.int n), (Value.ref aB)])) rfl rfl (hb hby d4_17)
  refine own_Go.by st4 ?_
  have N4 := Fr.snoc X4 N1 H4
  have O5 := O0.wr W4 H4
  have K5 := K0.wr W4 (Or.inl (List.mem_of_getElem? (i := 0) rfl))
  have F4 := H2.same W4
  refine own_Go.by (fun tq kq => XS.iloadN X4.here hx rfl (hb hby d4_20) rfl kq) ?_
  show own_Go _ _ _ _ (T4.setTop (mkF m 21 #[sR a1, sI p2] [(Value.int p2), (Value.int n), (Value.ref aB)]))
  have c6 := (H3.other W4 (Ne.symm H6))
  obtain ⟨cl7, Ar7, q7, S7, M7, Hh7, G7⟩ := id c6
  obtain ⟨T8, h8, X8, e8, W8, st8⟩ := stB X4 hx hZ e4 Ar7 (j := n) (inb_of S7 hin) (g := (mkF m 21 #[sR a1, sI p2] [(Value.int p2), (Value.int n), (Value.ref aB)])) rfl rfl (hb hby d4_21)
  refine own_Go.by st8 ?_
  have N8 := Fr.snoc X8 N4 H5
  have O9 := O5.wr W8 H5
  have K9 := K5.wr W8 (Or.inl (List.mem_of_getElem? (i := 1) rfl))
  rw [show nar .byte p2 = p2 from hb8] at W8
  have V8 : Arv Z h8 aB kB .byte (256 : Int32) (vs.set i (Value.int p2)) (Value.int (0 : Int32)) := Arv.set Ar7 q7 S7 M7 Hh7 G7 (own_fitB (hb8)) W8 i (hi) (hil)
  show own_Go _ _ _ _ (T8.setTop (mkF m 22 #[sR a1, sI p2] []))
  have c10 := ((H0.wr W4).wr W8)
  have c11 := ((H1.other W4 (Or.inr (slot_ne (Or.inl (hw _ (List.mem_of_getElem? (i := 16) rfl))) (Or.inl (hw _ (List.mem_of_getElem? (i := 39) rfl))) (by decide) (t := (.array .byte)) (t' := .int) (by decide) (by decide)))).other W8 (Or.inl H6))
  have c12 := (F4.other W8 (Or.inl H6))
  obtain ⟨fs, hr, hrun, hended, hW, hsame⟩ := X8.leave (v := none) (fun _ => rfl)
  refine own_Go.fin (X8.returnOut hx Bd.returns (hb hby d4_22) hr) ⟨hrun, hended, _, _, rfl, ?_, ⟨_, rfl⟩, hW, hsame.mono (by decide) (by decide)⟩
  show Q4 Z a1 aB kB vs n p2 i h0 n0 _ T8.heap _
  rw [e8]
  exact ⟨rfl, N8, K9, c10, c11, c12, V8⟩

theorem own_pd1 : parseMethodDescriptor "(B)V" = some ⟨[.byte], none⟩ := by decide +kernel
theorem d6_0 : decode prog_10_method_2_code 0 = .ok (.lload_n 1, 1) := by decide +kernel
theorem d6_1 : decode prog_10_method_2_code 1 = .ok (.lstore_n 3, 1) := by decide +kernel
theorem d6_2 : decode prog_10_method_2_code 2 = .ok (.lload_n 3, 1) := by decide +kernel
theorem d6_3 : decode prog_10_method_2_code 3 = .ok (.ldc2_w 42, 3) := by decide +kernel
theorem d6_6 : decode prog_10_method_2_code 6 = .ok (.land, 1) := by decide +kernel
theorem d6_7 : decode prog_10_method_2_code 7 = .ok (.lconst 0, 1) := by decide +kernel
theorem d6_8 : decode prog_10_method_2_code 8 = .ok (.lcmp, 1) := by decide +kernel
theorem d6_9 : decode prog_10_method_2_code 9 = .ok (.ifCond .eq 26, 3) := by decide +kernel
theorem d6_35 : decode prog_10_method_2_code 35 = .ok (.aload_n 0, 1) := by decide +kernel
theorem d6_36 : decode prog_10_method_2_code 36 = .ok (.lload_n 3, 1) := by decide +kernel
theorem d6_37 : decode prog_10_method_2_code 37 = .ok (.l2i, 1) := by decide +kernel
theorem d6_38 : decode prog_10_method_2_code 38 = .ok (.i2b, 1) := by decide +kernel
theorem d6_39 : decode prog_10_method_2_code 39 = .ok (.invokevirtual 26, 3) := by decide +kernel
theorem d6_42 : decode prog_10_method_2_code 42 = .ok (.return_, 1) := by decide +kernel
theorem own_ef_6_1 (m : MethodId) (a1 : Addr) (q2 : Int64) : entryFrame m #[(Value.ref a1), (Value.long q2)] 5 = mkF m 0 #[sR a1, sJ q2, .second, .unset, .unset] [] := by first | (simp [entryFrame, mkF, argsToLocals, Value.category]; done) | rfl
def Q6_1 (Z : State) (a1 : Addr) (aB : Addr) (kB : ClassId) (vs : List Value) (n : Int32) (q2 : Int64) (i : Nat) (h0 : Heap) (n0 : Nat) (v : Option Value) (h : Heap) (L : List Loc) : Prop := v = none ∧ Fr n0 L ∧ Keep h0 h [a1, aB] ∧ (Exa Z h a1 "com/example/ebbtide/ebbtide/core/Encoder") ∧ (Fld Z h a1 "com/example/ebbtide/ebbtide/core/Encoder" "bytes" "[B" (Value.ref aB)) ∧ (Fld Z h a1 "com/example/ebbtide/ebbtide/core/Encoder" "length" "I" (Value.int (n + (1 : Int32)))) ∧ (Arv Z h aB kB .byte (256 : Int32) (vs.set i (Value.int ((q2.toInt32).toInt8.toInt32))) (Value.int (0 : Int32)))
set_option maxRecDepth 65536 in
set_option maxHeartbeats 40000000 in
theorem rm6_1 (l : Launch) (Z : State) (a0 : Array Value) (hw : ∀ d ∈ tables_1, d.before a0 Z = true) (ws : List Jvm.Cond) (a1 : Addr) (aB : Addr) (kB : ClassId) (vs : List Value) (n : Int32) (q2 : Int64) (i : Nat) (h0 : Heap) (n0 : Nat) (O0 : Old Z n0 h0) (H0 : Exa Z h0 a1 "com/example/ebbtide/ebbtide/core/Encoder") (H1 : Fld Z h0 a1 "com/example/ebbtide/ebbtide/core/Encoder" "bytes" "[B" (Value.ref aB)) (H2 : Fld Z h0 a1 "com/example/ebbtide/ebbtide/core/Encoder" "length" "I" (Value.int n)) (H3 : Arv Z h0 aB kB .byte (256 : Int32) vs (Value.int (0 : Int32))) (H4 : n0 ≤ a1) (H5 : n0 ≤ aB) (H6 : a1 ≠ aB) (hA : ¬ ((2147483639 : Int64) < ((n.toInt64) + ((1 : Int32).toInt64)))) (hB : ¬ (((256 : Int32).toInt64) < ((n.toInt64) + ((1 : Int32).toInt64)))) (hin : ¬ (n < (0 : Int32)) ∧ n < (256 : Int32)) (hi : n.toNatClampNeg = i) (hil : i < vs.length) (hz0 : (q2 &&& (-128 : Int64)) = (0 : Int64)) :
    MetFree l (⟨"com/example/ebbtide/ebbtide/core/Encoder", "unsigned", "(J)V"⟩ : MethodName) (head1 (Jvm.Cond.code (⟨"com/example/ebbtide/ebbtide/core/Encoder", "unsigned", "(J)V"⟩ : MethodName) prog_10_method_2_code 5 none :: ws) ({ frames := 2, cells := 0, slots := 0, locals := 28 } : Room)) (fun a U => a = #[(Value.ref a1), (Value.long q2)] ∧ Z.Warmed39 U.vm ∧ U.heap = h0) (fun _ _ _ _ _ => True) (fun _ U o U' => ∃ v L, o = .returned v ∧ Q6_1 Z a1 aB kB vs n q2 i h0 n0 v U'.heap L ∧ FrameEnd U o U' L ({ frames := 2, cells := 0, slots := 0, locals := 28 } : Room).cells ({ frames := 2, cells := 0, slots := 0, locals := 28 } : Room).slots) := by
  refine MetFree.of_bodySF (plainFor_of_name own_pn_com_example_ebbtide_ebbtide_core_Encoder) hisR ?_
  intro p e s m args below meth c s₁ Bd hml0 hP hK
  obtain ⟨rfl, hZ, hh⟩ := hP
  have hx := Bd.exec
  have hby := Bd.bytes
  have hml : c.maxLocals = 5 := hml0
  have hown : s.vm.findClass "com/example/ebbtide/ebbtide/core/Encoder" = some m.cls := findClass_of_methodNamed Bd.named
  have hnm := (name_of_methodNamed Bd.named Bd.method).1
  have X0 : Stand p l e ({ frames := 2, cells := 0, slots := 0, locals := 28 } : Room) s m #[(Value.ref a1), (Value.long q2)] below meth c s₁ [] 0 0 := Stand.of_body Bd
  have e0 : s₁.heap = h0 := by rw [← hh, Bd.state]; rfl
  have N0 := Fr.nil n0
  have K0 := Keep.refl h0 [a1, aB]
  show own_Go _ _ _ _ (s₁.setTop (entryFrame m #[(Value.ref a1), (Value.long q2)] 5))
  refine own_Go.by (fun tq kq => castTop (own_ef_6_1 m a1 q2) kq) ?_
  show own_Go _ _ _ _ (s₁.setTop (mkF m 0 #[sR a1, sJ q2, .second, .unset, .unset] []))
  refine own_Go.by (fun tq kq => XS.lloadN X0.here hx rfl (hb hby d6_0) rfl kq) ?_
  show own_Go _ _ _ _ (s₁.setTop (mkF m 1 #[sR a1, sJ q2, .second, .unset, .unset] [(Value.long q2)]))
  refine own_Go.by (fun tq kq => XS.lstoreN X0.here hx rfl (hb hby d6_1) rfl (l' := #[sR a1, sJ q2, .second, sJ q2, .second]) rfl kq) ?_
  refine own_Go.by (fun tq kq => XS.lloadN X0.here hx rfl (hb hby d6_2) rfl kq) ?_
  show own_Go _ _ _ _ (s₁.setTop (mkF m 3 #[sR a1, sJ q2, .second, sJ q2, .second] [(Value.long q2)]))
  refine own_Go.by (fun tq kq => X0.ldc2Long hx hown (mvT hZ (hw _ (List.mem_of_getElem? (i := 47) rfl))) (g := (mkF m 3 #[sR a1, sJ q2, .second, sJ q2, .second] [(Value.long q2)])) rfl (hb hby d6_3) _ kq) ?_
  show own_Go _ _ _ _ (s₁.setTop (mkF m 6 #[sR a1, sJ q2, .second, sJ q2, .second] [(Value.long (-128 : Int64)), (Value.long q2)]))
  refine own_Go.by (fun tq kq => XS.land X0.here hx rfl (hb hby d6_6) rfl kq) ?_
  refine own_Go.by (fun tq kq => XS.lconst X0.here hx rfl (hb hby d6_7) kq) ?_
  show own_Go _ _ _ _ (s₁.setTop (mkF m 8 #[sR a1, sJ q2, .second, sJ q2, .second] [(Value.long (0 : Int64)), (Value.long (q2 &&& (-128 : Int64)))]))
  refine own_Go.by (fun tq kq => XS.lcmp X0.here hx rfl (hb hby d6_8) rfl kq) ?_
  show own_Go _ _ _ _ (s₁.setTop (mkF m 9 #[sR a1, sJ q2, .second, sJ q2, .second] [(Value.int (lcmpW (q2 &&& (-128 : Int64)) (0 : Int64)))]))
  refine own_Go.by (fun tq kq => XS.ifYes X0.here hx rfl (pc0 := 9) (pc' := 35) rfl (hb hby d6_9) rfl ((if0 _ _).trans (teq ((lw_eq (q2 &&& (-128 : Int64)) (0 : Int64)).mpr hz0)).1) (by decide) (by decide) kq) ?_
  refine own_Go.by (fun tq kq => XS.aloadN X0.here hx rfl (hb hby d6_35) rfl rfl kq) ?_
  refine own_Go.by (fun tq kq => XS.lloadN X0.here hx rfl (hb hby d6_36) rfl kq) ?_
  refine own_Go.by (fun tq kq => XS.l2i X0.here hx rfl (hb hby d6_37) rfl kq) ?_
  show own_Go _ _ _ _ (s₁.setTop (mkF m 38 #[sR a1, sJ q2, .second, sJ q2, .second] [(Value.int (q2.toInt32)), (Value.ref a1)]))
  refine own_Go.by (fun tq kq => XS.i2b X0.here hx rfl (hb hby d6_38) rfl kq) ?_
  show own_Go _ _ _ _ (s₁.setTop (mkF m 39 #[sR a1, sJ q2, .second, sJ q2, .second] [(Value.int ((q2.toInt32).toInt8.toInt32)), (Value.ref a1)]))
  obtain ⟨cq1, q1, q1'⟩ := H0.cell
  obtain ⟨_, _, ⟨T1, L1, k1, n1⟩, -, X1, ⟨Lc1, hQ1, l1, y1, z1⟩, st1⟩ := X0.privateBack hx (y := (⟨"com/example/ebbtide/ebbtide/core/Encoder", "put", "(B)V"⟩ : MethodName)) hown (mvT hZ (hw _ (List.mem_of_getElem? (i := 30) rfl))) (mvT hZ (hw _ (List.mem_of_getElem? (i := 31) rfl))) (own_privsel (mvT hZ (hw _ (List.mem_of_getElem? (i := 7) rfl)) (args := #[])) (mvP hZ (hw _ (List.mem_of_getElem? (i := 32) rfl)) (args := #[])) (mvT hZ (hw _ (List.mem_of_getElem? (i := 31) rfl))) (by decide)) (Cond.privateMethod_at (mvP hZ (hw _ (List.mem_of_getElem? (i := 32) rfl)) (args := #[]))) (mvT hZ (hw _ (List.mem_of_getElem? (i := 33) rfl))) (by decide) (backOf (W := 0) (rm4 l Z a0 hw [] a1 aB kB vs n ((q2.toInt32).toInt8.toInt32) i h0 n0 O0 H0 H1 H2 H3 H4 H5 H6 (hA : ¬ ((2147483639 : Int64) < ((n.toInt64) + ((1 : Int32).toInt64)))) (hB : ¬ (((256 : Int32).toInt64) < ((n.toInt64) + ((1 : Int32).toInt64)))) (hin : ¬ (n < (0 : Int32)) ∧ n < (256 : Int32)) (hi : n.toNatClampNeg = i) (hil : i < vs.length) (own_b8 _ : ((q2.toInt32).toInt8.toInt32).toInt8.toInt32 = ((q2.toInt32).toInt8.toInt32))) hZ (hw _ (List.mem_of_getElem? (i := 33) rfl)) (hw _ (List.mem_of_getElem? (i := 8) rfl)) (by decide) (by decide)) (g := (mkF m 39 #[sR a1, sJ q2, .second, sJ q2, .second] [(Value.int ((q2.toInt32).toInt8.toInt32)), (Value.ref a1)])) rfl (by rw [hml]; rfl) (Steps.refl _) (a := a1) (by rw [e0]; exact q1) q1' (argsL := [(Value.int ((q2.toInt32).toInt8.toInt32))]) (rest := []) (lenOf own_pd1 rfl) rfl (by show 2 * 0 + _ ≤ _; exact Nat.le_of_eq rfl) (hb hby d6_39) (fun _ _ => ⟨rfl, e0, (by decide : 0 + 0 ≤ _), (by decide : 0 + 0 ≤ _)⟩)
  dsimp only [Pt.U, Pt.locs, Pt.cells, Pt.slots] at X1 l1 y1 z1 st1 hQ1
  subst l1 y1 z1
  refine own_Go.by (fun tq kq => st1.trans kq) ?_
  obtain ⟨rfl, N1q, K1q, p1_0, p1_1, p1_2, p1_3⟩ := hQ1
  have N1 := Fr.app N0 N1q
  have O2 := O0.keep K1q (allS H4 (allS H5 all0))
  have K2 := K0.trans K1q (allS (Or.inl (List.mem_of_getElem? (i := 0) rfl)) (allS (Or.inl (List.mem_of_getElem? (i := 1) rfl)) all0))
  show own_Go _ _ _ _ (T1.setTop (mkF m 42 #[sR a1, sJ q2, .second, sJ q2, .second] []))
  obtain ⟨fs, hr, hrun, hended, hW, hsame⟩ := X1.leave (v := none) (fun _ => rfl)
  refine own_Go.fin (X1.returnOut hx Bd.returns (hb hby d6_42) hr) ⟨hrun, hended, _, _, rfl, ?_, ⟨_, rfl⟩, hW, hsame.mono (by decide) (by decide)⟩
  show Q6_1 Z a1 aB kB vs n q2 i h0 n0 _ T1.heap _
  exact ⟨rfl, N1, K2, p1_0, p1_1, p1_2, p1_3⟩

theorem d6_12 : decode prog_10_method_2_code 12 = .ok (.aload_n 0, 1) := by decide +kernel
theorem d6_13 : decode prog_10_method_2_code 13 = .ok (.lload_n 3, 1) := by decide +kernel
theorem d6_14 : decode prog_10_method_2_code 14 = .ok (.ldc2_w 44, 3) := by decide +kernel
theorem d6_17 : decode prog_10_method_2_code 17 = .ok (.land, 1) := by decide +kernel
theorem d6_18 : decode prog_10_method_2_code 18 = .ok (.ldc2_w 46, 3) := by decide +kernel
theorem d6_21 : decode prog_10_method_2_code 21 = .ok (.lor, 1) := by decide +kernel
theorem d6_22 : decode prog_10_method_2_code 22 = .ok (.l2i, 1) := by decide +kernel
theorem d6_23 : decode prog_10_method_2_code 23 = .ok (.i2b, 1) := by decide +kernel
theorem d6_24 : decode prog_10_method_2_code 24 = .ok (.invokevirtual 26, 3) := by decide +kernel
theorem d6_27 : decode prog_10_method_2_code 27 = .ok (.lload_n 3, 1) := by decide +kernel
theorem d6_28 : decode prog_10_method_2_code 28 = .ok (.bipush 7, 2) := by decide +kernel
theorem d6_30 : decode prog_10_method_2_code 30 = .ok (.lushr, 1) := by decide +kernel
theorem d6_31 : decode prog_10_method_2_code 31 = .ok (.lstore_n 3, 1) := by decide +kernel
theorem d6_32 : decode prog_10_method_2_code 32 = .ok (.goto (-30), 3) := by decide +kernel
theorem own_ef_6_2 (m : MethodId) (a1 : Addr) (q2 : Int64) : entryFrame m #[(Value.ref a1), (Value.long q2)] 5 = mkF m 0 #[sR a1, sJ q2, .second, .unset, .unset] [] := by first | (simp [entryFrame, mkF, argsToLocals, Value.category]; done) | rfl
def Q6_2 (Z : State) (a1 : Addr) (aB : Addr) (kB : ClassId) (vs : List Value) (q2 : Int64) (h0 : Heap) (n0 : Nat) (v : Option Value) (h : Heap) (L : List Loc) : Prop := v = none ∧ Fr n0 L ∧ Keep h0 h [a1, aB] ∧ (Exa Z h a1 "com/example/ebbtide/ebbtide/core/Encoder") ∧ (Fld Z h a1 "com/example/ebbtide/ebbtide/core/Encoder" "bytes" "[B" (Value.ref aB)) ∧ (Fld Z h a1 "com/example/ebbtide/ebbtide/core/Encoder" "length" "I" (Value.int (8 : Int32))) ∧ (Arv Z h aB kB .byte (256 : Int32) ((vs.set 6 (Value.int ((((q2 &&& (127 : Int64)) ||| (128 : Int64)).toInt32).toInt8.toInt32))).set 7 (Value.int ((((q2.toUInt64 >>> ((7 : Int32) &&& 0x3f).toInt64.toUInt64).toInt64).toInt32).toInt8.toInt32))) (Value.int (0 : Int32)))
set_option maxRecDepth 65536 in
set_option maxHeartbeats 40000000 in
theorem rm6_2 (l : Launch) (Z : State) (a0 : Array Value) (hw : ∀ d ∈ tables_1, d.before a0 Z = true) (ws : List Jvm.Cond) (a1 : Addr) (aB : Addr) (kB : ClassId) (vs : List Value) (q2 : Int64) (h0 : Heap) (n0 : Nat) (O0 : Old Z n0 h0) (H0 : Exa Z h0 a1 "com/example/ebbtide/ebbtide/core/Encoder") (H1 : Fld Z h0 a1 "com/example/ebbtide/ebbtide/core/Encoder" "bytes" "[B" (Value.ref aB)) (H2 : Fld Z h0 a1 "com/example/ebbtide/ebbtide/core/Encoder" "length" "I" (Value.int (6 : Int32))) (H3 : Arv Z h0 aB kB .byte (256 : Int32) vs (Value.int (0 : Int32))) (H4 : n0 ≤ a1) (H5 : n0 ≤ aB) (H6 : a1 ≠ aB) (hvl : vs.length = 256) (hz0 : ¬ ((q2 &&& (-128 : Int64)) = (0 : Int64))) (hz1 : (((q2.toUInt64 >>> ((7 : Int32) &&& 0x3f).toInt64.toUInt64).toInt64) &&& (-128 : Int64)) = (0 : Int64)) :
    MetFree l (⟨"com/example/ebbtide/ebbtide/core/Encoder", "unsigned", "(J)V"⟩ : MethodName) (head1 (Jvm.Cond.code (⟨"com/example/ebbtide/ebbtide/core/Encoder", "unsigned", "(J)V"⟩ : MethodName) prog_10_method_2_code 5 none :: ws) ({ frames := 2, cells := 0, slots := 0, locals := 28 } : Room)) (fun a U => a = #[(Value.ref a1), (Value.long q2)] ∧ Z.Warmed39 U.vm ∧ U.heap = h0) (fun _ _ _ _ _ => True) (fun _ U o U' => ∃ v L, o = .returned v ∧ Q6_2 Z a1 aB kB vs q2 h0 n0 v U'.heap L ∧ FrameEnd U o U' L ({ frames := 2, cells := 0, slots := 0, locals := 28 } : Room).cells ({ frames := 2, cells := 0, slots := 0, locals := 28 } : Room).slots) := by
  refine MetFree.of_bodySF (plainFor_of_name own_pn_com_example_ebbtide_ebbtide_core_Encoder) hisR ?_
  intro p e s m args below meth c s₁ Bd hml0 hP hK
  obtain ⟨rfl, hZ, hh⟩ := hP
  have hx := Bd.exec
  have hby := Bd.bytes
  have hml : c.maxLocals = 5 := hml0
  have hown : s.vm.findClass "com/example/ebbtide/ebbtide/core/Encoder" = some m.cls := findClass_of_methodNamed Bd.named
  have hnm := (name_of_methodNamed Bd.named Bd.method).1
  have X0 : Stand p l e ({ frames := 2, cells := 0, slots := 0, locals := 28 } : Room) s m #[(Value.ref a1), (Value.long q2)] below meth c s₁ [] 0 0 := Stand.of_body Bd
  have e0 : s₁.heap = h0 := by rw [← hh, Bd.state]; rfl
  have N0 := Fr.nil n0
  have K0 := Keep.refl h0 [a1, aB]
  show own_Go _ _ _ _ (s₁.setTop (entryFrame m #[(Value.ref a1), (Value.long q2)] 5))
  refine own_Go.by (fun tq kq => castTop (own_ef_6_2 m a1 q2) kq) ?_
  show own_Go _ _ _ _ (s₁.setTop (mkF m 0 #[sR a1, sJ q2, .second, .unset, .unset] []))
  refine own_Go.by (fun tq kq => XS.lloadN X0.here hx rfl (hb hby d6_0) rfl kq) ?_
  show own_Go _ _ _ _ (s₁.setTop (mkF m 1 #[sR a1, sJ q2, .second, .unset, .unset] [(Value.long q2)]))
  refine own_Go.by (fun tq kq => XS.lstoreN X0.here hx rfl (hb hby d6_1) rfl (l' := #[sR a1, sJ q2, .second, sJ q2, .second]) rfl kq) ?_
  refine own_Go.by (fun tq kq => XS.lloadN X0.here hx rfl (hb hby d6_2) rfl kq) ?_
  show own_Go _ _ _ _ (s₁.setTop (mkF m 3 #[sR a1, sJ q2, .second, sJ q2, .second] [(Value.long q2)]))
  refine own_Go.by (fun tq kq => X0.ldc2Long hx hown (mvT hZ (hw _ (List.mem_of_getElem? (i := 47) rfl))) (g := (mkF m 3 #[sR a1, sJ q2, .second, sJ q2, .second] [(Value.long q2)])) rfl (hb hby d6_3) _ kq) ?_
  show own_Go _ _ _ _ (s₁.setTop (mkF m 6 #[sR a1, sJ q2, .second, sJ q2, .second] [(Value.long (-128 : Int64)), (Value.long q2)]))
  refine own_Go.by (fun tq kq => XS.land X0.here hx rfl (hb hby d6_6) rfl kq) ?_
  refine own_Go.by (fun tq kq => XS.lconst X0.here hx rfl (hb hby d6_7) kq) ?_
  show own_Go _ _ _ _ (s₁.setTop (mkF m 8 #[sR a1, sJ q2, .second, sJ q2, .second] [(Value.long (0 : Int64)), (Value.long (q2 &&& (-128 : Int64)))]))
  refine own_Go.by (fun tq kq => XS.lcmp X0.here hx rfl (hb hby d6_8) rfl kq) ?_
  show own_Go _ _ _ _ (s₁.setTop (mkF m 9 #[sR a1, sJ q2, .second, sJ q2, .second] [(Value.int (lcmpW (q2 &&& (-128 : Int64)) (0 : Int64)))]))
  refine own_Go.by (fun tq kq => XS.ifNo X0.here hx rfl (hb hby d6_9) rfl ((if0 _ _).trans (feq (mt (lw_eq (q2 &&& (-128 : Int64)) (0 : Int64)).mp hz0)).1) kq) ?_
  refine own_Go.by (fun tq kq => XS.aloadN X0.here hx rfl (hb hby d6_12) rfl rfl kq) ?_
  refine own_Go.by (fun tq kq => XS.lloadN X0.here hx rfl (hb hby d6_13) rfl kq) ?_
  show own_Go _ _ _ _ (s₁.setTop (mkF m 14 #[sR a1, sJ q2, .second, sJ q2, .second] [(Value.long q2), (Value.ref a1)]))
  refine own_Go.by (fun tq kq => X0.ldc2Long hx hown (mvT hZ (hw _ (List.mem_of_getElem? (i := 93) rfl))) (g := (mkF m 14 #[sR a1, sJ q2, .second, sJ q2, .second] [(Value.long q2), (Value.ref a1)])) rfl (hb hby d6_14) _ kq) ?_
  show own_Go _ _ _ _ (s₁.setTop (mkF m 17 #[sR a1, sJ q2, .second, sJ q2, .second] [(Value.long (127 : Int64)), (Value.long q2), (Value.ref a1)]))
  refine own_Go.by (fun tq kq => XS.land X0.here hx rfl (hb hby d6_17) rfl kq) ?_
  show own_Go _ _ _ _ (s₁.setTop (mkF m 18 #[sR a1, sJ q2, .second, sJ q2, .second] [(Value.long (q2 &&& (127 : Int64))), (Value.ref a1)]))
  refine own_Go.by (fun tq kq => X0.ldc2Long hx hown (mvT hZ (hw _ (List.mem_of_getElem? (i := 94) rfl))) (g := (mkF m 18 #[sR a1, sJ q2, .second, sJ q2, .second] [(Value.long (q2 &&& (127 : Int64))), (Value.ref a1)])) rfl (hb hby d6_18) _ kq) ?_
  show own_Go _ _ _ _ (s₁.setTop (mkF m 21 #[sR a1, sJ q2, .second, sJ q2, .second] [(Value.long (128 : Int64)), (Value.long (q2 &&& (127 : Int64))), (Value.ref a1)]))
  refine own_Go.by (fun tq kq => XS.lor X0.here hx rfl (hb hby d6_21) rfl kq) ?_
  refine own_Go.by (fun tq kq => XS.l2i X0.here hx rfl (hb hby d6_22) rfl kq) ?_
  refine own_Go.by (fun tq kq => XS.i2b X0.here hx rfl (hb hby d6_23) rfl kq) ?_
  show own_Go _ _ _ _ (s₁.setTop (mkF m 24 #[sR a1, sJ q2, .second, sJ q2, .second] [(Value.int ((((q2 &&& (127 : Int64)) ||| (128 : Int64)).toInt32).toInt8.toInt32)), (Value.ref a1)]))
  obtain ⟨cq1, q1, q1'⟩ := H0.cell
  obtain ⟨_, _, ⟨T1, L1, k1, n1⟩, -, X1, ⟨Lc1, hQ1, l1, y1, z1⟩, st1⟩ := X0.privateBack hx (y := (⟨"com/example/ebbtide/ebbtide/core/Encoder", "put", "(B)V"⟩ : MethodName)) hown (mvT hZ (hw _ (List.mem_of_getElem? (i := 30) rfl))) (mvT hZ (hw _ (List.mem_of_getElem? (i := 31) rfl))) (own_privsel (mvT hZ (hw _ (List.mem_of_getElem? (i := 7) rfl)) (args := #[])) (mvP hZ (hw _ (List.mem_of_getElem? (i := 32) rfl)) (args := #[])) (mvT hZ (hw _ (List.mem_of_getElem? (i := 31) rfl))) (by decide)) (Cond.privateMethod_at (mvP hZ (hw _ (List.mem_of_getElem? (i := 32) rfl)) (args := #[]))) (mvT hZ (hw _ (List.mem_of_getElem? (i := 33) rfl))) (by decide) (backOf (W := 0) (rm4 l Z a0 hw [] a1 aB kB vs (6 : Int32) ((((q2 &&& (127 : Int64)) ||| (128 : Int64)).toInt32).toInt8.toInt32) 6 h0 n0 O0 H0 H1 H2 H3 H4 H5 H6 (by decide : ¬ ((2147483639 : Int64) < (((6 : Int32).toInt64) + ((1 : Int32).toInt64)))) (by decide : ¬ (((256 : Int32).toInt64) < (((6 : Int32).toInt64) + ((1 : Int32).toInt64)))) (by decide : ¬ ((6 : Int32) < (0 : Int32)) ∧ (6 : Int32) < (256 : Int32)) (rfl : (6 : Int32).toNatClampNeg = 6) (by simp [hvl] : 6 < vs.length) (own_b8 _ : ((((q2 &&& (127 : Int64)) ||| (128 : Int64)).toInt32).toInt8.toInt32).toInt8.toInt32 = ((((q2 &&& (127 : Int64)) ||| (128 : Int64)).toInt32).toInt8.toInt32))) hZ (hw _ (List.mem_of_getElem? (i := 33) rfl)) (hw _ (List.mem_of_getElem? (i := 8) rfl)) (by decide) (by decide)) (g := (mkF m 24 #[sR a1, sJ q2, .second, sJ q2, .second] [(Value.int ((((q2 &&& (127 : Int64)) ||| (128 : Int64)).toInt32).toInt8.toInt32)), (Value.ref a1)])) rfl (by rw [hml]; rfl) (Steps.refl _) (a := a1) (by rw [e0]; exact q1) q1' (argsL := [(Value.int ((((q2 &&& (127 : Int64)) ||| (128 : Int64)).toInt32).toInt8.toInt32))]) (rest := []) (lenOf own_pd1 rfl) rfl (by show 2 * 0 + _ ≤ _; exact Nat.le_of_eq rfl) (hb hby d6_24) (fun _ _ => ⟨rfl, e0, (by decide : 0 + 0 ≤ _), (by decide : 0 + 0 ≤ _)⟩)
  dsimp only [Pt.U, Pt.locs, Pt.cells, Pt.slots] at X1 l1 y1 z1 st1 hQ1
  subst l1 y1 z1
  refine own_Go.by (fun tq kq => st1.trans kq) ?_
  obtain ⟨rfl, N1q, K1q, p1_0, p1_1, p1_2, p1_3⟩ := hQ1
  have N1 := Fr.app N0 N1q
  have O2 := O0.keep K1q (allS H4 (allS H5 all0))
  have K2 := K0.trans K1q (allS (Or.inl (List.mem_of_getElem? (i := 0) rfl)) (allS (Or.inl (List.mem_of_getElem? (i := 1) rfl)) all0))
  refine own_Go.by (fun tq kq => XS.lloadN X1.here hx rfl (hb hby d6_27) rfl kq) ?_
  refine own_Go.by (fun tq kq => XS.bipush X1.here hx rfl (hb hby d6_28) kq) ?_
  show own_Go _ _ _ _ (T1.setTop (mkF m 30 #[sR a1, sJ q2, .second, sJ q2, .second] [(Value.int (7 : Int32)), (Value.long q2)]))
  refine own_Go.by (fun tq kq => XS.lushr X1.here hx rfl (hb hby d6_30) rfl kq) ?_
  show own_Go _ _ _ _ (T1.setTop (mkF m 31 #[sR a1, sJ q2, .second, sJ q2, .second] [(Value.long ((q2.toUInt64 >>> ((7 : Int32) &&& 0x3f).toInt64.toUInt64).toInt64))]))
  refine own_Go.by (fun tq kq => XS.lstoreN X1.here hx rfl (hb hby d6_31) rfl (l' := #[sR a1, sJ q2, .second, .val (Value.long ((q2.toUInt64 >>> ((7 : Int32) &&& 0x3f).toInt64.toUInt64).toInt64)), .second]) rfl kq) ?_
  refine own_Go.by (fun tq kq => XS.goto X1.here hx rfl (pc0 := 32) (pc' := 2) rfl (hb hby d6_32) (by decide) (by decide) kq) ?_
  refine own_Go.by (fun tq kq => XS.lloadN X1.here hx rfl (hb hby d6_2) rfl kq) ?_
  show own_Go _ _ _ _ (T1.setTop (mkF m 3 #[sR a1, sJ q2, .second, .val (Value.long ((q2.toUInt64 >>> ((7 : Int32) &&& 0x3f).toInt64.toUInt64).toInt64)), .second] [(Value.long ((q2.toUInt64 >>> ((7 : Int32) &&& 0x3f).toInt64.toUInt64).toInt64))]))
  refine own_Go.by (fun tq kq => X1.ldc2Long hx hown (mvT hZ (hw _ (List.mem_of_getElem? (i := 47) rfl))) (g := (mkF m 3 #[sR a1, sJ q2, .second, .val (Value.long ((q2.toUInt64 >>> ((7 : Int32) &&& 0x3f).toInt64.toUInt64).toInt64)), .second] [(Value.long ((q2.toUInt64 >>> ((7 : Int32) &&& 0x3f).toInt64.toUInt64).toInt64))])) rfl (hb hby d6_3) _ kq) ?_
  show own_Go _ _ _ _ (T1.setTop (mkF m 6 #[sR a1, sJ q2, .second, .val (Value.long ((q2.toUInt64 >>> ((7 : Int32) &&& 0x3f).toInt64.toUInt64).toInt64)), .second] [(Value.long (-128 : Int64)), (Value.long ((q2.toUInt64 >>> ((7 : Int32) &&& 0x3f).toInt64.toUInt64).toInt64))]))
  refine own_Go.by (fun tq kq => XS.land X1.here hx rfl (hb hby d6_6) rfl kq) ?_
  refine own_Go.by (fun tq kq => XS.lconst X1.here hx rfl (hb hby d6_7) kq) ?_
  show own_Go _ _ _ _ (T1.setTop (mkF m 8 #[sR a1, sJ q2, .second, .val (Value.long ((q2.toUInt64 >>> ((7 : Int32) &&& 0x3f).toInt64.toUInt64).toInt64)), .second] [(Value.long (0 : Int64)), (Value.long (((q2.toUInt64 >>> ((7 : Int32) &&& 0x3f).toInt64.toUInt64).toInt64) &&& (-128 : Int64)))]))
  refine own_Go.by (fun tq kq => XS.lcmp X1.here hx rfl (hb hby d6_8) rfl kq) ?_
  show own_Go _ _ _ _ (T1.setTop (mkF m 9 #[sR a1, sJ q2, .second, .val (Value.long ((q2.toUInt64 >>> ((7 : Int32) &&& 0x3f).toInt64.toUInt64).toInt64)), .second] [(Value.int (lcmpW (((q2.toUInt64 >>> ((7 : Int32) &&& 0x3f).toInt64.toUInt64).toInt64) &&& (-128 : Int64)) (0 : Int64)))]))
  refine own_Go.by (fun tq kq => XS.ifYes X1.here hx rfl (pc0 := 9) (pc' := 35) rfl (hb hby d6_9) rfl ((if0 _ _).trans (teq ((lw_eq (((q2.toUInt64 >>> ((7 : Int32) &&& 0x3f).toInt64.toUInt64).toInt64) &&& (-128 : Int64)) (0 : Int64)).mpr hz1)).1) (by decide) (by decide) kq) ?_
  refine own_Go.by (fun tq kq => XS.aloadN X1.here hx rfl (hb hby d6_35) rfl rfl kq) ?_
  refine own_Go.by (fun tq kq => XS.lloadN X1.here hx rfl (hb hby d6_36) rfl kq) ?_
  refine own_Go.by (fun tq kq => XS.l2i X1.here hx rfl (hb hby d6_37) rfl kq) ?_
  show own_Go _ _ _ _ (T1.setTop (mkF m 38 #[sR a1, sJ q2, .second, .val (Value.long ((q2.toUInt64 >>> ((7 : Int32) &&& 0x3f).toInt64.toUInt64).toInt64)), .second] [(Value.int (((q2.toUInt64 >>> ((7 : Int32) &&& 0x3f).toInt64.toUInt64).toInt64).toInt32)), (Value.ref a1)]))
  refine own_Go.by (fun tq kq => XS.i2b X1.here hx rfl (hb hby d6_38) rfl kq) ?_
  show own_Go _ _ _ _ (T1.setTop (mkF m 39 #[sR a1, sJ q2, .second, .val (Value.long ((q2.toUInt64 >>> ((7 : Int32) &&& 0x3f).toInt64.toUInt64).toInt64)), .second] [(Value.int ((((q2.toUInt64 >>> ((7 : Int32) &&& 0x3f).toInt64.toUInt64).toInt64).toInt32).toInt8.toInt32)), (Value.ref a1)]))
  obtain ⟨cq3, q3, q3'⟩ := p1_0.cell
  obtain ⟨_, _, ⟨T3, L3, k3, n3⟩, -, X3, ⟨Lc3, hQ3, l3, y3, z3⟩, st3⟩ := X1.privateBack hx (y := (⟨"com/example/ebbtide/ebbtide/core/Encoder", "put", "(B)V"⟩ : MethodName)) hown (mvT hZ (hw _ (List.mem_of_getElem? (i := 30) rfl))) (mvT hZ (hw _ (List.mem_of_getElem? (i := 31) rfl))) (own_privsel (mvT hZ (hw _ (List.mem_of_getElem? (i := 7) rfl)) (args := #[])) (mvP hZ (hw _ (List.mem_of_getElem? (i := 32) rfl)) (args := #[])) (mvT hZ (hw _ (List.mem_of_getElem? (i := 31) rfl))) (by decide)) (Cond.privateMethod_at (mvP hZ (hw _ (List.mem_of_getElem? (i := 32) rfl)) (args := #[]))) (mvT hZ (hw _ (List.mem_of_getElem? (i := 33) rfl))) (by decide) (backOf (W := 0) (rm4 l Z a0 hw [] a1 aB kB (vs.set 6 (Value.int ((((q2 &&& (127 : Int64)) ||| (128 : Int64)).toInt32).toInt8.toInt32))) (7 : Int32) ((((q2.toUInt64 >>> ((7 : Int32) &&& 0x3f).toInt64.toUInt64).toInt64).toInt32).toInt8.toInt32) 7 T1.heap n0 O2 p1_0 p1_1 p1_2 p1_3 H4 H5 H6 (by decide : ¬ ((2147483639 : Int64) < (((7 : Int32).toInt64) + ((1 : Int32).toInt64)))) (by decide : ¬ (((256 : Int32).toInt64) < (((7 : Int32).toInt64) + ((1 : Int32).toInt64)))) (by decide : ¬ ((7 : Int32) < (0 : Int32)) ∧ (7 : Int32) < (256 : Int32)) (rfl : (7 : Int32).toNatClampNeg = 7) (by simp [hvl] : 7 < (vs.set 6 (Value.int ((((q2 &&& (127 : Int64)) ||| (128 : Int64)).toInt32).toInt8.toInt32))).length) (own_b8 _ : ((((q2.toUInt64 >>> ((7 : Int32) &&& 0x3f).toInt64.toUInt64).toInt64).toInt32).toInt8.toInt32).toInt8.toInt32 = ((((q2.toUInt64 >>> ((7 : Int32) &&& 0x3f).toInt64.toUInt64).toInt64).toInt32).toInt8.toInt32))) hZ (hw _ (List.mem_of_getElem? (i := 33) rfl)) (hw _ (List.mem_of_getElem? (i := 8) rfl)) (by decide) (by decide)) (g := (mkF m 39 #[sR a1, sJ q2, .second, .val (Value.long ((q2.toUInt64 >>> ((7 : Int32) &&& 0x3f).toInt64.toUInt64).toInt64)), .second] [(Value.int ((((q2.toUInt64 >>> ((7 : Int32) &&& 0x3f).toInt64.toUInt64).toInt64).toInt32).toInt8.toInt32)), (Value.ref a1)])) rfl (by rw [hml]; rfl) (Steps.refl _) (a := a1) q3 q3' (argsL := [(Value.int ((((q2.toUInt64 >>> ((7 : Int32) &&& 0x3f).toInt64.toUInt64).toInt64).toInt32).toInt8.toInt32))]) (rest := []) (lenOf own_pd1 rfl) rfl (by show 2 * 0 + _ ≤ _; exact Nat.le_of_eq rfl) (hb hby d6_39) (fun _ _ => ⟨rfl, rfl, (by decide : 0 + 0 ≤ _), (by decide : 0 + 0 ≤ _)⟩)
  dsimp only [Pt.U, Pt.locs, Pt.cells, Pt.slots] at X3 l3 y3 z3 st3 hQ3
  subst l3 y3 z3
  refine own_Go.by (fun tq kq => st3.trans kq) ?_
  obtain ⟨rfl, N3q, K3q, p3_0, p3_1, p3_2, p3_3⟩ := hQ3
  have N3 := Fr.app N1 N3q
  have O4 := O2.keep K3q (allS H4 (allS H5 all0))
  have K4 := K2.trans K3q (allS (Or.inl (List.mem_of_getElem? (i := 0) rfl)) (allS (Or.inl (List.mem_of_getElem? (i := 1) rfl)) all0))
  show own_Go _ _ _ _ (T3.setTop (mkF m 42 #[sR a1, sJ q2, .second, .val (Value.long ((q2.toUInt64 >>> ((7 : Int32) &&& 0x3f).toInt64.toUInt64).toInt64)), .second] []))
  obtain ⟨fs, hr, hrun, hended, hW, hsame⟩ := X3.leave (v := none) (fun _ => rfl)
  refine own_Go.fin (X3.returnOut hx Bd.returns (hb hby d6_42) hr) ⟨hrun, hended, _, _, rfl, ?_, ⟨_, rfl⟩, hW, hsame.mono (by decide) (by decide)⟩
  show Q6_2 Z a1 aB kB vs q2 h0 n0 _ T3.heap _
  exact ⟨rfl, N3, K4, p3_0, p3_1, p3_2, p3_3⟩

theorem own_ef_6_3 (m : MethodId) (a1 : Addr) (q2 : Int64) : entryFrame m #[(Value.ref a1), (Value.long q2)] 5 = mkF m 0 #[sR a1, sJ q2, .second, .unset, .unset] [] := by first | (simp [entryFrame, mkF, argsToLocals, Value.category]; done) | rfl
def Q6_3 (Z : State) (a1 : Addr) (aB : Addr) (kB : ClassId) (vs : List Value) (q2 : Int64) (h0 : Heap) (n0 : Nat) (v : Option Value) (h : Heap) (L : List Loc) : Prop := v = none ∧ Fr n0 L ∧ Keep h0 h [a1, aB] ∧ (Exa Z h a1 "com/example/ebbtide/ebbtide/core/Encoder") ∧ (Fld Z h a1 "com/example/ebbtide/ebbtide/core/Encoder" "bytes" "[B" (Value.ref aB)) ∧ (Fld Z h a1 "com/example/ebbtide/ebbtide/core/Encoder" "length" "I" (Value.int (9 : Int32))) ∧ (Arv Z h aB kB .byte (256 : Int32) (((vs.set 6 (Value.int ((((q2 &&& (127 : Int64)) ||| (128 : Int64)).toInt32).toInt8.toInt32))).set 7 (Value.int ((((((q2.toUInt64 >>> ((7 : Int32) &&& 0x3f).toInt64.toUInt64).toInt64) &&& (127 : Int64)) ||| (128 : Int64)).toInt32).toInt8.toInt32))).set 8 (Value.int ((((((q2.toUInt64 >>> ((7 : Int32) &&& 0x3f).toInt64.toUInt64).toInt64).toUInt64 >>> ((7 : Int32) &&& 0x3f).toInt64.toUInt64).toInt64).toInt32).toInt8.toInt32))) (Value.int (0 : Int32)))
set_option maxRecDepth 65536 in
set_option maxHeartbeats 40000000 in
theorem rm6_3 (l : Launch) (Z : State) (a0 : Array Value) (hw : ∀ d ∈ tables_1, d.before a0 Z = true) (ws : List Jvm.Cond) (a1 : Addr) (aB : Addr) (kB : ClassId) (vs : List Value) (q2 : Int64) (h0 : Heap) (n0 : Nat) (O0 : Old Z n0 h0) (H0 : Exa Z h0 a1 "com/example/ebbtide/ebbtide/core/Encoder") (H1 : Fld Z h0 a1 "com/example/ebbtide/ebbtide/core/Encoder" "bytes" "[B" (Value.ref aB)) (H2 : Fld Z h0 a1 "com/example/ebbtide/ebbtide/core/Encoder" "length" "I" (Value.int (6 : Int32))) (H3 : Arv Z h0 aB kB .byte (256 : Int32) vs (Value.int (0 : Int32))) (H4 : n0 ≤ a1) (H5 : n0 ≤ aB) (H6 : a1 ≠ aB) (hvl : vs.length = 256) (hz0 : ¬ ((q2 &&& (-128 : Int64)) = (0 : Int64))) (hz1 : ¬ ((((q2.toUInt64 >>> ((7 : Int32) &&& 0x3f).toInt64.toUInt64).toInt64) &&& (-128 : Int64)) = (0 : Int64))) (hz2 : (((((q2.toUInt64 >>> ((7 : Int32) &&& 0x3f).toInt64.toUInt64).toInt64).toUInt64 >>> ((7 : Int32) &&& 0x3f).toInt64.toUInt64).toInt64) &&& (-128 : Int64)) = (0 : Int64)) :
    MetFree l (⟨"com/example/ebbtide/ebbtide/core/Encoder", "unsigned", "(J)V"⟩ : MethodName) (head1 (Jvm.Cond.code (⟨"com/example/ebbtide/ebbtide/core/Encoder", "unsigned", "(J)V"⟩ : MethodName) prog_10_method_2_code 5 none :: ws) ({ frames := 2, cells := 0, slots := 0, locals := 28 } : Room)) (fun a U => a = #[(Value.ref a1), (Value.long q2)] ∧ Z.Warmed39 U.vm ∧ U.heap = h0) (fun _ _ _ _ _ => True) (fun _ U o U' => ∃ v L, o = .returned v ∧ Q6_3 Z a1 aB kB vs q2 h0 n0 v U'.heap L ∧ FrameEnd U o U' L ({ frames := 2, cells := 0, slots := 0, locals := 28 } : Room).cells ({ frames := 2, cells := 0, slots := 0, locals := 28 } : Room).slots) := by
  refine MetFree.of_bodySF (plainFor_of_name own_pn_com_example_ebbtide_ebbtide_core_Encoder) hisR ?_
  intro p e s m args below meth c s₁ Bd hml0 hP hK
  obtain ⟨rfl, hZ, hh⟩ := hP
  have hx := Bd.exec
  have hby := Bd.bytes
  have hml : c.maxLocals = 5 := hml0
  have hown : s.vm.findClass "com/example/ebbtide/ebbtide/core/Encoder" = some m.cls := findClass_of_methodNamed Bd.named
  have hnm := (name_of_methodNamed Bd.named Bd.method).1
  have X0 : Stand p l e ({ frames := 2, cells := 0, slots := 0, locals := 28 } : Room) s m #[(Value.ref a1), (Value.long q2)] below meth c s₁ [] 0 0 := Stand.of_body Bd
  have e0 : s₁.heap = h0 := by rw [← hh, Bd.state]; rfl
  have N0 := Fr.nil n0
  have K0 := Keep.refl h0 [a1, aB]
  show own_Go _ _ _ _ (s₁.setTop (entryFrame m #[(Value.ref a1), (Value.long q2)] 5))
  refine own_Go.by (fun tq kq => castTop (own_ef_6_3 m a1 q2) kq) ?_
  show own_Go _ _ _ _ (s₁.setTop (mkF m 0 #[sR a1, sJ q2, .second, .unset, .unset] []))
  refine own_Go.by (fun tq kq => XS.lloadN X0.here hx rfl (hb hby d6_0) rfl kq) ?_
  show own_Go _ _ _ _ (s₁.setTop (mkF m 1 #[sR a1, sJ q2, .second, .unset, .unset] [(Value.long q2)]))
  refine own_Go.by (fun tq kq => XS.lstoreN X0.here hx rfl (hb hby d6_1) rfl (l' := #[sR a1, sJ q2, .second, sJ q2, .second]) rfl kq) ?_
  refine own_Go.by (fun tq kq => XS.lloadN X0.here hx rfl (hb hby d6_2) rfl kq) ?_
  show own_Go _ _ _ _ (s₁.setTop (mkF m 3 #[sR a1, sJ q2, .second, sJ q2, .second] [(Value.long q2)]))
  refine own_Go.by (fun tq kq => X0.ldc2Long hx hown (mvT hZ (hw _ (List.mem_of_getElem? (i := 47) rfl))) (g := (mkF m 3 #[sR a1, sJ q2, .second, sJ q2, .second] [(Value.long q2)])) rfl (hb hby d6_3) _ kq) ?_
  show own_Go _ _ _ _ (s₁.setTop (mkF m 6 #[sR a1, sJ q2, .second, sJ q2, .second] [(Value.long (-128 : Int64)), (Value.long q2)]))
  refine own_Go.by (fun tq kq => XS.land X0.here hx rfl (hb hby d6_6) rfl kq) ?_
  refine own_Go.by (fun tq kq => XS.lconst X0.here hx rfl (hb hby d6_7) kq) ?_
  show own_Go _ _ _ _ (s₁.setTop (mkF m 8 #[sR a1, sJ q2, .second, sJ q2, .second] [(Value.long (0 : Int64)), (Value.long (q2 &&& (-128 : Int64)))]))
  refine own_Go.by (fun tq kq => XS.lcmp X0.here hx rfl (hb hby d6_8) rfl kq) ?_
  show own_Go _ _ _ _ (s₁.setTop (mkF m 9 #[sR a1, sJ q2, .second, sJ q2, .second] [(Value.int (lcmpW (q2 &&& (-128 : Int64)) (0 : Int64)))]))
  refine own_Go.by (fun tq kq => XS.ifNo X0.here hx rfl (hb hby d6_9) rfl ((if0 _ _).trans (feq (mt (lw_eq (q2 &&& (-128 : Int64)) (0 : Int64)).mp hz0)).1) kq) ?_
  refine own_Go.by (fun tq kq => XS.aloadN X0.here hx rfl (hb hby d6_12) rfl rfl kq) ?_
  refine own_Go.by (fun tq kq => XS.lloadN X0.here hx rfl (hb hby d6_13) rfl kq) ?_
  show own_Go _ _ _ _ (s₁.setTop (mkF m 14 #[sR a1, sJ q2, .second, sJ q2, .second] [(Value.long q2), (Value.ref a1)]))
  refine own_Go.by (fun tq kq => X0.ldc2Long hx hown (mvT hZ (hw _ (List.mem_of_getElem? (i := 93) rfl))) (g := (mkF m 14 #[sR a1, sJ q2, .second, sJ q2, .second] [(Value.long q2), (Value.ref a1)])) rfl (hb hby d6_14) _ kq) ?_
  show own_Go _ _ _ _ (s₁.setTop (mkF m 17 #[sR a1, sJ q2, .second, sJ q2, .second] [(Value.long (127 : Int64)), (Value.long q2), (Value.ref a1)]))
  refine own_Go.by (fun tq kq => XS.land X0.here hx rfl (hb hby d6_17) rfl kq) ?_
  show own_Go _ _ _ _ (s₁.setTop (mkF m 18 #[sR a1, sJ q2, .second, sJ q2, .second] [(Value.long (q2 &&& (127 : Int64))), (Value.ref a1)]))
  refine own_Go.by (fun tq kq => X0.ldc2Long hx hown (mvT hZ (hw _ (List.mem_of_getElem? (i := 94) rfl))) (g := (mkF m 18 #[sR a1, sJ q2, .second, sJ q2, .second] [(Value.long (q2 &&& (127 : Int64))), (Value.ref a1)])) rfl (hb hby d6_18) _ kq) ?_
  show own_Go _ _ _ _ (s₁.setTop (mkF m 21 #[sR a1, sJ q2, .second, sJ q2, .second] [(Value.long (128 : Int64)), (Value.long (q2 &&& (127 : Int64))), (Value.ref a1)]))
  refine own_Go.by (fun tq kq => XS.lor X0.here hx rfl (hb hby d6_21) rfl kq) ?_
  refine own_Go.by (fun tq kq => XS.l2i X0.here hx rfl (hb hby d6_22) rfl kq) ?_
  refine own_Go.by (fun tq kq => XS.i2b X0.here hx rfl (hb hby d6_23) rfl kq) ?_
  show own_Go _ _ _ _ (s₁.setTop (mkF m 24 #[sR a1, sJ q2, .second, sJ q2, .second] [(Value.int ((((q2 &&& (127 : Int64)) ||| (128 : Int64)).toInt32).toInt8.toInt32)), (Value.ref a1)]))
  obtain ⟨cq1, q1, q1'⟩ := H0.cell
  obtain ⟨_, _, ⟨T1, L1, k1, n1⟩, -, X1, ⟨Lc1, hQ1, l1, y1, z1⟩, st1⟩ := X0.privateBack hx (y := (⟨"com/example/ebbtide/ebbtide/core/Encoder", "put", "(B)V"⟩ : MethodName)) hown (mvT hZ (hw _ (List.mem_of_getElem? (i := 30) rfl))) (mvT hZ (hw _ (List.mem_of_getElem? (i := 31) rfl))) (own_privsel (mvT hZ (hw _ (List.mem_of_getElem? (i := 7) rfl)) (args := #[])) (mvP hZ (hw _ (List.mem_of_getElem? (i := 32) rfl)) (args := #[])) (mvT hZ (hw _ (List.mem_of_getElem? (i := 31) rfl))) (by decide)) (Cond.privateMethod_at (mvP hZ (hw _ (List.mem_of_getElem? (i := 32) rfl)) (args := #[]))) (mvT hZ (hw _ (List.mem_of_getElem? (i := 33) rfl))) (by decide) (backOf (W := 0) (rm4 l Z a0 hw [] a1 aB kB vs (6 : Int32) ((((q2 &&& (127 : Int64)) ||| (128 : Int64)).toInt32).toInt8.toInt32) 6 h0 n0 O0 H0 H1 H2 H3 H4 H5 H6 (by decide : ¬ ((2147483639 : Int64) < (((6 : Int32).toInt64) + ((1 : Int32).toInt64)))) (by decide : ¬ (((256 : Int32).toInt64) < (((6 : Int32).toInt64) + ((1 : Int32).toInt64)))) (by decide : ¬ ((6 : Int32) < (0 : Int32)) ∧ (6 : Int32) < (256 : Int32)) (rfl : (6 : Int32).toNatClampNeg = 6) (by simp [hvl] : 6 < vs.length) (own_b8 _ : ((((q2 &&& (127 : Int64)) ||| (128 : Int64)).toInt32).toInt8.toInt32).toInt8.toInt32 = ((((q2 &&& (127 : Int64)) ||| (128 : Int64)).toInt32).toInt8.toInt32))) hZ (hw _ (List.mem_of_getElem? (i := 33) rfl)) (hw _ (List.mem_of_getElem? (i := 8) rfl)) (by decide) (by decide)) (g := (mkF m 24 #[sR a1, sJ q2, .second, sJ q2, .second] [(Value.int ((((q2 &&& (127 : Int64)) ||| (128 : Int64)).toInt32).toInt8.toInt32)), (Value.ref a1)])) rfl (by rw [hml]; rfl) (Steps.refl _) (a := a1) (by rw [e0]; exact q1) q1' (argsL := [(Value.int ((((q2 &&& (127 : Int64)) ||| (128 : Int64)).toInt32).toInt8.toInt32))]) (rest := []) (lenOf own_pd1 rfl) rfl (by show 2 * 0 + _ ≤ _; exact Nat.le_of_eq rfl) (hb hby d6_24) (fun _ _ => ⟨rfl, e0, (by decide : 0 + 0 ≤ _), (by decide : 0 + 0 ≤ _)⟩)
  dsimp only [Pt.U, Pt.locs, Pt.cells, Pt.slots] at X1 l1 y1 z1 st1 hQ1
  subst l1 y1 z1
  refine own_Go.by (fun tq kq => st1.trans kq) ?_
  obtain ⟨rfl, N1q, K1q, p1_0, p1_1, p1_2, p1_3⟩ := hQ1
  have N1 := Fr.app N0 N1q
  have O2 := O0.keep K1q (allS H4 (allS H5 all0))
  have K2 := K0.trans K1q (allS (Or.inl (List.mem_of_getElem? (i := 0) rfl)) (allS (Or.inl (List.mem_of_getElem? (i := 1) rfl)) all0))
  refine own_Go.by (fun tq kq => XS.lloadN X1.here hx rfl (hb hby d6_27) rfl kq) ?_
  refine own_Go.by (fun tq kq => XS.bipush X1.here hx rfl (hb hby d6_28) kq) ?_
  show own_Go _ _ _ _ (T1.setTop (mkF m 30 #[sR a1, sJ q2, .second, sJ q2, .second] [(Value.int (7 : Int32)), (Value.long q2)]))
  refine own_Go.by (fun tq kq => XS.lushr X1.here hx rfl (hb hby d6_30) rfl kq) ?_
  show own_Go _ _ _ _ (T1.setTop (mkF m 31 #[sR a1, sJ q2, .second, sJ q2, .second] [(Value.long ((q2.toUInt64 >>> ((7 : Int32) &&& 0x3f).toInt64.toUInt64).toInt64))]))
  refine own_Go.by (fun tq kq => XS.lstoreN X1.here hx rfl (hb hby d6_31) rfl (l' := #[sR a1, sJ q2, .second, .val (Value.long ((q2.toUInt64 >>> ((7 : Int32) &&& 0x3f).toInt64.toUInt64).toInt64)), .second]) rfl kq) ?_
  refine own_Go.by (fun tq kq => XS.goto X1.here hx rfl (pc0 := 32) (pc' := 2) rfl (hb hby d6_32) (by decide) (by decide) kq) ?_
  refine own_Go.by (fun tq kq => XS.lloadN X1.here hx rfl (hb hby d6_2) rfl kq) ?_
  show own_Go _ _ _ _ (T1.setTop (mkF m 3 #[sR a1, sJ q2, .second, .val (Value.long ((q2.toUInt64 >>> ((7 : Int32) &&& 0x3f).toInt64.toUInt64).toInt64)), .second] [(Value.long ((q2.toUInt64 >>> ((7 : Int32) &&& 0x3f).toInt64.toUInt64).toInt64))]))
  refine own_Go.by (fun tq kq => X1.ldc2Long hx hown (mvT hZ (hw _ (List.mem_of_getElem? (i := 47) rfl))) (g := (mkF m 3 #[sR a1, sJ q2, .second, .val (Value.long ((q2.toUInt64 >>> ((7 : Int32) &&& 0x3f).toInt64.toUInt64).toInt64)), .second] [(Value.long ((q2.toUInt64 >>> ((7 : Int32) &&& 0x3f).toInt64.toUInt64).toInt64))])) rfl (hb hby d6_3) _ kq) ?_
  show own_Go _ _ _ _ (T1.setTop (mkF m 6 #[sR a1, sJ q2, .second, .val (Value.long ((q2.toUInt64 >>> ((7 : Int32) &&& 0x3f).toInt64.toUInt64).toInt64)), .second] [(Value.long (-128 : Int64)), (Value.long ((q2.toUInt64 >>> ((7 : Int32) &&& 0x3f).toInt64.toUInt64).toInt64))]))
  refine own_Go.by (fun tq kq => XS.land X1.here hx rfl (hb hby d6_6) rfl kq) ?_
  refine own_Go.by (fun tq kq => XS.lconst X1.here hx rfl (hb hby d6_7) kq) ?_
  show own_Go _ _ _ _ (T1.setTop (mkF m 8 #[sR a1, sJ q2, .second, .val (Value.long ((q2.toUInt64 >>> ((7 : Int32) &&& 0x3f).toInt64.toUInt64).toInt64)), .second] [(Value.long (0 : Int64)), (Value.long (((q2.toUInt64 >>> ((7 : Int32) &&& 0x3f).toInt64.toUInt64).toInt64) &&& (-128 : Int64)))]))
  refine own_Go.by (fun tq kq => XS.lcmp X1.here hx rfl (hb hby d6_8) rfl kq) ?_
  show own_Go _ _ _ _ (T1.setTop (mkF m 9 #[sR a1, sJ q2, .second, .val (Value.long ((q2.toUInt64 >>> ((7 : Int32) &&& 0x3f).toInt64.toUInt64).toInt64)), .second] [(Value.int (lcmpW (((q2.toUInt64 >>> ((7 : Int32) &&& 0x3f).toInt64.toUInt64).toInt64) &&& (-128 : Int64)) (0 : Int64)))]))
  refine own_Go.by (fun tq kq => XS.ifNo X1.here hx rfl (hb hby d6_9) rfl ((if0 _ _).trans (feq (mt (lw_eq (((q2.toUInt64 >>> ((7 : Int32) &&& 0x3f).toInt64.toUInt64).toInt64) &&& (-128 : Int64)) (0 : Int64)).mp hz1)).1) kq) ?_
  refine own_Go.by (fun tq kq => XS.aloadN X1.here hx rfl (hb hby d6_12) rfl rfl kq) ?_
  refine own_Go.by (fun tq kq => XS.lloadN X1.here hx rfl (hb hby d6_13) rfl kq) ?_
  show own_Go _ _ _ _ (T1.setTop (mkF m 14 #[sR a1, sJ q2, .second, .val (Value.long ((q2.toUInt64 >>> ((7 : Int32) &&& 0x3f).toInt64.toUInt64).toInt64)), .second] [(Value.long ((q2.toUInt64 >>> ((7 : Int32) &&& 0x3f).toInt64.toUInt64).toInt64)), (Value.ref a1)]))
  refine own_Go.by (fun tq kq => X1.ldc2Long hx hown (mvT hZ (hw _ (List.mem_of_getElem? (i := 93) rfl))) (g := (mkF m 14 #[sR a1, sJ q2, .second, .val (Value.long ((q2.toUInt64 >>> ((7 : Int32) &&& 0x3f).toInt64.toUInt64).toInt64)), .second] [(Value.long ((q2.toUInt64 >>> ((7 : Int32) &&& 0x3f).toInt64.toUInt64).toInt64)), (Value.ref a1)])) rfl (hb hby d6_14) _ kq) ?_
  show own_Go _ _ _ _ (T1.setTop (mkF m 17 #[sR a1, sJ q2, .second, .val (Value.long ((q2.toUInt64 >>> ((7 : Int32) &&& 0x3f).toInt64.toUInt64).toInt64)), .second] [(Value.long (127 : Int64)), (Value.long ((q2.toUInt64 >>> ((7 : Int32) &&& 0x3f).toInt64.toUInt64).toInt64)), (Value.ref a1)]))
  refine own_Go.by (fun tq kq => XS.land X1.here hx rfl (hb hby d6_17) rfl kq) ?_
  show own_Go _ _ _ _ (T1.setTop (mkF m 18 #[sR a1, sJ q2, .second, .val (Value.long ((q2.toUInt64 >>> ((7 : Int32) &&& 0x3f).toInt64.toUInt64).toInt64)), .second] [(Value.long (((q2.toUInt64 >>> ((7 : Int32) &&& 0x3f).toInt64.toUInt64).toInt64) &&& (127 : Int64))), (Value.ref a1)]))
  refine own_Go.by (fun tq kq => X1.ldc2Long hx hown (mvT hZ (hw _ (List.mem_of_getElem? (i := 94) rfl))) (g := (mkF m 18 #[sR a1, sJ q2, .second, .val (Value.long ((q2.toUInt64 >>> ((7 : Int32) &&& 0x3f).toInt64.toUInt64).toInt64)), .second] [(Value.long (((q2.toUInt64 >>> ((7 : Int32) &&& 0x3f).toInt64.toUInt64).toInt64) &&& (127 : Int64))), (Value.ref a1)])) rfl (hb hby d6_18) _ kq) ?_
  show own_Go _ _ _ _ (T1.setTop (mkF m 21 #[sR a1, sJ q2, .second, .val (Value.long ((q2.toUInt64 >>> ((7 : Int32) &&& 0x3f).toInt64.toUInt64).toInt64)), .second] [(Value.long (128 : Int64)), (Value.long (((q2.toUInt64 >>> ((7 : Int32) &&& 0x3f).toInt64.toUInt64).toInt64) &&& (127 : Int64))), (Value.ref a1)]))
  refine own_Go.by (fun tq kq => XS.lor X1.here hx rfl (hb hby d6_21) rfl kq) ?_
  refine own_Go.by (fun tq kq => XS.l2i X1.here hx rfl (hb hby d6_22) rfl kq) ?_
  refine own_Go.by (fun tq kq => XS.i2b X1.here hx rfl (hb hby d6_23) rfl kq) ?_
  show own_Go _ _ _ _ (T1.setTop (mkF m 24 #[sR a1, sJ q2, .second, .val (Value.long ((q2.toUInt64 >>> ((7 : Int32) &&& 0x3f).toInt64.toUInt64).toInt64)), .second] [(Value.int ((((((q2.toUInt64 >>> ((7 : Int32) &&& 0x3f).toInt64.toUInt64).toInt64) &&& (127 : Int64)) ||| (128 : Int64)).toInt32).toInt8.toInt32)), (Value.ref a1)]))
  obtain ⟨cq3, q3, q3'⟩ := p1_0.cell
  obtain ⟨_, _, ⟨T3, L3, k3, n3⟩, -, X3, ⟨Lc3, hQ3, l3, y3, z3⟩, st3⟩ := X1.privateBack hx (y := (⟨"com/example/ebbtide/ebbtide/core/Encoder", "put", "(B)V"⟩ : MethodName)) hown (mvT hZ (hw _ (List.mem_of_getElem? (i := 30) rfl))) (mvT hZ (hw _ (List.mem_of_getElem? (i := 31) rfl))) (own_privsel (mvT hZ (hw _ (List.mem_of_getElem? (i := 7) rfl)) (args := #[])) (mvP hZ (hw _ (List.mem_of_getElem? (i := 32) rfl)) (args := #[])) (mvT hZ (hw _ (List.mem_of_getElem? (i := 31) rfl))) (by decide)) (Cond.privateMethod_at (mvP hZ (hw _ (List.mem_of_getElem? (i := 32) rfl)) (args := #[]))) (mvT hZ (hw _ (List.mem_of_getElem? (i := 33) rfl))) (by decide) (backOf (W := 0) (rm4 l Z a0 hw [] a1 aB kB (vs.set 6 (Value.int ((((q2 &&& (127 : Int64)) ||| (128 : Int64)).toInt32).toInt8.toInt32))) (7 : Int32) ((((((q2.toUInt64 >>> ((7 : Int32) &&& 0x3f).toInt64.toUInt64).toInt64) &&& (127 : Int64)) ||| (128 : Int64)).toInt32).toInt8.toInt32) 7 T1.heap n0 O2 p1_0 p1_1 p1_2 p1_3 H4 H5 H6 (by decide : ¬ ((2147483639 : Int64) < (((7 : Int32).toInt64) + ((1 : Int32).toInt64)))) (by decide : ¬ (((256 : Int32).toInt64) < (((7 : Int32).toInt64) + ((1 : Int32).toInt64)))) (by decide : ¬ ((7 : Int32) < (0 : Int32)) ∧ (7 : Int32) < (256 : Int32)) (rfl : (7 : Int32).toNatClampNeg = 7) (by simp [hvl] : 7 < (vs.set 6 (Value.int ((((q2 &&& (127 : Int64)) ||| (128 : Int64)).toInt32).toInt8.toInt32))).length) (own_b8 _ : ((((((q2.toUInt64 >>> ((7 : Int32) &&& 0x3f).toInt64.toUInt64).toInt64) &&& (127 : Int64)) ||| (128 : Int64)).toInt32).toInt8.toInt32).toInt8.toInt32 = ((((((q2.toUInt64 >>> ((7 : Int32) &&& 0x3f).toInt64.toUInt64).toInt64) &&& (127 : Int64)) ||| (128 : Int64)).toInt32).toInt8.toInt32))) hZ (hw _ (List.mem_of_getElem? (i := 33) rfl)) (hw _ (List.mem_of_getElem? (i := 8) rfl)) (by decide) (by decide)) (g := (mkF m 24 #[sR a1, sJ q2, .second, .val (Value.long ((q2.toUInt64 >>> ((7 : Int32) &&& 0x3f).toInt64.toUInt64).toInt64)), .second] [(Value.int ((((((q2.toUInt64 >>> ((7 : Int32) &&& 0x3f).toInt64.toUInt64).toInt64) &&& (127 : Int64)) ||| (128 : Int64)).toInt32).toInt8.toInt32)), (Value.ref a1)])) rfl (by rw [hml]; rfl) (Steps.refl _) (a := a1) q3 q3' (argsL := [(Value.int ((((((q2.toUInt64 >>> ((7 : Int32) &&& 0x3f).toInt64.toUInt64).toInt64) &&& (127 : Int64)) ||| (128 : Int64)).toInt32).toInt8.toInt32))]) (rest := []) (lenOf own_pd1 rfl) rfl (by show 2 * 0 + _ ≤ _; exact Nat.le_of_eq rfl) (hb hby d6_24) (fun _ _ => ⟨rfl, rfl, (by decide : 0 + 0 ≤ _), (by decide : 0 + 0 ≤ _)⟩)
  dsimp only [Pt.U, Pt.locs, Pt.cells, Pt.slots] at X3 l3 y3 z3 st3 hQ3
  subst l3 y3 z3
  refine own_Go.by (fun tq kq => st3.trans kq) ?_
  obtain ⟨rfl, N3q, K3q, p3_0, p3_1, p3_2, p3_3⟩ := hQ3
  have N3 := Fr.app N1 N3q
  have O4 := O2.keep K3q (allS H4 (allS H5 all0))
  have K4 := K2.trans K3q (allS (Or.inl (List.mem_of_getElem? (i := 0) rfl)) (allS (Or.inl (List.mem_of_getElem? (i := 1) rfl)) all0))
  refine own_Go.by (fun tq kq => XS.lloadN X3.here hx rfl (hb hby d6_27) rfl kq) ?_
  refine own_Go.by (fun tq kq => XS.bipush X3.here hx rfl (hb hby d6_28) kq) ?_
  show own_Go _ _ _ _ (T3.setTop (mkF m 30 #[sR a1, sJ q2, .second, .val (Value.long ((q2.toUInt64 >>> ((7 : Int32) &&& 0x3f).toInt64.toUInt64).toInt64)), .second] [(Value.int (7 : Int32)), (Value.long ((q2.toUInt64 >>> ((7 : Int32) &&& 0x3f).toInt64.toUInt64).toInt64))]))
  refine own_Go.by (fun tq kq => XS.lushr X3.here hx rfl (hb hby d6_30) rfl kq) ?_
  show own_Go _ _ _ _ (T3.setTop (mkF m 31 #[sR a1, sJ q2, .second, .val (Value.long ((q2.toUInt64 >>> ((7 : Int32) &&& 0x3f).toInt64.toUInt64).toInt64)), .second] [(Value.long ((((q2.toUInt64 >>> ((7 : Int32) &&& 0x3f).toInt64.toUInt64).toInt64).toUInt64 >>> ((7 : Int32) &&& 0x3f).toInt64.toUInt64).toInt64))]))
  refine own_Go.by (fun tq kq => XS.lstoreN X3.here hx rfl (hb hby d6_31) rfl (l' := #[sR a1, sJ q2, .second, .val (Value.long ((((q2.toUInt64 >>> ((7 : Int32) &&& 0x3f).toInt64.toUInt64).toInt64).toUInt64 >>> ((7 : Int32) &&& 0x3f).toInt64.toUInt64).toInt64)), .second]) rfl kq) ?_
  refine own_Go.by (fun tq kq => XS.goto X3.here hx rfl (pc0 := 32) (pc' := 2) rfl (hb hby d6_32) (by decide) (by decide) kq) ?_
  refine own_Go.by (fun tq kq => XS.lloadN X3.here hx rfl (hb hby d6_2) rfl kq) ?_
  show own_Go _ _ _ _ (T3.setTop (mkF m 3 #[sR a1, sJ q2, .second, .val (Value.long ((((q2.toUInt64 >>> ((7 : Int32) &&& 0x3f).toInt64.toUInt64).toInt64).toUInt64 >>> ((7 : Int32) &&& 0x3f).toInt64.toUInt64).toInt64)), .second] [(Value.long ((((q2.toUInt64 >>> ((7 : Int32) &&& 0x3f).toInt64.toUInt64).toInt64).toUInt64 >>> ((7 : Int32) &&& 0x3f).toInt64.toUInt64).toInt64))]))
  refine own_Go.by (fun tq kq => X3.ldc2Long hx hown (mvT hZ (hw _ (List.mem_of_getElem? (i := 47) rfl))) (g := (mkF m 3 #[sR a1, sJ q2, .second, .val (Value.long ((((q2.toUInt64 >>> ((7 : Int32) &&& 0x3f).toInt64.toUInt64).toInt64).toUInt64 >>> ((7 : Int32) &&& 0x3f).toInt64.toUInt64).toInt64)), .second] [(Value.long ((((q2.toUInt64 >>> ((7 : Int32) &&& 0x3f).toInt64.toUInt64).toInt64).toUInt64 >>> ((7 : Int32) &&& 0x3f).toInt64.toUInt64).toInt64))])) rfl (hb hby d6_3) _ kq) ?_
  show own_Go _ _ _ _ (T3.setTop (mkF m 6 #[sR a1, sJ q2, .second, .val (Value.long ((((q2.toUInt64 >>> ((7 : Int32) &&& 0x3f).toInt64.toUInt64).toInt64).toUInt64 >>> ((7 : Int32) &&& 0x3f).toInt64.toUInt64).toInt64)), .second] [(Value.long (-128 : Int64)), (Value.long ((((q2.toUInt64 >>> ((7 : Int32) &&& 0x3f).toInt64.toUInt64).toInt64).toUInt64 >>> ((7 : Int32) &&& 0x3f).toInt64.toUInt64).toInt64))]))
  refine own_Go.by (fun tq kq => XS.land X3.here hx rfl (hb hby d6_6) rfl kq) ?_
  refine own_Go.by (fun tq kq => XS.lconst X3.here hx rfl (hb hby d6_7) kq) ?_
  show own_Go _ _ _ _ (T3.setTop (mkF m 8 #[sR a1, sJ q2, .second, .val (Value.long ((((q2.toUInt64 >>> ((7 : Int32) &&& 0x3f).toInt64.toUInt64).toInt64).toUInt64 >>> ((7 : Int32) &&& 0x3f).toInt64.toUInt64).toInt64)), .second] [(Value.long (0 : Int64)), (Value.long (((((q2.toUInt64 >>> ((7 : Int32) &&& 0x3f).toInt64.toUInt64).toInt64).toUInt64 >>> ((7 : Int32) &&& 0x3f).toInt64.toUInt64).toInt64) &&& (-128 : Int64)))]))
  refine own_Go.by (fun tq kq => XS.lcmp X3.here hx rfl (hb hby d6_8) rfl kq) ?_
  show own_Go _ _ _ _ (T3.setTop (mkF m 9 #[sR a1, sJ q2, .second, .val (Value.long ((((q2.toUInt64 >>> ((7 : Int32) &&& 0x3f).toInt64.toUInt64).toInt64).toUInt64 >>> ((7 : Int32) &&& 0x3f).toInt64.toUInt64).toInt64)), .second] [(Value.int (lcmpW (((((q2.toUInt64 >>> ((7 : Int32) &&& 0x3f).toInt64.toUInt64).toInt64).toUInt64 >>> ((7 : Int32) &&& 0x3f).toInt64.toUInt64).toInt64) &&& (-128 : Int64)) (0 : Int64)))]))
  refine own_Go.by (fun tq kq => XS.ifYes X3.here hx rfl (pc0 := 9) (pc' := 35) rfl (hb hby d6_9) rfl ((if0 _ _).trans (teq ((lw_eq (((((q2.toUInt64 >>> ((7 : Int32) &&& 0x3f).toInt64.toUInt64).toInt64).toUInt64 >>> ((7 : Int32) &&& 0x3f).toInt64.toUInt64).toInt64) &&& (-128 : Int64)) (0 : Int64)).mpr hz2)).1) (by decide) (by decide) kq) ?_
  refine own_Go.by (fun tq kq => XS.aloadN X3.here hx rfl (hb hby d6_35) rfl rfl kq) ?_
  refine own_Go.by (fun tq kq => XS.lloadN X3.here hx rfl (hb hby d6_36) rfl kq) ?_
  refine own_Go.by (fun tq kq => XS.l2i X3.here hx rfl (hb hby d6_37) rfl kq) ?_
  show own_Go _ _ _ _ (T3.setTop (mkF m 38 #[sR a1, sJ q2, .second, .val (Value.long ((((q2.toUInt64 >>> ((7 : Int32) &&& 0x3f).toInt64.toUInt64).toInt64).toUInt64 >>> ((7 : Int32) &&& 0x3f).toInt64.toUInt64).toInt64)), .second] [(Value.int (((((q2.toUInt64 >>> ((7 : Int32) &&& 0x3f).toInt64.toUInt64).toInt64).toUInt64 >>> ((7 : Int32) &&& 0x3f).toInt64.toUInt64).toInt64).toInt32)), (Value.ref a1)]))
  refine own_Go.by (fun tq kq => XS.i2b X3.here hx rfl (hb hby d6_38) rfl kq) ?_
  show own_Go _ _ _ _ (T3.setTop (mkF m 39 #[sR a1, sJ q2, .second, .val (Value.long ((((q2.toUInt64 >>> ((7 : Int32) &&& 0x3f).toInt64.toUInt64).toInt64).toUInt64 >>> ((7 : Int32) &&& 0x3f).toInt64.toUInt64).toInt64)), .second] [(Value.int ((((((q2.toUInt64 >>> ((7 : Int32) &&& 0x3f).toInt64.toUInt64).toInt64).toUInt64 >>> ((7 : Int32) &&& 0x3f).toInt64.toUInt64).toInt64).toInt32).toInt8.toInt32)), (Value.ref a1)]))
  obtain ⟨cq5, q5, q5'⟩ := p3_0.cell
  obtain ⟨_, _, ⟨T5, L5, k5, n5⟩, -, X5, ⟨Lc5, hQ5, l5, y5, z5⟩, st5⟩ := X3.privateBack hx (y := (⟨"com/example/ebbtide/ebbtide/core/Encoder", "put", "(B)V"⟩ : MethodName)) hown (mvT hZ (hw _ (List.mem_of_getElem? (i := 30) rfl))) (mvT hZ (hw _ (List.mem_of_getElem? (i := 31) rfl))) (own_privsel (mvT hZ (hw _ (List.mem_of_getElem? (i := 7) rfl)) (args := #[])) (mvP hZ (hw _ (List.mem_of_getElem? (i := 32) rfl)) (args := #[])) (mvT hZ (hw _ (List.mem_of_getElem? (i := 31) rfl))) (by decide)) (Cond.privateMethod_at (mvP hZ (hw _ (List.mem_of_getElem? (i := 32) rfl)) (args := #[]))) (mvT hZ (hw _ (List.mem_of_getElem? (i := 33) rfl))) (by decide) (backOf (W := 0) (rm4 l Z a0 hw [] a1 aB kB ((vs.set 6 (Value.int ((((q2 &&& (127 : Int64)) ||| (128 : Int64)).toInt32).toInt8.toInt32))).set 7 (Value.int ((((((q2.toUInt64 >>> ((7 : Int32) &&& 0x3f).toInt64.toUInt64).toInt64) &&& (127 : Int64)) ||| (128 : Int64)).toInt32).toInt8.toInt32))) (8 : Int32) ((((((q2.toUInt64 >>> ((7 : Int32) &&& 0x3f).toInt64.toUInt64).toInt64).toUInt64 >>> ((7 : Int32) &&& 0x3f).toInt64.toUInt64).toInt64).toInt32).toInt8.toInt32) 8 T3.heap n0 O4 p3_0 p3_1 p3_2 p3_3 H4 H5 H6 (by decide : ¬ ((2147483639 : Int64) < (((8 : Int32).toInt64) + ((1 : Int32).toInt64)))) (by decide : ¬ (((256 : Int32).toInt64) < (((8 : Int32).toInt64) + ((1 : Int32).toInt64)))) (by decide : ¬ ((8 : Int32) < (0 : Int32)) ∧ (8 : Int32) < (256 : Int32)) (rfl : (8 : Int32).toNatClampNeg = 8) (by simp [hvl] : 8 < ((vs.set 6 (Value.int ((((q2 &&& (127 : Int64)) ||| (128 : Int64)).toInt32).toInt8.toInt32))).set 7 (Value.int ((((((q2.toUInt64 >>> ((7 : Int32) &&& 0x3f).toInt64.toUInt64).toInt64) &&& (127 : Int64)) ||| (128 : Int64)).toInt32).toInt8.toInt32))).length) (own_b8 _ : ((((((q2.toUInt64 >>> ((7 : Int32) &&& 0x3f).toInt64.toUInt64).toInt64).toUInt64 >>> ((7 : Int32) &&& 0x3f).toInt64.toUInt64).toInt64).toInt32).toInt8.toInt32).toInt8.toInt32 = ((((((q2.toUInt64 >>> ((7 : Int32) &&& 0x3f).toInt64.toUInt64).toInt64).toUInt64 >>> ((7 : Int32) &&& 0x3f).toInt64.toUInt64).toInt64).toInt32).toInt8.toInt32))) hZ (hw _ (List.mem_of_getElem? (i := 33) rfl)) (hw _ (List.mem_of_getElem? (i := 8) rfl)) (by decide) (by decide)) (g := (mkF m 39 #[sR a1, sJ q2, .second, .val (Value.long ((((q2.toUInt64 >>> ((7 : Int32) &&& 0x3f).toInt64.toUInt64).toInt64).toUInt64 >>> ((7 : Int32) &&& 0x3f).toInt64.toUInt64).toInt64)), .second] [(Value.int ((((((q2.toUInt64 >>> ((7 : Int32) &&& 0x3f).toInt64.toUInt64).toInt64).toUInt64 >>> ((7 : Int32) &&& 0x3f).toInt64.toUInt64).toInt64).toInt32).toInt8.toInt32)), (Value.ref a1)])) rfl (by rw [hml]; rfl) (Steps.refl _) (a := a1) q5 q5' (argsL := [(Value.int ((((((q2.toUInt64 >>> ((7 : Int32) &&& 0x3f).toInt64.toUInt64).toInt64).toUInt64 >>> ((7 : Int32) &&& 0x3f).toInt64.toUInt64).toInt64).toInt32).toInt8.toInt32))]) (rest := []) (lenOf own_pd1 rfl) rfl (by show 2 * 0 + _ ≤ _; exact Nat.le_of_eq rfl) (hb hby d6_39) (fun _ _ => ⟨rfl, rfl, (by decide : 0 + 0 ≤ _), (by decide : 0 + 0 ≤ _)⟩)
  dsimp only [Pt.U, Pt.locs, Pt.cells, Pt.slots] at X5 l5 y5 z5 st5 hQ5
  subst l5 y5 z5
  refine own_Go.by (fun tq kq => st5.trans kq) ?_
  obtain ⟨rfl, N5q, K5q, p5_0, p5_1, p5_2, p5_3⟩ := hQ5
  have N5 := Fr.app N3 N5q
  have O6 := O4.keep K5q (allS H4 (allS H5 all0))
  have K6 := K4.trans K5q (allS (Or.inl (List.mem_of_getElem? (i := 0) rfl)) (allS (Or.inl (List.mem_of_getElem? (i := 1) rfl)) all0))
  show own_Go _ _ _ _ (T5.setTop (mkF m 42 #[sR a1, sJ q2, .second, .val (Value.long ((((q2.toUInt64 >>> ((7 : Int32) &&& 0x3f).toInt64.toUInt64).toInt64).toUInt64 >>> ((7 : Int32) &&& 0x3f).toInt64.toUInt64).toInt64)), .second] []))
  obtain ⟨fs, hr, hrun, hended, hW, hsame⟩ := X5.leave (v := none) (fun _ => rfl)
  refine own_Go.fin (X5.returnOut hx Bd.returns (hb hby d6_42) hr) ⟨hrun, hended, _, _, rfl, ?_, ⟨_, rfl⟩, hW, hsame.mono (by decide) (by decide)⟩
  show Q6_3 Z a1 aB kB vs q2 h0 n0 _ T5.heap _
  exact ⟨rfl, N5, K6, p5_0, p5_1, p5_2, p5_3⟩

theorem d10_0 : decode jdk_29_method_69_code 0 = .ok (.iload_n 0, 1) := by decide +kernel
theorem d10_1 : decode jdk_29_method_69_code 1 = .ok (.iload_n 1, 1) := by decide +kernel
theorem d10_2 : decode jdk_29_method_69_code 2 = .ok (.if_icmp .gt 7, 3) := by decide +kernel
theorem d10_5 : decode jdk_29_method_69_code 5 = .ok (.iload_n 0, 1) := by decide +kernel
theorem d10_6 : decode jdk_29_method_69_code 6 = .ok (.goto 4, 3) := by decide +kernel
theorem d10_9 : decode jdk_29_method_69_code 9 = .ok (.iload_n 1, 1) := by decide +kernel
theorem d10_10 : decode jdk_29_method_69_code 10 = .ok (.ireturn, 1) := by decide +kernel
theorem own_pf_10 : plainFor (⟨"java/lang/Math", "min", "(II)I"⟩ : MethodName) = true := by decide +kernel
theorem own_ef_10 (m : MethodId) (p1 : Int32) (p2 : Int32) : entryFrame m #[(Value.int p1), (Value.int p2)] 2 = mkF m 0 #[sI p1, sI p2] [] := by first | (simp [entryFrame, mkF, argsToLocals, Value.category]; done) | rfl
def Q10 (Z : State) (p1 : Int32) (p2 : Int32) (h0 : Heap) (n0 : Nat) (v : Option Value) (h : Heap) (L : List Loc) : Prop := v = some (Value.int (if p2 < p1 then p2 else p1)) ∧ Fr n0 L ∧ h = h0
set_option maxRecDepth 65536 in
set_option maxHeartbeats 40000000 in
theorem rm10 (l : Launch) (Z : State) (a0 : Array Value) (hw : ∀ d ∈ tables_1, d.before a0 Z = true) (ws : List Jvm.Cond) (p1 : Int32) (p2 : Int32) (h0 : Heap) (n0 : Nat) (O0 : Old Z n0 h0) :
    MetFree l (⟨"java/lang/Math", "min", "(II)I"⟩ : MethodName) (head1 (Jvm.Cond.code (⟨"java/lang/Math", "min", "(II)I"⟩ : MethodName) jdk_29_method_69_code 2 (some .int) :: ws) ({ frames := 0, cells := 0, slots := 0, locals := 0 } : Room)) (fun a U => a = #[(Value.int p1), (Value.int p2)] ∧ Z.Warmed39 U.vm ∧ U.heap = h0) (fun _ _ _ _ _ => True) (fun _ U o U' => ∃ v L, o = .returned v ∧ Q10 Z p1 p2 h0 n0 v U'.heap L ∧ FrameEnd U o U' L ({ frames := 0, cells := 0, slots := 0, locals := 0 } : Room).cells ({ frames := 0, cells := 0, slots := 0, locals := 0 } : Room).slots) := by
  refine MetFree.of_bodySF own_pf_10 hisR ?_
  intro p e s m args below meth c s₁ Bd hml0 hP hK
  obtain ⟨rfl, hZ, hh⟩ := hP
  have hx := Bd.exec
  have hby := Bd.bytes
  have hml : c.maxLocals = 2 := hml0
  have hown : s.vm.findClass "java/lang/Math" = some m.cls := findClass_of_methodNamed Bd.named
  have hnm := (name_of_methodNamed Bd.named Bd.method).1
  have X0 : Stand p l e ({ frames := 0, cells := 0, slots := 0, locals := 0 } : Room) s m #[(Value.int p1), (Value.int p2)] below meth c s₁ [] 0 0 := Stand.of_body Bd
  have e0 : s₁.heap = h0 := by rw [← hh, Bd.state]; rfl
  have N0 := Fr.nil n0
  have K0 : Keep h0 h0 [] := Keep.refl h0 []
  show own_Go _ _ _ _ (s₁.setTop (entryFrame m #[(Value.int p1), (Value.int p2)] 2))
  refine own_Go.by (fun tq kq => castTop (own_ef_10 m p1 p2) kq) ?_
  show own_Go _ _ _ _ (s₁.setTop (mkF m 0 #[sI p1, sI p2] []))
  refine own_Go.by (fun tq kq => XS.iloadN X0.here hx rfl (hb hby d10_0) rfl kq) ?_
  refine own_Go.by (fun tq kq => XS.iloadN X0.here hx rfl (hb hby d10_1) rfl kq) ?_
  show own_Go _ _ _ _ (s₁.setTop (mkF m 2 #[sI p1, sI p2] [(Value.int p2), (Value.int p1)]))
  by_cases hc2_1 : p2 < p1
  ·
    refine own_Go.by (fun tq kq => XS.icmpYes X0.here hx rfl (pc0 := 2) (pc' := 9) rfl (hb hby d10_2) rfl (tlt hc2_1).2.2.1 (by decide) (by decide) kq) ?_
    refine own_Go.by (fun tq kq => XS.iloadN X0.here hx rfl (hb hby d10_9) rfl kq) ?_
    show own_Go _ _ _ _ (s₁.setTop (mkF m 10 #[sI p1, sI p2] [(Value.int p2)]))
    obtain ⟨fs, hr, hrun, hended, hW, hsame⟩ := X0.leave (v := some (Value.int p2)) (fun h => by rw [Bd.returns] at h; cases h)
    refine own_Go.fin (retI X0 hx Bd.returns (hb hby d10_10) hr) ⟨hrun, hended, _, _, rfl, ?_, ⟨_, rfl⟩, hW, hsame.mono (by decide) (by decide)⟩
    show Q10 Z p1 p2 h0 n0 _ s₁.heap _
    rw [e0]
    exact ⟨(by rw [if_pos hc2_1]), N0, rfl⟩
  ·
    refine own_Go.by (fun tq kq => XS.icmpNo X0.here hx rfl (hb hby d10_2) rfl (flt hc2_1).2.2.1 kq) ?_
    refine own_Go.by (fun tq kq => XS.iloadN X0.here hx rfl (hb hby d10_5) rfl kq) ?_
    refine own_Go.by (fun tq kq => XS.goto X0.here hx rfl (pc0 := 6) (pc' := 10) rfl (hb hby d10_6) (by decide) (by decide) kq) ?_
    show own_Go _ _ _ _ (s₁.setTop (mkF m 10 #[sI p1, sI p2] [(Value.int p1)]))
    obtain ⟨fs, hr, hrun, hended, hW, hsame⟩ := X0.leave (v := some (Value.int p1)) (fun h => by rw [Bd.returns] at h; cases h)
    refine own_Go.fin (retI X0 hx Bd.returns (hb hby d10_10) hr) ⟨hrun, hended, _, _, rfl, ?_, ⟨_, rfl⟩, hW, hsame.mono (by decide) (by decide)⟩
    show Q10 Z p1 p2 h0 n0 _ s₁.heap _
    rw [e0]
    exact ⟨(by rw [if_neg hc2_1]), N0, rfl⟩

theorem own_pd2 : parseMethodDescriptor "(II)I" = some ⟨[.int, .int], some .int⟩ := by decide +kernel
theorem d9_0 : decode jdk_65_method_121_code 0 = .ok (.iload_n 1, 1) := by decide +kernel
theorem d9_1 : decode jdk_65_method_121_code 1 = .ok (.aload_n 0, 1) := by decide +kernel
theorem d9_2 : decode jdk_65_method_121_code 2 = .ok (.arraylength, 1) := by decide +kernel
theorem d9_3 : decode jdk_65_method_121_code 3 = .ok (.if_icmp .ne 11, 3) := by decide +kernel
theorem d9_14 : decode jdk_65_method_121_code 14 = .ok (.iload_n 1, 1) := by decide +kernel
theorem d9_15 : decode jdk_65_method_121_code 15 = .ok (.newarray .byte, 2) := by decide +kernel
theorem d9_17 : decode jdk_65_method_121_code 17 = .ok (.astore_n 2, 1) := by decide +kernel
theorem d9_18 : decode jdk_65_method_121_code 18 = .ok (.aload_n 0, 1) := by decide +kernel
theorem d9_19 : decode jdk_65_method_121_code 19 = .ok (.iconst 0, 1) := by decide +kernel
theorem d9_20 : decode jdk_65_method_121_code 20 = .ok (.aload_n 2, 1) := by decide +kernel
theorem d9_21 : decode jdk_65_method_121_code 21 = .ok (.iconst 0, 1) := by decide +kernel
theorem d9_22 : decode jdk_65_method_121_code 22 = .ok (.aload_n 0, 1) := by decide +kernel
theorem d9_23 : decode jdk_65_method_121_code 23 = .ok (.arraylength, 1) := by decide +kernel
theorem d9_24 : decode jdk_65_method_121_code 24 = .ok (.iload_n 1, 1) := by decide +kernel
theorem d9_25 : decode jdk_65_method_121_code 25 = .ok (.invokestatic 304, 3) := by decide +kernel
theorem d9_28 : decode jdk_65_method_121_code 28 = .ok (.invokestatic 150, 3) := by decide +kernel
theorem d9_31 : decode jdk_65_method_121_code 31 = .ok (.aload_n 2, 1) := by decide +kernel
theorem d9_32 : decode jdk_65_method_121_code 32 = .ok (.areturn, 1) := by decide +kernel
theorem own_pn_java_util_Arrays : plainName "java/util/Arrays" = true := by first | (simp [plainName, overriddenIn]; done) | decide +kernel
theorem own_ef_9_256_6 (m : MethodId) (a1 : Addr) : entryFrame m #[(Value.ref a1), (Value.int (6 : Int32))] 3 = mkF m 0 #[sR a1, sI (6 : Int32), .unset] [] := by first | (simp [entryFrame, mkF, argsToLocals, Value.category]; done) | rfl
def Q9_256_6 (Z : State) (a1 : Addr) (kB : ClassId) (vs : List Value) (h0 : Heap) (n0 : Nat) (v : Option Value) (h : Heap) (L : List Loc) : Prop := ∃ (b : Addr), ∃ (k2 : ClassId), v = some (Value.ref b) ∧ Fr n0 L ∧ Keep h0 h [] ∧ (h0.size ≤ b) ∧ (Exa Z h b "[B") ∧ (Arv Z h b k2 .byte (6 : Int32) (own_cp vs 6) (Value.int (0 : Int32)))
set_option maxRecDepth 65536 in
set_option maxHeartbeats 40000000 in
theorem rm9_256_6 (l : Launch) (Z : State) (a0 : Array Value) (hw : ∀ d ∈ tables_1, d.before a0 Z = true) (ws : List Jvm.Cond) (a1 : Addr) (kB : ClassId) (vs : List Value) (h0 : Heap) (n0 : Nat) (O0 : Old Z n0 h0) (H0 : Arv Z h0 a1 kB .byte (256 : Int32) vs (Value.int (0 : Int32))) :
    MetFree l (⟨"java/util/Arrays", "copyOf", "([BI)[B"⟩ : MethodName) (head1 (Jvm.Cond.code (⟨"java/util/Arrays", "copyOf", "([BI)[B"⟩ : MethodName) jdk_65_method_121_code 3 (some (.array .byte)) :: ws) ({ frames := 1, cells := 1, slots := 6, locals := 18 } : Room)) (fun a U => a = #[(Value.ref a1), (Value.int (6 : Int32))] ∧ Z.Warmed39 U.vm ∧ U.heap = h0) (fun _ _ _ _ _ => True) (fun _ U o U' => ∃ v L, o = .returned v ∧ Q9_256_6 Z a1 kB vs h0 n0 v U'.heap L ∧ FrameEnd U o U' L ({ frames := 1, cells := 1, slots := 6, locals := 18 } : Room).cells ({ frames := 1, cells := 1, slots := 6, locals := 18 } : Room).slots) := by
  refine MetFree.of_bodySF (plainFor_of_name own_pn_java_util_Arrays) hisR ?_
  intro p e s m args below meth c s₁ Bd hml0 hP hK
  obtain ⟨rfl, hZ, hh⟩ := hP
  have hx := Bd.exec
  have hby := Bd.bytes
  have hml : c.maxLocals = 3 := hml0
  have hown : s.vm.findClass "java/util/Arrays" = some m.cls := findClass_of_methodNamed Bd.named
  have hnm := (name_of_methodNamed Bd.named Bd.method).1
  have X0 : Stand p l e ({ frames := 1, cells := 1, slots := 6, locals := 18 } : Room) s m #[(Value.ref a1), (Value.int (6 : Int32))] below meth c s₁ [] 0 0 := Stand.of_body Bd
  have e0 : s₁.heap = h0 := by rw [← hh, Bd.state]; rfl
  have N0 := Fr.nil n0
  have K0 : Keep h0 h0 [] := Keep.refl h0 []
  show own_Go _ _ _ _ (s₁.setTop (entryFrame m #[(Value.ref a1), (Value.int (6 : Int32))] 3))
  refine own_Go.by (fun tq kq => castTop (own_ef_9_256_6 m a1) kq) ?_
  show own_Go _ _ _ _ (s₁.setTop (mkF m 0 #[sR a1, sI (6 : Int32), .unset] []))
  refine own_Go.by (fun tq kq => XS.iloadN X0.here hx rfl (hb hby d9_0) rfl kq) ?_
  refine own_Go.by (fun tq kq => XS.aloadN X0.here hx rfl (hb hby d9_1) rfl rfl kq) ?_
  show own_Go _ _ _ _ (s₁.setTop (mkF m 2 #[sR a1, sI (6 : Int32), .unset] [(Value.ref a1), (Value.int (6 : Int32))]))
  obtain ⟨cl1, Ar1, q1, S1, M1, Hh1, G1⟩ := id H0
  refine own_Go.by (fun tq kq => X0.arraylength hx (by rw [e0]; exact Ar1.1) (State.isArrayOf_alike hZ.alike Ar1.2.1) (g := (mkF m 2 #[sR a1, sI (6 : Int32), .unset] [(Value.ref a1), (Value.int (6 : Int32))])) rfl rfl (hb hby d9_2) _ kq) ?_
  rw [len_of S1 M1]
  show own_Go _ _ _ _ (s₁.setTop (mkF m 3 #[sR a1, sI (6 : Int32), .unset] [(Value.int (256 : Int32)), (Value.int (6 : Int32))]))
  refine own_Go.by (fun tq kq => XS.icmpYes X0.here hx rfl (pc0 := 3) (pc' := 14) rfl (hb hby d9_3) rfl (feq (by decide : ¬ ((6 : Int32) = (256 : Int32)))).2 (by decide) (by decide) kq) ?_
  refine own_Go.by (fun tq kq => XS.iloadN X0.here hx rfl (hb hby d9_14) rfl kq) ?_
  show own_Go _ _ _ _ (s₁.setTop (mkF m 15 #[sR a1, sI (6 : Int32), .unset] [(Value.int (6 : Int32))]))
  obtain ⟨T2, h2, k2, X2, e2, E2, A2, Ea2, st2⟩ := newPE X0 hx hZ (hw _ (List.mem_of_getElem? (i := 5) rfl)) e0 (g := (mkF m 15 #[sR a1, sI (6 : Int32), .unset] [(Value.int (6 : Int32))])) rfl (hb hby d9_15) rfl (by decide : ¬ ((6 : Int32) < (0 : Int32))) (cap := 6) (by decide : (6 : Int32).toNatClampNeg ≤ 6) (by decide) (by decide) (by decide) (ad := "[B") rfl
  obtain ⟨ob2, y2⟩ : ∃ z, z = h0.size := ⟨_, rfl⟩
  rw [← y2] at A2 Ea2 st2
  refine own_Go.by st2 ?_
  have O3 := O0.ext E2
  have K3 := K0.ext E2
  have g4 : n0 ≤ ob2 := Nat.le_trans (own_old_le O0) (Nat.le_of_eq y2.symm)
  have z4 : h0.size ≤ ob2 := Nat.le_trans K0.1 (Nat.le_of_eq y2.symm)
  have V2 : Arv Z h2 ob2 k2 .byte (6 : Int32) (List.replicate 6 (Value.int (0 : Int32))) (Value.int (0 : Int32)) := (Arv.new A2 (by decide : ¬ ((6 : Int32) < (0 : Int32)))).pad (pad_rep [] (Value.int (0 : Int32)) 6)
  refine own_Go.by (fun tq kq => XS.astoreN X2.here hx rfl (hb hby d9_17) rfl rfl (l' := #[sR a1, sI (6 : Int32), sR ob2]) rfl kq) ?_
  refine own_Go.by (fun tq kq => XS.aloadN X2.here hx rfl (hb hby d9_18) rfl rfl kq) ?_
  refine own_Go.by (fun tq kq => XS.iconst X2.here hx rfl (hb hby d9_19) kq) ?_
  show own_Go _ _ _ _ (T2.setTop (mkF m 20 #[sR a1, sI (6 : Int32), sR ob2] [(Value.int (0 : Int32)), (Value.ref a1)]))
  refine own_Go.by (fun tq kq => XS.aloadN X2.here hx rfl (hb hby d9_20) rfl rfl kq) ?_
  refine own_Go.by (fun tq kq => XS.iconst X2.here hx rfl (hb hby d9_21) kq) ?_
  refine own_Go.by (fun tq kq => XS.aloadN X2.here hx rfl (hb hby d9_22) rfl rfl kq) ?_
  show own_Go _ _ _ _ (T2.setTop (mkF m 23 #[sR a1, sI (6 : Int32), sR ob2] [(Value.ref a1), (Value.int (0 : Int32)), (Value.ref ob2), (Value.int (0 : Int32)), (Value.ref a1)]))
  have c5 := (H0.ext E2)
  obtain ⟨cl6, Ar6, q6, S6, M6, Hh6, G6⟩ := id c5
  refine own_Go.by (fun tq kq => X2.arraylength hx (by rw [e2]; exact Ar6.1) (State.isArrayOf_alike hZ.alike Ar6.2.1) (g := (mkF m 23 #[sR a1, sI (6 : Int32), sR ob2] [(Value.ref a1), (Value.int (0 : Int32)), (Value.ref ob2), (Value.int (0 : Int32)), (Value.ref a1)])) rfl rfl (hb hby d9_23) _ kq) ?_
  rw [len_of S6 M6]
  refine own_Go.by (fun tq kq => XS.iloadN X2.here hx rfl (hb hby d9_24) rfl kq) ?_
  show own_Go _ _ _ _ (T2.setTop (mkF m 25 #[sR a1, sI (6 : Int32), sR ob2] [(Value.int (6 : Int32)), (Value.int (256 : Int32)), (Value.int (0 : Int32)), (Value.ref ob2), (Value.int (0 : Int32)), (Value.ref a1)]))
  obtain ⟨_, _, ⟨T7, L7, k7, n7⟩, -, X7, ⟨Lc7, hQ7, l7, y7, z7⟩, st7⟩ := Jvm.LawKit.callS X2 hx (y := (⟨"java/lang/Math", "min", "(II)I"⟩ : MethodName)) hown (mvT hZ (hw _ (List.mem_of_getElem? (i := 64) rfl))) (mvT hZ (hw _ (List.mem_of_getElem? (i := 65) rfl))) (mvT hZ (hw _ (List.mem_of_getElem? (i := 66) rfl))) (mvT hZ (hw _ (List.mem_of_getElem? (i := 67) rfl))) (by decide) (backOf (W := 4) (rm10 l Z a0 hw [] (256 : Int32) (6 : Int32) h2 n0 O3 ) hZ (hw _ (List.mem_of_getElem? (i := 67) rfl)) (hw _ (List.mem_of_getElem? (i := 66) rfl)) (by decide) (by decide)) (g := (mkF m 25 #[sR a1, sI (6 : Int32), sR ob2] [(Value.int (6 : Int32)), (Value.int (256 : Int32)), (Value.int (0 : Int32)), (Value.ref ob2), (Value.int (0 : Int32)), (Value.ref a1)])) rfl (by rw [hml]; rfl) (argsL := [(Value.int (256 : Int32)), (Value.int (6 : Int32))]) (rest := [(Value.int (0 : Int32)), (Value.ref ob2), (Value.int (0 : Int32)), (Value.ref a1)]) (lenOf own_pd2 rfl) rfl (by show 2 * 0 + _ ≤ _; exact Nat.le_of_eq rfl) (hb hby d9_25) (fun _ _ => ⟨rfl, e2, (by decide : 1 + 0 ≤ _), (by decide : 6 + 0 ≤ _)⟩)
  dsimp only [Pt.U, Pt.locs, Pt.cells, Pt.slots] at X7 l7 y7 z7 st7 hQ7
  subst l7 y7 z7
  refine own_Go.by st7 ?_
  obtain ⟨rfl, N7q, e7⟩ := hQ7
  have N7 := Fr.app N0 N7q
  show own_Go _ _ _ _ (T7.setTop (mkF m 28 #[sR a1, sI (6 : Int32), sR ob2] [(Value.int (6 : Int32)), (Value.int (0 : Int32)), (Value.ref ob2), (Value.int (0 : Int32)), (Value.ref a1)]))
  obtain ⟨T8, h8, Lc8, X8, e8, N8, K8q, V8, st8⟩ := cpA X7 hx hZ hown (hw _ (List.mem_of_getElem? (i := 68) rfl)) (hw _ (List.mem_of_getElem? (i := 71) rfl)) (hw _ (List.mem_of_getElem? (i := 69) rfl)) (hw _ (List.mem_of_getElem? (i := 70) rfl)) e7 c5 V2 (us := ((List.range (6 : Int32).toNatClampNeg).map fun i => (vs).getD ((0 : Int32).toNatClampNeg + i) (Value.int (0 : Int32)))) (Or.inl ⟨rfl, rfl⟩) (by decide : ¬ ((0 : Int32) < (0 : Int32))) (by decide : ¬ ((0 : Int32) < (0 : Int32))) (by decide : ¬ ((6 : Int32) < (0 : Int32))) (by decide : (0 : Int32).toNatClampNeg + (6 : Int32).toNatClampNeg ≤ (256 : Int32).toNatClampNeg) (by decide : (0 : Int32).toNatClampNeg + (6 : Int32).toNatClampNeg ≤ (6 : Int32).toNatClampNeg) rfl (by rw [List.length_replicate]; decide) N7 g4 (g := (mkF m 28 #[sR a1, sI (6 : Int32), sR ob2] [(Value.int (6 : Int32)), (Value.int (0 : Int32)), (Value.ref ob2), (Value.int (0 : Int32)), (Value.ref a1)])) rfl (by rw [hml]; rfl) rfl (hb hby d9_28) (by decide) (W := 0) (by show 2 * 0 + _ ≤ _; exact Nat.le_of_eq rfl) (by decide)
  refine own_Go.by st8 ?_
  have O9 := O3.keep K8q (allS g4 all0)
  have K9 := K3.trans K8q (allS (Or.inr z4) all0)
  have V8' : Arv Z h8 ob2 k2 .byte (6 : Int32) (own_cp vs 6) (Value.int (0 : Int32)) := by
      have q : Arv Z h8 ob2 k2 .byte (6 : Int32) (((List.replicate 6 (Value.int (0 : Int32)))).take (0 : Int32).toNatClampNeg ++ ((List.range (6 : Int32).toNatClampNeg).map fun i => (vs).getD ((0 : Int32).toNatClampNeg + i) (Value.int (0 : Int32))) ++ ((List.replicate 6 (Value.int (0 : Int32)))).drop ((0 : Int32).toNatClampNeg + (6 : Int32).toNatClampNeg)) (Value.int (0 : Int32)) := V8
      rw [show (((List.replicate 6 (Value.int (0 : Int32)))).take (0 : Int32).toNatClampNeg ++ ((List.range (6 : Int32).toNatClampNeg).map fun i => (vs).getD ((0 : Int32).toNatClampNeg + i) (Value.int (0 : Int32))) ++ ((List.replicate 6 (Value.int (0 : Int32)))).drop ((0 : Int32).toNatClampNeg + (6 : Int32).toNatClampNeg)) = (own_cp vs 6) from (own_cat _ _ 6).trans (by rw [List.drop_replicate]; first | rfl | simp [own_cp])] at q
      exact q
  refine own_Go.by (fun tq kq => XS.aloadN X8.here hx rfl (hb hby d9_31) rfl rfl kq) ?_
  show own_Go _ _ _ _ (T8.setTop (mkF m 32 #[sR a1, sI (6 : Int32), sR ob2] [(Value.ref ob2)]))
  have c10 := (Ea2.keep K8q)
  obtain ⟨fs, hr, hrun, hended, hW, hsame⟩ := X8.leave (v := some (Value.ref ob2)) (fun h => by rw [Bd.returns] at h; cases h)
  refine own_Go.fin (retOut X8 hx Bd.returns rfl (Or.inr (Or.inr (Or.inr (Or.inr ⟨rfl, rfl, rfl⟩)))) (hb hby d9_32) hr) ⟨hrun, hended, _, _, rfl, ?_, ⟨_, rfl⟩, hW, hsame.mono (by decide) (by decide)⟩
  show Q9_256_6 Z a1 kB vs h0 n0 _ T8.heap _
  rw [e8]
  exact ⟨ob2, k2, rfl, N8, K9, z4, c10, V8'⟩

theorem own_ef_9_256_7 (m : MethodId) (a1 : Addr) : entryFrame m #[(Value.ref a1), (Value.int (7 : Int32))] 3 = mkF m 0 #[sR a1, sI (7 : Int32), .unset] [] := by first | (simp [entryFrame, mkF, argsToLocals, Value.category]; done) | rfl
def Q9_256_7 (Z : State) (a1 : Addr) (kB : ClassId) (vs : List Value) (h0 : Heap) (n0 : Nat) (v : Option Value) (h : Heap) (L : List Loc) : Prop := ∃ (b : Addr), ∃ (k2 : ClassId), v = some (Value.ref b) ∧ Fr n0 L ∧ Keep h0 h [] ∧ (h0.size ≤ b) ∧ (Exa Z h b "[B") ∧ (Arv Z h b k2 .byte (7 : Int32) (own_cp vs 7) (Value.int (0 : Int32)))
set_option maxRecDepth 65536 in
set_option maxHeartbeats 40000000 in
theorem rm9_256_7 (l : Launch) (Z : State) (a0 : Array Value) (hw : ∀ d ∈ tables_1, d.before a0 Z = true) (ws : List Jvm.Cond) (a1 : Addr) (kB : ClassId) (vs : List Value) (h0 : Heap) (n0 : Nat) (O0 : Old Z n0 h0) (H0 : Arv Z h0 a1 kB .byte (256 : Int32) vs (Value.int (0 : Int32))) :
    MetFree l (⟨"java/util/Arrays", "copyOf", "([BI)[B"⟩ : MethodName) (head1 (Jvm.Cond.code (⟨"java/util/Arrays", "copyOf", "([BI)[B"⟩ : MethodName) jdk_65_method_121_code 3 (some (.array .byte)) :: ws) ({ frames := 1, cells := 1, slots := 7, locals := 18 } : Room)) (fun a U => a = #[(Value.ref a1), (Value.int (7 : Int32))] ∧ Z.Warmed39 U.vm ∧ U.heap = h0) (fun _ _ _ _ _ => True) (fun _ U o U' => ∃ v L, o = .returned v ∧ Q9_256_7 Z a1 kB vs h0 n0 v U'.heap L ∧ FrameEnd U o U' L ({ frames := 1, cells := 1, slots := 7, locals := 18 } : Room).cells ({ frames := 1, cells := 1, slots := 7, locals := 18 } : Room).slots) := by
  refine MetFree.of_bodySF (plainFor_of_name own_pn_java_util_Arrays) hisR ?_
  intro p e s m args below meth c s₁ Bd hml0 hP hK
  obtain ⟨rfl, hZ, hh⟩ := hP
  have hx := Bd.exec
  have hby := Bd.bytes
  have hml : c.maxLocals = 3 := hml0
  have hown : s.vm.findClass "java/util/Arrays" = some m.cls := findClass_of_methodNamed Bd.named
  have hnm := (name_of_methodNamed Bd.named Bd.method).1
  have X0 : Stand p l e ({ frames := 1, cells := 1, slots := 7, locals := 18 } : Room) s m #[(Value.ref a1), (Value.int (7 : Int32))] below meth c s₁ [] 0 0 := Stand.of_body Bd
  have e0 : s₁.heap = h0 := by rw [← hh, Bd.state]; rfl
  have N0 := Fr.nil n0
  have K0 : Keep h0 h0 [] := Keep.refl h0 []
  show own_Go _ _ _ _ (s₁.setTop (entryFrame m #[(Value.ref a1), (Value.int (7 : Int32))] 3))
  refine own_Go.by (fun tq kq => castTop (own_ef_9_256_7 m a1) kq) ?_
  show own_Go _ _ _ _ (s₁.setTop (mkF m 0 #[sR a1, sI (7 : Int32), .unset] []))
  refine own_Go.by (fun tq kq => XS.iloadN X0.here hx rfl (hb hby d9_0) rfl kq) ?_
  refine own_Go.by (fun tq kq => XS.aloadN X0.here hx rfl (hb hby d9_1) rfl rfl kq) ?_
  show own_Go _ _ _ _ (s₁.setTop (mkF m 2 #[sR a1, sI (7 : Int32), .unset] [(Value.ref a1), (Value.int (7 : Int32))]))
  obtain ⟨cl1, Ar1, q1, S1, M1, Hh1, G1⟩ := id H0
  refine own_Go.by (fun tq kq => X0.arraylength hx (by rw [e0]; exact Ar1.1) (State.isArrayOf_alike hZ.alike Ar1.2.1) (g := (mkF m 2 #[sR a1, sI (7 : Int32), .unset] [(Value.ref a1), (Value.int (7 : Int32))])) rfl rfl (hb hby d9_2) _ kq) ?_
  rw [len_of S1 M1]
  show own_Go _ _ _ _ (s₁.setTop (mkF m 3 #[sR a1, sI (7 : Int32), .unset] [(Value.int (256 : Int32)), (Value.int (7 : Int32))]))
  refine own_Go.by (fun tq kq => XS.icmpYes X0.here hx rfl (pc0 := 3) (pc' := 14) rfl (hb hby d9_3) rfl (feq (by decide : ¬ ((7 : Int32) = (256 : Int32)))).2 (by decide) (by decide) kq) ?_
  refine own_Go.by (fun tq kq => XS.iloadN X0.here hx rfl (hb hby d9_14) rfl kq) ?_
  show own_Go _ _ _ _ (s₁.setTop (mkF m 15 #[sR a1, sI (7 : Int32), .unset] [(Value.int (7 : Int32))]))
  obtain ⟨T2, h2, k2, X2, e2, E2, A2, Ea2, st2⟩ := newPE X0 hx hZ (hw _ (List.mem_of_getElem? (i := 5) rfl)) e0 (g := (mkF m 15 #[sR a1, sI (7 : Int32), .unset] [(Value.int (7 : Int32))])) rfl (hb hby d9_15) rfl (by decide : ¬ ((7 : Int32) < (0 : Int32))) (cap := 7) (by decide : (7 : Int32).toNatClampNeg ≤ 7) (by decide) (by decide) (by decide) (ad := "[B") rfl
  obtain ⟨ob2, y2⟩ : ∃ z, z = h0.size := ⟨_, rfl⟩
  rw [← y2] at A2 Ea2 st2
  refine own_Go.by st2 ?_
  have O3 := O0.ext E2
  have K3 := K0.ext E2
  have g4 : n0 ≤ ob2 := Nat.le_trans (own_old_le O0) (Nat.le_of_eq y2.symm)
  have z4 : h0.size ≤ ob2 := Nat.le_trans K0.1 (Nat.le_of_eq y2.symm)
  have V2 : Arv Z h2 ob2 k2 .byte (7 : Int32) (List.replicate 7 (Value.int (0 : Int32))) (Value.int (0 : Int32)) := (Arv.new A2 (by decide : ¬ ((7 : Int32) < (0 : Int32)))).pad (pad_rep [] (Value.int (0 : Int32)) 7)
  refine own_Go.by (fun tq kq => XS.astoreN X2.here hx rfl (hb hby d9_17) rfl rfl (l' := #[sR a1, sI (7 : Int32), sR ob2]) rfl kq) ?_
  refine own_Go.by (fun tq kq => XS.aloadN X2.here hx rfl (hb hby d9_18) rfl rfl kq) ?_
  refine own_Go.by (fun tq kq => XS.iconst X2.here hx rfl (hb hby d9_19) kq) ?_
  show own_Go _ _ _ _ (T2.setTop (mkF m 20 #[sR a1, sI (7 : Int32), sR ob2] [(Value.int (0 : Int32)), (Value.ref a1)]))
  refine own_Go.by (fun tq kq => XS.aloadN X2.here hx rfl (hb hby d9_20) rfl rfl kq) ?_
  refine own_Go.by (fun tq kq => XS.iconst X2.here hx rfl (hb hby d9_21) kq) ?_
  refine own_Go.by (fun tq kq => XS.aloadN X2.here hx rfl (hb hby d9_22) rfl rfl kq) ?_
  show own_Go _ _ _ _ (T2.setTop (mkF m 23 #[sR a1, sI (7 : Int32), sR ob2] [(Value.ref a1), (Value.int (0 : Int32)), (Value.ref ob2), (Value.int (0 : Int32)), (Value.ref a1)]))
  have c5 := (H0.ext E2)
  obtain ⟨cl6, Ar6, q6, S6, M6, Hh6, G6⟩ := id c5
  refine own_Go.by (fun tq kq => X2.arraylength hx (by rw [e2]; exact Ar6.1) (State.isArrayOf_alike hZ.alike Ar6.2.1) (g := (mkF m 23 #[sR a1, sI (7 : Int32), sR ob2] [(Value.ref a1), (Value.int (0 : Int32)), (Value.ref ob2), (Value.int (0 : Int32)), (Value.ref a1)])) rfl rfl (hb hby d9_23) _ kq) ?_
  rw [len_of S6 M6]
  refine own_Go.by (fun tq kq => XS.iloadN X2.here hx rfl (hb hby d9_24) rfl kq) ?_
  show own_Go _ _ _ _ (T2.setTop (mkF m 25 #[sR a1, sI (7 : Int32), sR ob2] [(Value.int (7 : Int32)), (Value.int (256 : Int32)), (Value.int (0 : Int32)), (Value.ref ob2), (Value.int (0 : Int32)), (Value.ref a1)]))
  obtain ⟨_, _, ⟨T7, L7, k7, n7⟩, -, X7, ⟨Lc7, hQ7, l7, y7, z7⟩, st7⟩ := Jvm.LawKit.callS X2 hx (y := (⟨"java/lang/Math", "min", "(II)I"⟩ : MethodName)) hown (mvT hZ (hw _ (List.mem_of_getElem? (i := 64) rfl))) (mvT hZ (hw _ (List.mem_of_getElem? (i := 65) rfl))) (mvT hZ (hw _ (List.mem_of_getElem? (i := 66) rfl))) (mvT hZ (hw _ (List.mem_of_getElem? (i := 67) rfl))) (by decide) (backOf (W := 4) (rm10 l Z a0 hw [] (256 : Int32) (7 : Int32) h2 n0 O3 ) hZ (hw _ (List.mem_of_getElem? (i := 67) rfl)) (hw _ (List.mem_of_getElem? (i := 66) rfl)) (by decide) (by decide)) (g := (mkF m 25 #[sR a1, sI (7 : Int32), sR ob2] [(Value.int (7 : Int32)), (Value.int (256 : Int32)), (Value.int (0 : Int32)), (Value.ref ob2), (Value.int (0 : Int32)), (Value.ref a1)])) rfl (by rw [hml]; rfl) (argsL := [(Value.int (256 : Int32)), (Value.int (7 : Int32))]) (rest := [(Value.int (0 : Int32)), (Value.ref ob2), (Value.int (0 : Int32)), (Value.ref a1)]) (lenOf own_pd2 rfl) rfl (by show 2 * 0 + _ ≤ _; exact Nat.le_of_eq rfl) (hb hby d9_25) (fun _ _ => ⟨rfl, e2, (by decide : 1 + 0 ≤ _), (by decide : 7 + 0 ≤ _)⟩)
  dsimp only [Pt.U, Pt.locs, Pt.cells, Pt.slots] at X7 l7 y7 z7 st7 hQ7
  subst l7 y7 z7
  refine own_Go.by st7 ?_
  obtain ⟨rfl, N7q, e7⟩ := hQ7
  have N7 := Fr.app N0 N7q
  show own_Go _ _ _ _ (T7.setTop (mkF m 28 #[sR a1, sI (7 : Int32), sR ob2] [(Value.int (7 : Int32)), (Value.int (0 : Int32)), (Value.ref ob2), (Value.int (0 : Int32)), (Value.ref a1)]))
  obtain ⟨T8, h8, Lc8, X8, e8, N8, K8q, V8, st8⟩ := cpA X7 hx hZ hown (hw _ (List.mem_of_getElem? (i := 68) rfl)) (hw _ (List.mem_of_getElem? (i := 71) rfl)) (hw _ (List.mem_of_getElem? (i := 69) rfl)) (hw _ (List.mem_of_getElem? (i := 70) rfl)) e7 c5 V2 (us := ((List.range (7 : Int32).toNatClampNeg).map fun i => (vs).getD ((0 : Int32).toNatClampNeg + i) (Value.int (0 : Int32)))) (Or.inl ⟨rfl, rfl⟩) (by decide : ¬ ((0 : Int32) < (0 : Int32))) (by decide : ¬ ((0 : Int32) < (0 : Int32))) (by decide : ¬ ((7 : Int32) < (0 : Int32))) (by decide : (0 : Int32).toNatClampNeg + (7 : Int32).toNatClampNeg ≤ (256 : Int32).toNatClampNeg) (by decide : (0 : Int32).toNatClampNeg + (7 : Int32).toNatClampNeg ≤ (7 : Int32).toNatClampNeg) rfl (by rw [List.length_replicate]; decide) N7 g4 (g := (mkF m 28 #[sR a1, sI (7 : Int32), sR ob2] [(Value.int (7 : Int32)), (Value.int (0 : Int32)), (Value.ref ob2), (Value.int (0 : Int32)), (Value.ref a1)])) rfl (by rw [hml]; rfl) rfl (hb hby d9_28) (by decide) (W := 0) (by show 2 * 0 + _ ≤ _; exact Nat.le_of_eq rfl) (by decide)
  refine own_Go.by st8 ?_
  have O9 := O3.keep K8q (allS g4 all0)
  have K9 := K3.trans K8q (allS (Or.inr z4) all0)
  have V8' : Arv Z h8 ob2 k2 .byte (7 : Int32) (own_cp vs 7) (Value.int (0 : Int32)) := by
      have q : Arv Z h8 ob2 k2 .byte (7 : Int32) (((List.replicate 7 (Value.int (0 : Int32)))).take (0 : Int32).toNatClampNeg ++ ((List.range (7 : Int32).toNatClampNeg).map fun i => (vs).getD ((0 : Int32).toNatClampNeg + i) (Value.int (0 : Int32))) ++ ((List.replicate 7 (Value.int (0 : Int32)))).drop ((0 : Int32).toNatClampNeg + (7 : Int32).toNatClampNeg)) (Value.int (0 : Int32)) := V8
      rw [show (((List.replicate 7 (Value.int (0 : Int32)))).take (0 : Int32).toNatClampNeg ++ ((List.range (7 : Int32).toNatClampNeg).map fun i => (vs).getD ((0 : Int32).toNatClampNeg + i) (Value.int (0 : Int32))) ++ ((List.replicate 7 (Value.int (0 : Int32)))).drop ((0 : Int32).toNatClampNeg + (7 : Int32).toNatClampNeg)) = (own_cp vs 7) from (own_cat _ _ 7).trans (by rw [List.drop_replicate]; first | rfl | simp [own_cp])] at q
      exact q
  refine own_Go.by (fun tq kq => XS.aloadN X8.here hx rfl (hb hby d9_31) rfl rfl kq) ?_
  show own_Go _ _ _ _ (T8.setTop (mkF m 32 #[sR a1, sI (7 : Int32), sR ob2] [(Value.ref ob2)]))
  have c10 := (Ea2.keep K8q)
  obtain ⟨fs, hr, hrun, hended, hW, hsame⟩ := X8.leave (v := some (Value.ref ob2)) (fun h => by rw [Bd.returns] at h; cases h)
  refine own_Go.fin (retOut X8 hx Bd.returns rfl (Or.inr (Or.inr (Or.inr (Or.inr ⟨rfl, rfl, rfl⟩)))) (hb hby d9_32) hr) ⟨hrun, hended, _, _, rfl, ?_, ⟨_, rfl⟩, hW, hsame.mono (by decide) (by decide)⟩
  show Q9_256_7 Z a1 kB vs h0 n0 _ T8.heap _
  rw [e8]
  exact ⟨ob2, k2, rfl, N8, K9, z4, c10, V8'⟩

theorem own_ef_9_256_8 (m : MethodId) (a1 : Addr) : entryFrame m #[(Value.ref a1), (Value.int (8 : Int32))] 3 = mkF m 0 #[sR a1, sI (8 : Int32), .unset] [] := by first | (simp [entryFrame, mkF, argsToLocals, Value.category]; done) | rfl
def Q9_256_8 (Z : State) (a1 : Addr) (kB : ClassId) (vs : List Value) (h0 : Heap) (n0 : Nat) (v : Option Value) (h : Heap) (L : List Loc) : Prop := ∃ (b : Addr), ∃ (k2 : ClassId), v = some (Value.ref b) ∧ Fr n0 L ∧ Keep h0 h [] ∧ (h0.size ≤ b) ∧ (Exa Z h b "[B") ∧ (Arv Z h b k2 .byte (8 : Int32) (own_cp vs 8) (Value.int (0 : Int32)))
set_option maxRecDepth 65536 in
set_option maxHeartbeats 40000000 in
theorem rm9_256_8 (l : Launch) (Z : State) (a0 : Array Value) (hw : ∀ d ∈ tables_1, d.before a0 Z = true) (ws : List Jvm.Cond) (a1 : Addr) (kB : ClassId) (vs : List Value) (h0 : Heap) (n0 : Nat) (O0 : Old Z n0 h0) (H0 : Arv Z h0 a1 kB .byte (256 : Int32) vs (Value.int (0 : Int32))) :
    MetFree l (⟨"java/util/Arrays", "copyOf", "([BI)[B"⟩ : MethodName) (head1 (Jvm.Cond.code (⟨"java/util/Arrays", "copyOf", "([BI)[B"⟩ : MethodName) jdk_65_method_121_code 3 (some (.array .byte)) :: ws) ({ frames := 1, cells := 1, slots := 8, locals := 18 } : Room)) (fun a U => a = #[(Value.ref a1), (Value.int (8 : Int32))] ∧ Z.Warmed39 U.vm ∧ U.heap = h0) (fun _ _ _ _ _ => True) (fun _ U o U' => ∃ v L, o = .returned v ∧ Q9_256_8 Z a1 kB vs h0 n0 v U'.heap L ∧ FrameEnd U o U' L ({ frames := 1, cells := 1, slots := 8, locals := 18 } : Room).cells ({ frames := 1, cells := 1, slots := 8, locals := 18 } : Room).slots) := by
  refine MetFree.of_bodySF (plainFor_of_name own_pn_java_util_Arrays) hisR ?_
  intro p e s m args below meth c s₁ Bd hml0 hP hK
  obtain ⟨rfl, hZ, hh⟩ := hP
  have hx := Bd.exec
  have hby := Bd.bytes
  have hml : c.maxLocals = 3 := hml0
  have hown : s.vm.findClass "java/util/Arrays" = some m.cls := findClass_of_methodNamed Bd.named
  have hnm := (name_of_methodNamed Bd.named Bd.method).1
  have X0 : Stand p l e ({ frames := 1, cells := 1, slots := 8, locals := 18 } : Room) s m #[(Value.ref a1), (Value.int (8 : Int32))] below meth c s₁ [] 0 0 := Stand.of_body Bd
  have e0 : s₁.heap = h0 := by rw [← hh, Bd.state]; rfl
  have N0 := Fr.nil n0
  have K0 : Keep h0 h0 [] := Keep.refl h0 []
  show own_Go _ _ _ _ (s₁.setTop (entryFrame m #[(Value.ref a1), (Value.int (8 : Int32))] 3))
  refine own_Go.by (fun tq kq => castTop (own_ef_9_256_8 m a1) kq) ?_
  show own_Go _ _ _ _ (s₁.setTop (mkF m 0 #[sR a1, sI (8 : Int32), .unset] []))
  refine own_Go.by (fun tq kq => XS.iloadN X0.here hx rfl (hb hby d9_0) rfl kq) ?_
  refine own_Go.by (fun tq kq => XS.aloadN X0.here hx rfl (hb hby d9_1) rfl rfl kq) ?_
  show own_Go _ _ _ _ (s₁.setTop (mkF m 2 #[sR a1, sI (8 : Int32), .unset] [(Value.ref a1), (Value.int (8 : Int32))]))
  obtain ⟨cl1, Ar1, q1, S1, M1, Hh1, G1⟩ := id H0
  refine own_Go.by (fun tq kq => X0.arraylength hx (by rw [e0]; exact Ar1.1) (State.isArrayOf_alike hZ.alike Ar1.2.1) (g := (mkF m 2 #[sR a1, sI (8 : Int32), .unset] [(Value.ref a1), (Value.int (8 : Int32))])) rfl rfl (hb hby d9_2) _ kq) ?_
  rw [len_of S1 M1]
  show own_Go _ _ _ _ (s₁.setTop (mkF m 3 #[sR a1, sI (8 : Int32), .unset] [(Value.int (256 : Int32)), (Value.int (8 : Int32))]))
  refine own_Go.by (fun tq kq => XS.icmpYes X0.here hx rfl (pc0 := 3) (pc' := 14) rfl (hb hby d9_3) rfl (feq (by decide : ¬ ((8 : Int32) = (256 : Int32)))).2 (by decide) (by decide) kq) ?_
  refine own_Go.by (fun tq kq => XS.iloadN X0.here hx rfl (hb hby d9_14) rfl kq) ?_
  show own_Go _ _ _ _ (s₁.setTop (mkF m 15 #[sR a1, sI (8 : Int32), .unset] [(Value.int (8 : Int32))]))
  obtain ⟨T2, h2, k2, X2, e2, E2, A2, Ea2, st2⟩ := newPE X0 hx hZ (hw _ (List.mem_of_getElem? (i := 5) rfl)) e0 (g := (mkF m 15 #[sR a1, sI (8 : Int32), .unset] [(Value.int (8 : Int32))])) rfl (hb hby d9_15) rfl (by decide : ¬ ((8 : Int32) < (0 : Int32))) (cap := 8) (by decide : (8 : Int32).toNatClampNeg ≤ 8) (by decide) (by decide) (by decide) (ad := "[B") rfl
  obtain ⟨ob2, y2⟩ : ∃ z, z = h0.size := ⟨_, rfl⟩
  rw [← y2] at A2 Ea2 st2
  refine own_Go.by st2 ?_
  have O3 := O0.ext E2
  have K3 := K0.ext E2
  have g4 : n0 ≤ ob2 := Nat.le_trans (own_old_le O0) (Nat.le_of_eq y2.symm)
  have z4 : h0.size ≤ ob2 := Nat.le_trans K0.1 (Nat.le_of_eq y2.symm)
  have V2 : Arv Z h2 ob2 k2 .byte (8 : Int32) (List.replicate 8 (Value.int (0 : Int32))) (Value.int (0 : Int32)) := (Arv.new A2 (by decide : ¬ ((8 : Int32) < (0 : Int32)))).pad (pad_rep [] (Value.int (0 : Int32)) 8)
  refine own_Go.by (fun tq kq => XS.astoreN X2.here hx rfl (hb hby d9_17) rfl rfl (l' := #[sR a1, sI (8 : Int32), sR ob2]) rfl kq) ?_
  refine own_Go.by (fun tq kq => XS.aloadN X2.here hx rfl (hb hby d9_18) rfl rfl kq) ?_
  refine own_Go.by (fun tq kq => XS.iconst X2.here hx rfl (hb hby d9_19) kq) ?_
  show own_Go _ _ _ _ (T2.setTop (mkF m 20 #[sR a1, sI (8 : Int32), sR ob2] [(Value.int (0 : Int32)), (Value.ref a1)]))
  refine own_Go.by (fun tq kq => XS.aloadN X2.here hx rfl (hb hby d9_20) rfl rfl kq) ?_
  refine own_Go.by (fun tq kq => XS.iconst X2.here hx rfl (hb hby d9_21) kq) ?_
  refine own_Go.by (fun tq kq => XS.aloadN X2.here hx rfl (hb hby d9_22) rfl rfl kq) ?_
  show own_Go _ _ _ _ (T2.setTop (mkF m 23 #[sR a1, sI (8 : Int32), sR ob2] [(Value.ref a1), (Value.int (0 : Int32)), (Value.ref ob2), (Value.int (0 : Int32)), (Value.ref a1)]))
  have c5 := (H0.ext E2)
  obtain ⟨cl6, Ar6, q6, S6, M6, Hh6, G6⟩ := id c5
  refine own_Go.by (fun tq kq => X2.arraylength hx (by rw [e2]; exact Ar6.1) (State.isArrayOf_alike hZ.alike Ar6.2.1) (g := (mkF m 23 #[sR a1, sI (8 : Int32), sR ob2] [(Value.ref a1), (Value.int (0 : Int32)), (Value.ref ob2), (Value.int (0 : Int32)), (Value.ref a1)])) rfl rfl (hb hby d9_23) _ kq) ?_
  rw [len_of S6 M6]
  refine own_Go.by (fun tq kq => XS.iloadN X2.here hx rfl (hb hby d9_24) rfl kq) ?_
  show own_Go _ _ _ _ (T2.setTop (mkF m 25 #[sR a1, sI (8 : Int32), sR ob2] [(Value.int (8 : Int32)), (Value.int (256 : Int32)), (Value.int (0 : Int32)), (Value.ref ob2), (Value.int (0 : Int32)), (Value.ref a1)]))
  obtain ⟨_, _, ⟨T7, L7, k7, n7⟩, -, X7, ⟨Lc7, hQ7, l7, y7, z7⟩, st7⟩ := Jvm.LawKit.callS X2 hx (y := (⟨"java/lang/Math", "min", "(II)I"⟩ : MethodName)) hown (mvT hZ (hw _ (List.mem_of_getElem? (i := 64) rfl))) (mvT hZ (hw _ (List.mem_of_getElem? (i := 65) rfl))) (mvT hZ (hw _ (List.mem_of_getElem? (i := 66) rfl))) (mvT hZ (hw _ (List.mem_of_getElem? (i := 67) rfl))) (by decide) (backOf (W := 4) (rm10 l Z a0 hw [] (256 : Int32) (8 : Int32) h2 n0 O3 ) hZ (hw _ (List.mem_of_getElem? (i := 67) rfl)) (hw _ (List.mem_of_getElem? (i := 66) rfl)) (by decide) (by decide)) (g := (mkF m 25 #[sR a1, sI (8 : Int32), sR ob2] [(Value.int (8 : Int32)), (Value.int (256 : Int32)), (Value.int (0 : Int32)), (Value.ref ob2), (Value.int (0 : Int32)), (Value.ref a1)])) rfl (by rw [hml]; rfl) (argsL := [(Value.int (256 : Int32)), (Value.int (8 : Int32))]) (rest := [(Value.int (0 : Int32)), (Value.ref ob2), (Value.int (0 : Int32)), (Value.ref a1)]) (lenOf own_pd2 rfl) rfl (by show 2 * 0 + _ ≤ _; exact Nat.le_of_eq rfl) (hb hby d9_25) (fun _ _ => ⟨rfl, e2, (by decide : 1 + 0 ≤ _), (by decide : 8 + 0 ≤ _)⟩)
  dsimp only [Pt.U, Pt.locs, Pt.cells, Pt.slots] at X7 l7 y7 z7 st7 hQ7
  subst l7 y7 z7
  refine own_Go.by st7 ?_
  obtain ⟨rfl, N7q, e7⟩ := hQ7
  have N7 := Fr.app N0 N7q
  show own_Go _ _ _ _ (T7.setTop (mkF m 28 #[sR a1, sI (8 : Int32), sR ob2] [(Value.int (8 : Int32)), (Value.int (0 : Int32)), (Value.ref ob2), (Value.int (0 : Int32)), (Value.ref a1)]))
  obtain ⟨T8, h8, Lc8, X8, e8, N8, K8q, V8, st8⟩ := cpA X7 hx hZ hown (hw _ (List.mem_of_getElem? (i := 68) rfl)) (hw _ (List.mem_of_getElem? (i := 71) rfl)) (hw _ (List.mem_of_getElem? (i := 69) rfl)) (hw _ (List.mem_of_getElem? (i := 70) rfl)) e7 c5 V2 (us := ((List.range (8 : Int32).toNatClampNeg).map fun i => (vs).getD ((0 : Int32).toNatClampNeg + i) (Value.int (0 : Int32)))) (Or.inl ⟨rfl, rfl⟩) (by decide : ¬ ((0 : Int32) < (0 : Int32))) (by decide : ¬ ((0 : Int32) < (0 : Int32))) (by decide : ¬ ((8 : Int32) < (0 : Int32))) (by decide : (0 : Int32).toNatClampNeg + (8 : Int32).toNatClampNeg ≤ (256 : Int32).toNatClampNeg) (by decide : (0 : Int32).toNatClampNeg + (8 : Int32).toNatClampNeg ≤ (8 : Int32).toNatClampNeg) rfl (by rw [List.length_replicate]; decide) N7 g4 (g := (mkF m 28 #[sR a1, sI (8 : Int32), sR ob2] [(Value.int (8 : Int32)), (Value.int (0 : Int32)), (Value.ref ob2), (Value.int (0 : Int32)), (Value.ref a1)])) rfl (by rw [hml]; rfl) rfl (hb hby d9_28) (by decide) (W := 0) (by show 2 * 0 + _ ≤ _; exact Nat.le_of_eq rfl) (by decide)
  refine own_Go.by st8 ?_
  have O9 := O3.keep K8q (allS g4 all0)
  have K9 := K3.trans K8q (allS (Or.inr z4) all0)
  have V8' : Arv Z h8 ob2 k2 .byte (8 : Int32) (own_cp vs 8) (Value.int (0 : Int32)) := by
      have q : Arv Z h8 ob2 k2 .byte (8 : Int32) (((List.replicate 8 (Value.int (0 : Int32)))).take (0 : Int32).toNatClampNeg ++ ((List.range (8 : Int32).toNatClampNeg).map fun i => (vs).getD ((0 : Int32).toNatClampNeg + i) (Value.int (0 : Int32))) ++ ((List.replicate 8 (Value.int (0 : Int32)))).drop ((0 : Int32).toNatClampNeg + (8 : Int32).toNatClampNeg)) (Value.int (0 : Int32)) := V8
      rw [show (((List.replicate 8 (Value.int (0 : Int32)))).take (0 : Int32).toNatClampNeg ++ ((List.range (8 : Int32).toNatClampNeg).map fun i => (vs).getD ((0 : Int32).toNatClampNeg + i) (Value.int (0 : Int32))) ++ ((List.replicate 8 (Value.int (0 : Int32)))).drop ((0 : Int32).toNatClampNeg + (8 : Int32).toNatClampNeg)) = (own_cp vs 8) from (own_cat _ _ 8).trans (by rw [List.drop_replicate]; first | rfl | simp [own_cp])] at q
      exact q
  refine own_Go.by (fun tq kq => XS.aloadN X8.here hx rfl (hb hby d9_31) rfl rfl kq) ?_
  show own_Go _ _ _ _ (T8.setTop (mkF m 32 #[sR a1, sI (8 : Int32), sR ob2] [(Value.ref ob2)]))
  have c10 := (Ea2.keep K8q)
  obtain ⟨fs, hr, hrun, hended, hW, hsame⟩ := X8.leave (v := some (Value.ref ob2)) (fun h => by rw [Bd.returns] at h; cases h)
  refine own_Go.fin (retOut X8 hx Bd.returns rfl (Or.inr (Or.inr (Or.inr (Or.inr ⟨rfl, rfl, rfl⟩)))) (hb hby d9_32) hr) ⟨hrun, hended, _, _, rfl, ?_, ⟨_, rfl⟩, hW, hsame.mono (by decide) (by decide)⟩
  show Q9_256_8 Z a1 kB vs h0 n0 _ T8.heap _
  rw [e8]
  exact ⟨ob2, k2, rfl, N8, K9, z4, c10, V8'⟩

theorem own_ef_9_256_9 (m : MethodId) (a1 : Addr) : entryFrame m #[(Value.ref a1), (Value.int (9 : Int32))] 3 = mkF m 0 #[sR a1, sI (9 : Int32), .unset] [] := by first | (simp [entryFrame, mkF, argsToLocals, Value.category]; done) | rfl
def Q9_256_9 (Z : State) (a1 : Addr) (kB : ClassId) (vs : List Value) (h0 : Heap) (n0 : Nat) (v : Option Value) (h : Heap) (L : List Loc) : Prop := ∃ (b : Addr), ∃ (k2 : ClassId), v = some (Value.ref b) ∧ Fr n0 L ∧ Keep h0 h [] ∧ (h0.size ≤ b) ∧ (Exa Z h b "[B") ∧ (Arv Z h b k2 .byte (9 : Int32) (own_cp vs 9) (Value.int (0 : Int32)))
set_option maxRecDepth 65536 in
set_option maxHeartbeats 40000000 in
theorem rm9_256_9 (l : Launch) (Z : State) (a0 : Array Value) (hw : ∀ d ∈ tables_1, d.before a0 Z = true) (ws : List Jvm.Cond) (a1 : Addr) (kB : ClassId) (vs : List Value) (h0 : Heap) (n0 : Nat) (O0 : Old Z n0 h0) (H0 : Arv Z h0 a1 kB .byte (256 : Int32) vs (Value.int (0 : Int32))) :
    MetFree l (⟨"java/util/Arrays", "copyOf", "([BI)[B"⟩ : MethodName) (head1 (Jvm.Cond.code (⟨"java/util/Arrays", "copyOf", "([BI)[B"⟩ : MethodName) jdk_65_method_121_code 3 (some (.array .byte)) :: ws) ({ frames := 1, cells := 1, slots := 9, locals := 18 } : Room)) (fun a U => a = #[(Value.ref a1), (Value.int (9 : Int32))] ∧ Z.Warmed39 U.vm ∧ U.heap = h0) (fun _ _ _ _ _ => True) (fun _ U o U' => ∃ v L, o = .returned v ∧ Q9_256_9 Z a1 kB vs h0 n0 v U'.heap L ∧ FrameEnd U o U' L ({ frames := 1, cells := 1, slots := 9, locals := 18 } : Room).cells ({ frames := 1, cells := 1, slots := 9, locals := 18 } : Room).slots) := by
  refine MetFree.of_bodySF (plainFor_of_name own_pn_java_util_Arrays) hisR ?_
  intro p e s m args below meth c s₁ Bd hml0 hP hK
  obtain ⟨rfl, hZ, hh⟩ := hP
  have hx := Bd.exec
  have hby := Bd.bytes
  have hml : c.maxLocals = 3 := hml0
  have hown : s.vm.findClass "java/util/Arrays" = some m.cls := findClass_of_methodNamed Bd.named
  have hnm := (name_of_methodNamed Bd.named Bd.method).1
  have X0 : Stand p l e ({ frames := 1, cells := 1, slots := 9, locals := 18 } : Room) s m #[(Value.ref a1), (Value.int (9 : Int32))] below meth c s₁ [] 0 0 := Stand.of_body Bd
  have e0 : s₁.heap = h0 := by rw [← hh, Bd.state]; rfl
  have N0 := Fr.nil n0
  have K0 : Keep h0 h0 [] := Keep.refl h0 []
  show own_Go _ _ _ _ (s₁.setTop (entryFrame m #[(Value.ref a1), (Value.int (9 : Int32))] 3))
  refine own_Go.by (fun tq kq => castTop (own_ef_9_256_9 m a1) kq) ?_
  show own_Go _ _ _ _ (s₁.setTop (mkF m 0 #[sR a1, sI (9 : Int32), .unset] []))
  refine own_Go.by (fun tq kq => XS.iloadN X0.here hx rfl (hb hby d9_0) rfl kq) ?_
  refine own_Go.by (fun tq kq => XS.aloadN X0.here hx rfl (hb hby d9_1) rfl rfl kq) ?_
  show own_Go _ _ _ _ (s₁.setTop (mkF m 2 #[sR a1, sI (9 : Int32), .unset] [(Value.ref a1), (Value.int (9 : Int32))]))
  obtain ⟨cl1, Ar1, q1, S1, M1, Hh1, G1⟩ := id H0
  refine own_Go.by (fun tq kq => X0.arraylength hx (by rw [e0]; exact Ar1.1) (State.isArrayOf_alike hZ.alike Ar1.2.1) (g := (mkF m 2 #[sR a1, sI (9 : Int32), .unset] [(Value.ref a1), (Value.int (9 : Int32))])) rfl rfl (hb hby d9_2) _ kq) ?_
  rw [len_of S1 M1]
  show own_Go _ _ _ _ (s₁.setTop (mkF m 3 #[sR a1, sI (9 : Int32), .unset] [(Value.int (256 : Int32)), (Value.int (9 : Int32))]))
  refine own_Go.by (fun tq kq => XS.icmpYes X0.here hx rfl (pc0 := 3) (pc' := 14) rfl (hb hby d9_3) rfl (feq (by decide : ¬ ((9 : Int32) = (256 : Int32)))).2 (by decide) (by decide) kq) ?_
  refine own_Go.by (fun tq kq => XS.iloadN X0.here hx rfl (hb hby d9_14) rfl kq) ?_
  show own_Go _ _ _ _ (s₁.setTop (mkF m 15 #[sR a1, sI (9 : Int32), .unset] [(Value.int (9 : Int32))]))
  obtain ⟨T2, h2, k2, X2, e2, E2, A2, Ea2, st2⟩ := newPE X0 hx hZ (hw _ (List.mem_of_getElem? (i := 5) rfl)) e0 (g := (mkF m 15 #[sR a1, sI (9 : Int32), .unset] [(Value.int (9 : Int32))])) rfl (hb hby d9_15) rfl (by decide : ¬ ((9 : Int32) < (0 : Int32))) (cap := 9) (by decide : (9 : Int32).toNatClampNeg ≤ 9) (by decide) (by decide) (by decide) (ad := "[B") rfl
  obtain ⟨ob2, y2⟩ : ∃ z, z = h0.size := ⟨_, rfl⟩
  rw [← y2] at A2 Ea2 st2
  refine own_Go.by st2 ?_
  have O3 := O0.ext E2
  have K3 := K0.ext E2
  have g4 : n0 ≤ ob2 := Nat.le_trans (own_old_le O0) (Nat.le_of_eq y2.symm)
  have z4 : h0.size ≤ ob2 := Nat.le_trans K0.1 (Nat.le_of_eq y2.symm)
  have V2 : Arv Z h2 ob2 k2 .byte (9 : Int32) (List.replicate 9 (Value.int (0 : Int32))) (Value.int (0 : Int32)) := (Arv.new A2 (by decide : ¬ ((9 : Int32) < (0 : Int32)))).pad (pad_rep [] (Value.int (0 : Int32)) 9)
  refine own_Go.by (fun tq kq => XS.astoreN X2.here hx rfl (hb hby d9_17) rfl rfl (l' := #[sR a1, sI (9 : Int32), sR ob2]) rfl kq) ?_
  refine own_Go.by (fun tq kq => XS.aloadN X2.here hx rfl (hb hby d9_18) rfl rfl kq) ?_
  refine own_Go.by (fun tq kq => XS.iconst X2.here hx rfl (hb hby d9_19) kq) ?_
  show own_Go _ _ _ _ (T2.setTop (mkF m 20 #[sR a1, sI (9 : Int32), sR ob2] [(Value.int (0 : Int32)), (Value.ref a1)]))
  refine own_Go.by (fun tq kq => XS.aloadN X2.here hx rfl (hb hby d9_20) rfl rfl kq) ?_
  refine own_Go.by (fun tq kq => XS.iconst X2.here hx rfl (hb hby d9_21) kq) ?_
  refine own_Go.by (fun tq kq => XS.aloadN X2.here hx rfl (hb hby d9_22) rfl rfl kq) ?_
  show own_Go _ _ _ _ (T2.setTop (mkF m 23 #[sR a1, sI (9 : Int32), sR ob2] [(Value.ref a1), (Value.int (0 : Int32)), (Value.ref ob2), (Value.int (0 : Int32)), (Value.ref a1)]))
  have c5 := (H0.ext E2)
  obtain ⟨cl6, Ar6, q6, S6, M6, Hh6, G6⟩ := id c5
  refine own_Go.by (fun tq kq => X2.arraylength hx (by rw [e2]; exact Ar6.1) (State.isArrayOf_alike hZ.alike Ar6.2.1) (g := (mkF m 23 #[sR a1, sI (9 : Int32), sR ob2] [(Value.ref a1), (Value.int (0 : Int32)), (Value.ref ob2), (Value.int (0 : Int32)), (Value.ref a1)])) rfl rfl (hb hby d9_23) _ kq) ?_
  rw [len_of S6 M6]
  refine own_Go.by (fun tq kq => XS.iloadN X2.here hx rfl (hb hby d9_24) rfl kq) ?_
  show own_Go _ _ _ _ (T2.setTop (mkF m 25 #[sR a1, sI (9 : Int32), sR ob2] [(Value.int (9 : Int32)), (Value.int (256 : Int32)), (Value.int (0 : Int32)), (Value.ref ob2), (Value.int (0 : Int32)), (Value.ref a1)]))
  obtain ⟨_, _, ⟨T7, L7, k7, n7⟩, -, X7, ⟨Lc7, hQ7, l7, y7, z7⟩, st7⟩ := Jvm.LawKit.callS X2 hx (y := (⟨"java/lang/Math", "min", "(II)I"⟩ : MethodName)) hown (mvT hZ (hw _ (List.mem_of_getElem? (i := 64) rfl))) (mvT hZ (hw _ (List.mem_of_getElem? (i := 65) rfl))) (mvT hZ (hw _ (List.mem_of_getElem? (i := 66) rfl))) (mvT hZ (hw _ (List.mem_of_getElem? (i := 67) rfl))) (by decide) (backOf (W := 4) (rm10 l Z a0 hw [] (256 : Int32) (9 : Int32) h2 n0 O3 ) hZ (hw _ (List.mem_of_getElem? (i := 67) rfl)) (hw _ (List.mem_of_getElem? (i := 66) rfl)) (by decide) (by decide)) (g := (mkF m 25 #[sR a1, sI (9 : Int32), sR ob2] [(Value.int (9 : Int32)), (Value.int (256 : Int32)), (Value.int (0 : Int32)), (Value.ref ob2), (Value.int (0 : Int32)), (Value.ref a1)])) rfl (by rw [hml]; rfl) (argsL := [(Value.int (256 : Int32)), (Value.int (9 : Int32))]) (rest := [(Value.int (0 : Int32)), (Value.ref ob2), (Value.int (0 : Int32)), (Value.ref a1)]) (lenOf own_pd2 rfl) rfl (by show 2 * 0 + _ ≤ _; exact Nat.le_of_eq rfl) (hb hby d9_25) (fun _ _ => ⟨rfl, e2, (by decide : 1 + 0 ≤ _), (by decide : 9 + 0 ≤ _)⟩)
  dsimp only [Pt.U, Pt.locs, Pt.cells, Pt.slots] at X7 l7 y7 z7 st7 hQ7
  subst l7 y7 z7
  refine own_Go.by st7 ?_
  obtain ⟨rfl, N7q, e7⟩ := hQ7
  have N7 := Fr.app N0 N7q
  show own_Go _ _ _ _ (T7.setTop (mkF m 28 #[sR a1, sI (9 : Int32), sR ob2] [(Value.int (9 : Int32)), (Value.int (0 : Int32)), (Value.ref ob2), (Value.int (0 : Int32)), (Value.ref a1)]))
  obtain ⟨T8, h8, Lc8, X8, e8, N8, K8q, V8, st8⟩ := cpA X7 hx hZ hown (hw _ (List.mem_of_getElem? (i := 68) rfl)) (hw _ (List.mem_of_getElem? (i := 71) rfl)) (hw _ (List.mem_of_getElem? (i := 69) rfl)) (hw _ (List.mem_of_getElem? (i := 70) rfl)) e7 c5 V2 (us := ((List.range (9 : Int32).toNatClampNeg).map fun i => (vs).getD ((0 : Int32).toNatClampNeg + i) (Value.int (0 : Int32)))) (Or.inl ⟨rfl, rfl⟩) (by decide : ¬ ((0 : Int32) < (0 : Int32))) (by decide : ¬ ((0 : Int32) < (0 : Int32))) (by decide : ¬ ((9 : Int32) < (0 : Int32))) (by decide : (0 : Int32).toNatClampNeg + (9 : Int32).toNatClampNeg ≤ (256 : Int32).toNatClampNeg) (by decide : (0 : Int32).toNatClampNeg + (9 : Int32).toNatClampNeg ≤ (9 : Int32).toNatClampNeg) rfl (by rw [List.length_replicate]; decide) N7 g4 (g := (mkF m 28 #[sR a1, sI (9 : Int32), sR ob2] [(Value.int (9 : Int32)), (Value.int (0 : Int32)), (Value.ref ob2), (Value.int (0 : Int32)), (Value.ref a1)])) rfl (by rw [hml]; rfl) rfl (hb hby d9_28) (by decide) (W := 0) (by show 2 * 0 + _ ≤ _; exact Nat.le_of_eq rfl) (by decide)
  refine own_Go.by st8 ?_
  have O9 := O3.keep K8q (allS g4 all0)
  have K9 := K3.trans K8q (allS (Or.inr z4) all0)
  have V8' : Arv Z h8 ob2 k2 .byte (9 : Int32) (own_cp vs 9) (Value.int (0 : Int32)) := by
      have q : Arv Z h8 ob2 k2 .byte (9 : Int32) (((List.replicate 9 (Value.int (0 : Int32)))).take (0 : Int32).toNatClampNeg ++ ((List.range (9 : Int32).toNatClampNeg).map fun i => (vs).getD ((0 : Int32).toNatClampNeg + i) (Value.int (0 : Int32))) ++ ((List.replicate 9 (Value.int (0 : Int32)))).drop ((0 : Int32).toNatClampNeg + (9 : Int32).toNatClampNeg)) (Value.int (0 : Int32)) := V8
      rw [show (((List.replicate 9 (Value.int (0 : Int32)))).take (0 : Int32).toNatClampNeg ++ ((List.range (9 : Int32).toNatClampNeg).map fun i => (vs).getD ((0 : Int32).toNatClampNeg + i) (Value.int (0 : Int32))) ++ ((List.replicate 9 (Value.int (0 : Int32)))).drop ((0 : Int32).toNatClampNeg + (9 : Int32).toNatClampNeg)) = (own_cp vs 9) from (own_cat _ _ 9).trans (by rw [List.drop_replicate]; first | rfl | simp [own_cp])] at q
      exact q
  refine own_Go.by (fun tq kq => XS.aloadN X8.here hx rfl (hb hby d9_31) rfl rfl kq) ?_
  show own_Go _ _ _ _ (T8.setTop (mkF m 32 #[sR a1, sI (9 : Int32), sR ob2] [(Value.ref ob2)]))
  have c10 := (Ea2.keep K8q)
  obtain ⟨fs, hr, hrun, hended, hW, hsame⟩ := X8.leave (v := some (Value.ref ob2)) (fun h => by rw [Bd.returns] at h; cases h)
  refine own_Go.fin (retOut X8 hx Bd.returns rfl (Or.inr (Or.inr (Or.inr (Or.inr ⟨rfl, rfl, rfl⟩)))) (hb hby d9_32) hr) ⟨hrun, hended, _, _, rfl, ?_, ⟨_, rfl⟩, hW, hsame.mono (by decide) (by decide)⟩
  show Q9_256_9 Z a1 kB vs h0 n0 _ T8.heap _
  rw [e8]
  exact ⟨ob2, k2, rfl, N8, K9, z4, c10, V8'⟩

theorem own_ef_9_256_512 (m : MethodId) (a1 : Addr) : entryFrame m #[(Value.ref a1), (Value.int (512 : Int32))] 3 = mkF m 0 #[sR a1, sI (512 : Int32), .unset] [] := by first | (simp [entryFrame, mkF, argsToLocals, Value.category]; done) | rfl
def Q9_256_512 (Z : State) (a1 : Addr) (kB : ClassId) (vs : List Value) (h0 : Heap) (n0 : Nat) (v : Option Value) (h : Heap) (L : List Loc) : Prop := ∃ (b : Addr), ∃ (k2 : ClassId), v = some (Value.ref b) ∧ Fr n0 L ∧ Keep h0 h [] ∧ (h0.size ≤ b) ∧ (Exa Z h b "[B") ∧ (Arv Z h b k2 .byte (512 : Int32) (own_cp vs 256 ++ List.replicate 256 (Value.int (0 : Int32))) (Value.int (0 : Int32)))
set_option maxRecDepth 65536 in
set_option maxHeartbeats 40000000 in
theorem rm9_256_512 (l : Launch) (Z : State) (a0 : Array Value) (hw : ∀ d ∈ tables_1, d.before a0 Z = true) (ws : List Jvm.Cond) (a1 : Addr) (kB : ClassId) (vs : List Value) (h0 : Heap) (n0 : Nat) (O0 : Old Z n0 h0) (H0 : Arv Z h0 a1 kB .byte (256 : Int32) vs (Value.int (0 : Int32))) :
    MetFree l (⟨"java/util/Arrays", "copyOf", "([BI)[B"⟩ : MethodName) (head1 (Jvm.Cond.code (⟨"java/util/Arrays", "copyOf", "([BI)[B"⟩ : MethodName) jdk_65_method_121_code 3 (some (.array .byte)) :: ws) ({ frames := 1, cells := 1, slots := 512, locals := 18 } : Room)) (fun a U => a = #[(Value.ref a1), (Value.int (512 : Int32))] ∧ Z.Warmed39 U.vm ∧ U.heap = h0) (fun _ _ _ _ _ => True) (fun _ U o U' => ∃ v L, o = .returned v ∧ Q9_256_512 Z a1 kB vs h0 n0 v U'.heap L ∧ FrameEnd U o U' L ({ frames := 1, cells := 1, slots := 512, locals := 18 } : Room).cells ({ frames := 1, cells := 1, slots := 512, locals := 18 } : Room).slots) := by
  refine MetFree.of_bodySF (plainFor_of_name own_pn_java_util_Arrays) hisR ?_
  intro p e s m args below meth c s₁ Bd hml0 hP hK
  obtain ⟨rfl, hZ, hh⟩ := hP
  have hx := Bd.exec
  have hby := Bd.bytes
  have hml : c.maxLocals = 3 := hml0
  have hown : s.vm.findClass "java/util/Arrays" = some m.cls := findClass_of_methodNamed Bd.named
  have hnm := (name_of_methodNamed Bd.named Bd.method).1
  have X0 : Stand p l e ({ frames := 1, cells := 1, slots := 512, locals := 18 } : Room) s m #[(Value.ref a1), (Value.int (512 : Int32))] below meth c s₁ [] 0 0 := Stand.of_body Bd
  have e0 : s₁.heap = h0 := by rw [← hh, Bd.state]; rfl
  have N0 := Fr.nil n0
  have K0 : Keep h0 h0 [] := Keep.refl h0 []
  show own_Go _ _ _ _ (s₁.setTop (entryFrame m #[(Value.ref a1), (Value.int (512 : Int32))] 3))
  refine own_Go.by (fun tq kq => castTop (own_ef_9_256_512 m a1) kq) ?_
  show own_Go _ _ _ _ (s₁.setTop (mkF m 0 #[sR a1, sI (512 : Int32), .unset] []))
  refine own_Go.by (fun tq kq => XS.iloadN X0.here hx rfl (hb hby d9_0) rfl kq) ?_
  refine own_Go.by (fun tq kq => XS.aloadN X0.here hx rfl (hb hby d9_1) rfl rfl kq) ?_
  show own_Go _ _ _ _ (s₁.setTop (mkF m 2 #[sR a1, sI (512 : Int32), .unset] [(Value.ref a1), (Value.int (512 : Int32))]))
  obtain ⟨cl1, Ar1, q1, S1, M1, Hh1, G1⟩ := id H0
  refine own_Go.by (fun tq kq => X0.arraylength hx (by rw [e0]; exact Ar1.1) (State.isArrayOf_alike hZ.alike Ar1.2.1) (g := (mkF m 2 #[sR a1, sI (512 : Int32), .unset] [(Value.ref a1), (Value.int (512 : Int32))])) rfl rfl (hb hby d9_2) _ kq) ?_
  rw [len_of S1 M1]
  show own_Go _ _ _ _ (s₁.setTop (mkF m 3 #[sR a1, sI (512 : Int32), .unset] [(Value.int (256 : Int32)), (Value.int (512 : Int32))]))
  refine own_Go.by (fun tq kq => XS.icmpYes X0.here hx rfl (pc0 := 3) (pc' := 14) rfl (hb hby d9_3) rfl (feq (by decide : ¬ ((512 : Int32) = (256 : Int32)))).2 (by decide) (by decide) kq) ?_
  refine own_Go.by (fun tq kq => XS.iloadN X0.here hx rfl (hb hby d9_14) rfl kq) ?_
  show own_Go _ _ _ _ (s₁.setTop (mkF m 15 #[sR a1, sI (512 : Int32), .unset] [(Value.int (512 : Int32))]))
  obtain ⟨T2, h2, k2, X2, e2, E2, A2, Ea2, st2⟩ := newPE X0 hx hZ (hw _ (List.mem_of_getElem? (i := 5) rfl)) e0 (g := (mkF m 15 #[sR a1, sI (512 : Int32), .unset] [(Value.int (512 : Int32))])) rfl (hb hby d9_15) rfl (by decide : ¬ ((512 : Int32) < (0 : Int32))) (cap := 512) (by decide : (512 : Int32).toNatClampNeg ≤ 512) (by decide) (by decide) (by decide) (ad := "[B") rfl
  obtain ⟨ob2, y2⟩ : ∃ z, z = h0.size := ⟨_, rfl⟩
  rw [← y2] at A2 Ea2 st2
  refine own_Go.by st2 ?_
  have O3 := O0.ext E2
  have K3 := K0.ext E2
  have g4 : n0 ≤ ob2 := Nat.le_trans (own_old_le O0) (Nat.le_of_eq y2.symm)
  have z4 : h0.size ≤ ob2 := Nat.le_trans K0.1 (Nat.le_of_eq y2.symm)
  have V2 : Arv Z h2 ob2 k2 .byte (512 : Int32) (List.replicate 512 (Value.int (0 : Int32))) (Value.int (0 : Int32)) := (Arv.new A2 (by decide : ¬ ((512 : Int32) < (0 : Int32)))).pad (pad_rep [] (Value.int (0 : Int32)) 512)
  refine own_Go.by (fun tq kq => XS.astoreN X2.here hx rfl (hb hby d9_17) rfl rfl (l' := #[sR a1, sI (512 : Int32), sR ob2]) rfl kq) ?_
  refine own_Go.by (fun tq kq => XS.aloadN X2.here hx rfl (hb hby d9_18) rfl rfl kq) ?_
  refine own_Go.by (fun tq kq => XS.iconst X2.here hx rfl (hb hby d9_19) kq) ?_
  show own_Go _ _ _ _ (T2.setTop (mkF m 20 #[sR a1, sI (512 : Int32), sR ob2] [(Value.int (0 : Int32)), (Value.ref a1)]))
  refine own_Go.by (fun tq kq => XS.aloadN X2.here hx rfl (hb hby d9_20) rfl rfl kq) ?_
  refine own_Go.by (fun tq kq => XS.iconst X2.here hx rfl (hb hby d9_21) kq) ?_
  refine own_Go.by (fun tq kq => XS.aloadN X2.here hx rfl (hb hby d9_22) rfl rfl kq) ?_
  show own_Go _ _ _ _ (T2.setTop (mkF m 23 #[sR a1, sI (512 : Int32), sR ob2] [(Value.ref a1), (Value.int (0 : Int32)), (Value.ref ob2), (Value.int (0 : Int32)), (Value.ref a1)]))
  have c5 := (H0.ext E2)
  obtain ⟨cl6, Ar6, q6, S6, M6, Hh6, G6⟩ := id c5
  refine own_Go.by (fun tq kq => X2.arraylength hx (by rw [e2]; exact Ar6.1) (State.isArrayOf_alike hZ.alike Ar6.2.1) (g := (mkF m 23 #[sR a1, sI (512 : Int32), sR ob2] [(Value.ref a1), (Value.int (0 : Int32)), (Value.ref ob2), (Value.int (0 : Int32)), (Value.ref a1)])) rfl rfl (hb hby d9_23) _ kq) ?_
  rw [len_of S6 M6]
  refine own_Go.by (fun tq kq => XS.iloadN X2.here hx rfl (hb hby d9_24) rfl kq) ?_
  show own_Go _ _ _ _ (T2.setTop (mkF m 25 #[sR a1, sI (512 : Int32), sR ob2] [(Value.int (512 : Int32)), (Value.int (256 : Int32)), (Value.int (0 : Int32)), (Value.ref ob2), (Value.int (0 : Int32)), (Value.ref a1)]))
  obtain ⟨_, _, ⟨T7, L7, k7, n7⟩, -, X7, ⟨Lc7, hQ7, l7, y7, z7⟩, st7⟩ := Jvm.LawKit.callS X2 hx (y := (⟨"java/lang/Math", "min", "(II)I"⟩ : MethodName)) hown (mvT hZ (hw _ (List.mem_of_getElem? (i := 64) rfl))) (mvT hZ (hw _ (List.mem_of_getElem? (i := 65) rfl))) (mvT hZ (hw _ (List.mem_of_getElem? (i := 66) rfl))) (mvT hZ (hw _ (List.mem_of_getElem? (i := 67) rfl))) (by decide) (backOf (W := 4) (rm10 l Z a0 hw [] (256 : Int32) (512 : Int32) h2 n0 O3 ) hZ (hw _ (List.mem_of_getElem? (i := 67) rfl)) (hw _ (List.mem_of_getElem? (i := 66) rfl)) (by decide) (by decide)) (g := (mkF m 25 #[sR a1, sI (512 : Int32), sR ob2] [(Value.int (512 : Int32)), (Value.int (256 : Int32)), (Value.int (0 : Int32)), (Value.ref ob2), (Value.int (0 : Int32)), (Value.ref a1)])) rfl (by rw [hml]; rfl) (argsL := [(Value.int (256 : Int32)), (Value.int (512 : Int32))]) (rest := [(Value.int (0 : Int32)), (Value.ref ob2), (Value.int (0 : Int32)), (Value.ref a1)]) (lenOf own_pd2 rfl) rfl (by show 2 * 0 + _ ≤ _; exact Nat.le_of_eq rfl) (hb hby d9_25) (fun _ _ => ⟨rfl, e2, (by decide : 1 + 0 ≤ _), (by decide : 512 + 0 ≤ _)⟩)
  dsimp only [Pt.U, Pt.locs, Pt.cells, Pt.slots] at X7 l7 y7 z7 st7 hQ7
  subst l7 y7 z7
  refine own_Go.by st7 ?_
  obtain ⟨rfl, N7q, e7⟩ := hQ7
  have N7 := Fr.app N0 N7q
  show own_Go _ _ _ _ (T7.setTop (mkF m 28 #[sR a1, sI (512 : Int32), sR ob2] [(Value.int (256 : Int32)), (Value.int (0 : Int32)), (Value.ref ob2), (Value.int (0 : Int32)), (Value.ref a1)]))
  obtain ⟨T8, h8, Lc8, X8, e8, N8, K8q, V8, st8⟩ := cpA X7 hx hZ hown (hw _ (List.mem_of_getElem? (i := 68) rfl)) (hw _ (List.mem_of_getElem? (i := 71) rfl)) (hw _ (List.mem_of_getElem? (i := 69) rfl)) (hw _ (List.mem_of_getElem? (i := 70) rfl)) e7 c5 V2 (us := ((List.range (256 : Int32).toNatClampNeg).map fun i => (vs).getD ((0 : Int32).toNatClampNeg + i) (Value.int (0 : Int32)))) (Or.inl ⟨rfl, rfl⟩) (by decide : ¬ ((0 : Int32) < (0 : Int32))) (by decide : ¬ ((0 : Int32) < (0 : Int32))) (by decide : ¬ ((256 : Int32) < (0 : Int32))) (by decide : (0 : Int32).toNatClampNeg + (256 : Int32).toNatClampNeg ≤ (256 : Int32).toNatClampNeg) (by decide : (0 : Int32).toNatClampNeg + (256 : Int32).toNatClampNeg ≤ (512 : Int32).toNatClampNeg) rfl (by rw [List.length_replicate]; decide) N7 g4 (g := (mkF m 28 #[sR a1, sI (512 : Int32), sR ob2] [(Value.int (256 : Int32)), (Value.int (0 : Int32)), (Value.ref ob2), (Value.int (0 : Int32)), (Value.ref a1)])) rfl (by rw [hml]; rfl) rfl (hb hby d9_28) (by decide) (W := 0) (by show 2 * 0 + _ ≤ _; exact Nat.le_of_eq rfl) (by decide)
  refine own_Go.by st8 ?_
  have O9 := O3.keep K8q (allS g4 all0)
  have K9 := K3.trans K8q (allS (Or.inr z4) all0)
  have V8' : Arv Z h8 ob2 k2 .byte (512 : Int32) (own_cp vs 256 ++ List.replicate 256 (Value.int (0 : Int32))) (Value.int (0 : Int32)) := by
      have q : Arv Z h8 ob2 k2 .byte (512 : Int32) (((List.replicate 512 (Value.int (0 : Int32)))).take (0 : Int32).toNatClampNeg ++ ((List.range (256 : Int32).toNatClampNeg).map fun i => (vs).getD ((0 : Int32).toNatClampNeg + i) (Value.int (0 : Int32))) ++ ((List.replicate 512 (Value.int (0 : Int32)))).drop ((0 : Int32).toNatClampNeg + (256 : Int32).toNatClampNeg)) (Value.int (0 : Int32)) := V8
      rw [show (((List.replicate 512 (Value.int (0 : Int32)))).take (0 : Int32).toNatClampNeg ++ ((List.range (256 : Int32).toNatClampNeg).map fun i => (vs).getD ((0 : Int32).toNatClampNeg + i) (Value.int (0 : Int32))) ++ ((List.replicate 512 (Value.int (0 : Int32)))).drop ((0 : Int32).toNatClampNeg + (256 : Int32).toNatClampNeg)) = (own_cp vs 256 ++ List.replicate 256 (Value.int (0 : Int32))) from (own_cat _ _ 256).trans (by rw [List.drop_replicate]; first | rfl | simp [own_cp])] at q
      exact q
  refine own_Go.by (fun tq kq => XS.aloadN X8.here hx rfl (hb hby d9_31) rfl rfl kq) ?_
  show own_Go _ _ _ _ (T8.setTop (mkF m 32 #[sR a1, sI (512 : Int32), sR ob2] [(Value.ref ob2)]))
  have c10 := (Ea2.keep K8q)
  obtain ⟨fs, hr, hrun, hended, hW, hsame⟩ := X8.leave (v := some (Value.ref ob2)) (fun h => by rw [Bd.returns] at h; cases h)
  refine own_Go.fin (retOut X8 hx Bd.returns rfl (Or.inr (Or.inr (Or.inr (Or.inr ⟨rfl, rfl, rfl⟩)))) (hb hby d9_32) hr) ⟨hrun, hended, _, _, rfl, ?_, ⟨_, rfl⟩, hW, hsame.mono (by decide) (by decide)⟩
  show Q9_256_512 Z a1 kB vs h0 n0 _ T8.heap _
  rw [e8]
  exact ⟨ob2, k2, rfl, N8, K9, z4, c10, V8'⟩

theorem own_ef_9_512_307 (m : MethodId) (a1 : Addr) : entryFrame m #[(Value.ref a1), (Value.int (307 : Int32))] 3 = mkF m 0 #[sR a1, sI (307 : Int32), .unset] [] := by first | (simp [entryFrame, mkF, argsToLocals, Value.category]; done) | rfl
def Q9_512_307 (Z : State) (a1 : Addr) (kB : ClassId) (vs : List Value) (h0 : Heap) (n0 : Nat) (v : Option Value) (h : Heap) (L : List Loc) : Prop := ∃ (b : Addr), ∃ (k2 : ClassId), v = some (Value.ref b) ∧ Fr n0 L ∧ Keep h0 h [] ∧ (h0.size ≤ b) ∧ (Exa Z h b "[B") ∧ (Arv Z h b k2 .byte (307 : Int32) (own_cp vs 307) (Value.int (0 : Int32)))
set_option maxRecDepth 65536 in
set_option maxHeartbeats 40000000 in
theorem rm9_512_307 (l : Launch) (Z : State) (a0 : Array Value) (hw : ∀ d ∈ tables_1, d.before a0 Z = true) (ws : List Jvm.Cond) (a1 : Addr) (kB : ClassId) (vs : List Value) (h0 : Heap) (n0 : Nat) (O0 : Old Z n0 h0) (H0 : Arv Z h0 a1 kB .byte (512 : Int32) vs (Value.int (0 : Int32))) :
    MetFree l (⟨"java/util/Arrays", "copyOf", "([BI)[B"⟩ : MethodName) (head1 (Jvm.Cond.code (⟨"java/util/Arrays", "copyOf", "([BI)[B"⟩ : MethodName) jdk_65_method_121_code 3 (some (.array .byte)) :: ws) ({ frames := 1, cells := 1, slots := 307, locals := 18 } : Room)) (fun a U => a = #[(Value.ref a1), (Value.int (307 : Int32))] ∧ Z.Warmed39 U.vm ∧ U.heap = h0) (fun _ _ _ _ _ => True) (fun _ U o U' => ∃ v L, o = .returned v ∧ Q9_512_307 Z a1 kB vs h0 n0 v U'.heap L ∧ FrameEnd U o U' L ({ frames := 1, cells := 1, slots := 307, locals := 18 } : Room).cells ({ frames := 1, cells := 1, slots := 307, locals := 18 } : Room).slots) := by
  refine MetFree.of_bodySF (plainFor_of_name own_pn_java_util_Arrays) hisR ?_
  intro p e s m args below meth c s₁ Bd hml0 hP hK
  obtain ⟨rfl, hZ, hh⟩ := hP
  have hx := Bd.exec
  have hby := Bd.bytes
  have hml : c.maxLocals = 3 := hml0
  have hown : s.vm.findClass "java/util/Arrays" = some m.cls := findClass_of_methodNamed Bd.named
  have hnm := (name_of_methodNamed Bd.named Bd.method).1
  have X0 : Stand p l e ({ frames := 1, cells := 1, slots := 307, locals := 18 } : Room) s m #[(Value.ref a1), (Value.int (307 : Int32))] below meth c s₁ [] 0 0 := Stand.of_body Bd
  have e0 : s₁.heap = h0 := by rw [← hh, Bd.state]; rfl
  have N0 := Fr.nil n0
  have K0 : Keep h0 h0 [] := Keep.refl h0 []
  show own_Go _ _ _ _ (s₁.setTop (entryFrame m #[(Value.ref a1), (Value.int (307 : Int32))] 3))
  refine own_Go.by (fun tq kq => castTop (own_ef_9_512_307 m a1) kq) ?_
  show own_Go _ _ _ _ (s₁.setTop (mkF m 0 #[sR a1, sI (307 : Int32), .unset] []))
  refine own_Go.by (fun tq kq => XS.iloadN X0.here hx rfl (hb hby d9_0) rfl kq) ?_
  refine own_Go.by (fun tq kq => XS.aloadN X0.here hx rfl (hb hby d9_1) rfl rfl kq) ?_
  show own_Go _ _ _ _ (s₁.setTop (mkF m 2 #[sR a1, sI (307 : Int32), .unset] [(Value.ref a1), (Value.int (307 : Int32))]))
  obtain ⟨cl1, Ar1, q1, S1, M1, Hh1, G1⟩ := id H0
  refine own_Go.by (fun tq kq => X0.arraylength hx (by rw [e0]; exact Ar1.1) (State.isArrayOf_alike hZ.alike Ar1.2.1) (g := (mkF m 2 #[sR a1, sI (307 : Int32), .unset] [(Value.ref a1), (Value.int (307 : Int32))])) rfl rfl (hb hby d9_2) _ kq) ?_
  rw [len_of S1 M1]
  show own_Go _ _ _ _ (s₁.setTop (mkF m 3 #[sR a1, sI (307 : Int32), .unset] [(Value.int (512 : Int32)), (Value.int (307 : Int32))]))
  refine own_Go.by (fun tq kq => XS.icmpYes X0.here hx rfl (pc0 := 3) (pc' := 14) rfl (hb hby d9_3) rfl (feq (by decide : ¬ ((307 : Int32) = (512 : Int32)))).2 (by decide) (by decide) kq) ?_
  refine own_Go.by (fun tq kq => XS.iloadN X0.here hx rfl (hb hby d9_14) rfl kq) ?_
  show own_Go _ _ _ _ (s₁.setTop (mkF m 15 #[sR a1, sI (307 : Int32), .unset] [(Value.int (307 : Int32))]))
  obtain ⟨T2, h2, k2, X2, e2, E2, A2, Ea2, st2⟩ := newPE X0 hx hZ (hw _ (List.mem_of_getElem? (i := 5) rfl)) e0 (g := (mkF m 15 #[sR a1, sI (307 : Int32), .unset] [(Value.int (307 : Int32))])) rfl (hb hby d9_15) rfl (by decide : ¬ ((307 : Int32) < (0 : Int32))) (cap := 307) (by decide : (307 : Int32).toNatClampNeg ≤ 307) (by decide) (by decide) (by decide) (ad := "[B") rfl
  obtain ⟨ob2, y2⟩ : ∃ z, z = h0.size := ⟨_, rfl⟩
  rw [← y2] at A2 Ea2 st2
  refine own_Go.by st2 ?_
  have O3 := O0.ext E2
  have K3 := K0.ext E2
  have g4 : n0 ≤ ob2 := Nat.le_trans (own_old_le O0) (Nat.le_of_eq y2.symm)
  have z4 : h0.size ≤ ob2 := Nat.le_trans K0.1 (Nat.le_of_eq y2.symm)
  have V2 : Arv Z h2 ob2 k2 .byte (307 : Int32) (List.replicate 307 (Value.int (0 : Int32))) (Value.int (0 : Int32)) := (Arv.new A2 (by decide : ¬ ((307 : Int32) < (0 : Int32)))).pad (pad_rep [] (Value.int (0 : Int32)) 307)
  refine own_Go.by (fun tq kq => XS.astoreN X2.here hx rfl (hb hby d9_17) rfl rfl (l' := #[sR a1, sI (307 : Int32), sR ob2]) rfl kq) ?_
  refine own_Go.by (fun tq kq => XS.aloadN X2.here hx rfl (hb hby d9_18) rfl rfl kq) ?_
  refine own_Go.by (fun tq kq => XS.iconst X2.here hx rfl (hb hby d9_19) kq) ?_
  show own_Go _ _ _ _ (T2.setTop (mkF m 20 #[sR a1, sI (307 : Int32), sR ob2] [(Value.int (0 : Int32)), (Value.ref a1)]))
  refine own_Go.by (fun tq kq => XS.aloadN X2.here hx rfl (hb hby d9_20) rfl rfl kq) ?_
  refine own_Go.by (fun tq kq => XS.iconst X2.here hx rfl (hb hby d9_21) kq) ?_
  refine own_Go.by (fun tq kq => XS.aloadN X2.here hx rfl (hb hby d9_22) rfl rfl kq) ?_
  show own_Go _ _ _ _ (T2.setTop (mkF m 23 #[sR a1, sI (307 : Int32), sR ob2] [(Value.ref a1), (Value.int (0 : Int32)), (Value.ref ob2), (Value.int (0 : Int32)), (Value.ref a1)]))
  have c5 := (H0.ext E2)
  obtain ⟨cl6, Ar6, q6, S6, M6, Hh6, G6⟩ := id c5
  refine own_Go.by (fun tq kq => X2.arraylength hx (by rw [e2]; exact Ar6.1) (State.isArrayOf_alike hZ.alike Ar6.2.1) (g := (mkF m 23 #[sR a1, sI (307 : Int32), sR ob2] [(Value.ref a1), (Value.int (0 : Int32)), (Value.ref ob2), (Value.int (0 : Int32)), (Value.ref a1)])) rfl rfl (hb hby d9_23) _ kq) ?_
  rw [len_of S6 M6]
  refine own_Go.by (fun tq kq => XS.iloadN X2.here hx rfl (hb hby d9_24) rfl kq) ?_
  show own_Go _ _ _ _ (T2.setTop (mkF m 25 #[sR a1, sI (307 : Int32), sR ob2] [(Value.int (307 : Int32)), (Value.int (512 : Int32)), (Value.int (0 : Int32)), (Value.ref ob2), (Value.int (0 : Int32)), (Value.ref a1)]))
  obtain ⟨_, _, ⟨T7, L7, k7, n7⟩, -, X7, ⟨Lc7, hQ7, l7, y7, z7⟩, st7⟩ := Jvm.LawKit.callS X2 hx (y := (⟨"java/lang/Math", "min", "(II)I"⟩ : MethodName)) hown (mvT hZ (hw _ (List.mem_of_getElem? (i := 64) rfl))) (mvT hZ (hw _ (List.mem_of_getElem? (i := 65) rfl))) (mvT hZ (hw _ (List.mem_of_getElem? (i := 66) rfl))) (mvT hZ (hw _ (List.mem_of_getElem? (i := 67) rfl))) (by decide) (backOf (W := 4) (rm10 l Z a0 hw [] (512 : Int32) (307 : Int32) h2 n0 O3 ) hZ (hw _ (List.mem_of_getElem? (i := 67) rfl)) (hw _ (List.mem_of_getElem? (i := 66) rfl)) (by decide) (by decide)) (g := (mkF m 25 #[sR a1, sI (307 : Int32), sR ob2] [(Value.int (307 : Int32)), (Value.int (512 : Int32)), (Value.int (0 : Int32)), (Value.ref ob2), (Value.int (0 : Int32)), (Value.ref a1)])) rfl (by rw [hml]; rfl) (argsL := [(Value.int (512 : Int32)), (Value.int (307 : Int32))]) (rest := [(Value.int (0 : Int32)), (Value.ref ob2), (Value.int (0 : Int32)), (Value.ref a1)]) (lenOf own_pd2 rfl) rfl (by show 2 * 0 + _ ≤ _; exact Nat.le_of_eq rfl) (hb hby d9_25) (fun _ _ => ⟨rfl, e2, (by decide : 1 + 0 ≤ _), (by decide : 307 + 0 ≤ _)⟩)
  dsimp only [Pt.U, Pt.locs, Pt.cells, Pt.slots] at X7 l7 y7 z7 st7 hQ7
  subst l7 y7 z7
  refine own_Go.by st7 ?_
  obtain ⟨rfl, N7q, e7⟩ := hQ7
  have N7 := Fr.app N0 N7q
  show own_Go _ _ _ _ (T7.setTop (mkF m 28 #[sR a1, sI (307 : Int32), sR ob2] [(Value.int (307 : Int32)), (Value.int (0 : Int32)), (Value.ref ob2), (Value.int (0 : Int32)), (Value.ref a1)]))
  obtain ⟨T8, h8, Lc8, X8, e8, N8, K8q, V8, st8⟩ := cpA X7 hx hZ hown (hw _ (List.mem_of_getElem? (i := 68) rfl)) (hw _ (List.mem_of_getElem? (i := 71) rfl)) (hw _ (List.mem_of_getElem? (i := 69) rfl)) (hw _ (List.mem_of_getElem? (i := 70) rfl)) e7 c5 V2 (us := ((List.range (307 : Int32).toNatClampNeg).map fun i => (vs).getD ((0 : Int32).toNatClampNeg + i) (Value.int (0 : Int32)))) (Or.inl ⟨rfl, rfl⟩) (by decide : ¬ ((0 : Int32) < (0 : Int32))) (by decide : ¬ ((0 : Int32) < (0 : Int32))) (by decide : ¬ ((307 : Int32) < (0 : Int32))) (by decide : (0 : Int32).toNatClampNeg + (307 : Int32).toNatClampNeg ≤ (512 : Int32).toNatClampNeg) (by decide : (0 : Int32).toNatClampNeg + (307 : Int32).toNatClampNeg ≤ (307 : Int32).toNatClampNeg) rfl (by rw [List.length_replicate]; decide) N7 g4 (g := (mkF m 28 #[sR a1, sI (307 : Int32), sR ob2] [(Value.int (307 : Int32)), (Value.int (0 : Int32)), (Value.ref ob2), (Value.int (0 : Int32)), (Value.ref a1)])) rfl (by rw [hml]; rfl) rfl (hb hby d9_28) (by decide) (W := 0) (by show 2 * 0 + _ ≤ _; exact Nat.le_of_eq rfl) (by decide)
  refine own_Go.by st8 ?_
  have O9 := O3.keep K8q (allS g4 all0)
  have K9 := K3.trans K8q (allS (Or.inr z4) all0)
  have V8' : Arv Z h8 ob2 k2 .byte (307 : Int32) (own_cp vs 307) (Value.int (0 : Int32)) := by
      have q : Arv Z h8 ob2 k2 .byte (307 : Int32) (((List.replicate 307 (Value.int (0 : Int32)))).take (0 : Int32).toNatClampNeg ++ ((List.range (307 : Int32).toNatClampNeg).map fun i => (vs).getD ((0 : Int32).toNatClampNeg + i) (Value.int (0 : Int32))) ++ ((List.replicate 307 (Value.int (0 : Int32)))).drop ((0 : Int32).toNatClampNeg + (307 : Int32).toNatClampNeg)) (Value.int (0 : Int32)) := V8
      rw [show (((List.replicate 307 (Value.int (0 : Int32)))).take (0 : Int32).toNatClampNeg ++ ((List.range (307 : Int32).toNatClampNeg).map fun i => (vs).getD ((0 : Int32).toNatClampNeg + i) (Value.int (0 : Int32))) ++ ((List.replicate 307 (Value.int (0 : Int32)))).drop ((0 : Int32).toNatClampNeg + (307 : Int32).toNatClampNeg)) = (own_cp vs 307) from (own_cat _ _ 307).trans (by rw [List.drop_replicate]; first | rfl | simp [own_cp])] at q
      exact q
  refine own_Go.by (fun tq kq => XS.aloadN X8.here hx rfl (hb hby d9_31) rfl rfl kq) ?_
  show own_Go _ _ _ _ (T8.setTop (mkF m 32 #[sR a1, sI (307 : Int32), sR ob2] [(Value.ref ob2)]))
  have c10 := (Ea2.keep K8q)
  obtain ⟨fs, hr, hrun, hended, hW, hsame⟩ := X8.leave (v := some (Value.ref ob2)) (fun h => by rw [Bd.returns] at h; cases h)
  refine own_Go.fin (retOut X8 hx Bd.returns rfl (Or.inr (Or.inr (Or.inr (Or.inr ⟨rfl, rfl, rfl⟩)))) (hb hby d9_32) hr) ⟨hrun, hended, _, _, rfl, ?_, ⟨_, rfl⟩, hW, hsame.mono (by decide) (by decide)⟩
  show Q9_512_307 Z a1 kB vs h0 n0 _ T8.heap _
  rw [e8]
  exact ⟨ob2, k2, rfl, N8, K9, z4, c10, V8'⟩

theorem own_ef_9_512_308 (m : MethodId) (a1 : Addr) : entryFrame m #[(Value.ref a1), (Value.int (308 : Int32))] 3 = mkF m 0 #[sR a1, sI (308 : Int32), .unset] [] := by first | (simp [entryFrame, mkF, argsToLocals, Value.category]; done) | rfl
def Q9_512_308 (Z : State) (a1 : Addr) (kB : ClassId) (vs : List Value) (h0 : Heap) (n0 : Nat) (v : Option Value) (h : Heap) (L : List Loc) : Prop := ∃ (b : Addr), ∃ (k2 : ClassId), v = some (Value.ref b) ∧ Fr n0 L ∧ Keep h0 h [] ∧ (h0.size ≤ b) ∧ (Exa Z h b "[B") ∧ (Arv Z h b k2 .byte (308 : Int32) (own_cp vs 308) (Value.int (0 : Int32)))
set_option maxRecDepth 65536 in
set_option maxHeartbeats 40000000 in
theorem rm9_512_308 (l : Launch) (Z : State) (a0 : Array Value) (hw : ∀ d ∈ tables_1, d.before a0 Z = true) (ws : List Jvm.Cond) (a1 : Addr) (kB : ClassId) (vs : List Value) (h0 : Heap) (n0 : Nat) (O0 : Old Z n0 h0) (H0 : Arv Z h0 a1 kB .byte (512 : Int32) vs (Value.int (0 : Int32))) :
    MetFree l (⟨"java/util/Arrays", "copyOf", "([BI)[B"⟩ : MethodName) (head1 (Jvm.Cond.code (⟨"java/util/Arrays", "copyOf", "([BI)[B"⟩ : MethodName) jdk_65_method_121_code 3 (some (.array .byte)) :: ws) ({ frames := 1, cells := 1, slots := 308, locals := 18 } : Room)) (fun a U => a = #[(Value.ref a1), (Value.int (308 : Int32))] ∧ Z.Warmed39 U.vm ∧ U.heap = h0) (fun _ _ _ _ _ => True) (fun _ U o U' => ∃ v L, o = .returned v ∧ Q9_512_308 Z a1 kB vs h0 n0 v U'.heap L ∧ FrameEnd U o U' L ({ frames := 1, cells := 1, slots := 308, locals := 18 } : Room).cells ({ frames := 1, cells := 1, slots := 308, locals := 18 } : Room).slots) := by
  refine MetFree.of_bodySF (plainFor_of_name own_pn_java_util_Arrays) hisR ?_
  intro p e s m args below meth c s₁ Bd hml0 hP hK
  obtain ⟨rfl, hZ, hh⟩ := hP
  have hx := Bd.exec
  have hby := Bd.bytes
  have hml : c.maxLocals = 3 := hml0
  have hown : s.vm.findClass "java/util/Arrays" = some m.cls := findClass_of_methodNamed Bd.named
  have hnm := (name_of_methodNamed Bd.named Bd.method).1
  have X0 : Stand p l e ({ frames := 1, cells := 1, slots := 308, locals := 18 } : Room) s m #[(Value.ref a1), (Value.int (308 : Int32))] below meth c s₁ [] 0 0 := Stand.of_body Bd
  have e0 : s₁.heap = h0 := by rw [← hh, Bd.state]; rfl
  have N0 := Fr.nil n0
  have K0 : Keep h0 h0 [] := Keep.refl h0 []
  show own_Go _ _ _ _ (s₁.setTop (entryFrame m #[(Value.ref a1), (Value.int (308 : Int32))] 3))
  refine own_Go.by (fun tq kq => castTop (own_ef_9_512_308 m a1) kq) ?_
  show own_Go _ _ _ _ (s₁.setTop (mkF m 0 #[sR a1, sI (308 : Int32), .unset] []))
  refine own_Go.by (fun tq kq => XS.iloadN X0.here hx rfl (hb hby d9_0) rfl kq) ?_
  refine own_Go.by (fun tq kq => XS.aloadN X0.here hx rfl (hb hby d9_1) rfl rfl kq) ?_
  show own_Go _ _ _ _ (s₁.setTop (mkF m 2 #[sR a1, sI (308 : Int32), .unset] [(Value.ref a1), (Value.int (308 : Int32))]))
  obtain ⟨cl1, Ar1, q1, S1, M1, Hh1, G1⟩ := id H0
  refine own_Go.by (fun tq kq => X0.arraylength hx (by rw [e0]; exact Ar1.1) (State.isArrayOf_alike hZ.alike Ar1.2.1) (g := (mkF m 2 #[sR a1, sI (308 : Int32), .unset] [(Value.ref a1), (Value.int (308 : Int32))])) rfl rfl (hb hby d9_2) _ kq) ?_
  rw [len_of S1 M1]
  show own_Go _ _ _ _ (s₁.setTop (mkF m 3 #[sR a1, sI (308 : Int32), .unset] [(Value.int (512 : Int32)), (Value.int (308 : Int32))]))
  refine own_Go.by (fun tq kq => XS.icmpYes X0.here hx rfl (pc0 := 3) (pc' := 14) rfl (hb hby d9_3) rfl (feq (by decide : ¬ ((308 : Int32) = (512 : Int32)))).2 (by decide) (by decide) kq) ?_
  refine own_Go.by (fun tq kq => XS.iloadN X0.here hx rfl (hb hby d9_14) rfl kq) ?_
  show own_Go _ _ _ _ (s₁.setTop (mkF m 15 #[sR a1, sI (308 : Int32), .unset] [(Value.int (308 : Int32))]))
  obtain ⟨T2, h2, k2, X2, e2, E2, A2, Ea2, st2⟩ := newPE X0 hx hZ (hw _ (List.mem_of_getElem? (i := 5) rfl)) e0 (g := (mkF m 15 #[sR a1, sI (308 : Int32), .unset] [(Value.int (308 : Int32))])) rfl (hb hby d9_15) rfl (by decide : ¬ ((308 : Int32) < (0 : Int32))) (cap := 308) (by decide : (308 : Int32).toNatClampNeg ≤ 308) (by decide) (by decide) (by decide) (ad := "[B") rfl
  obtain ⟨ob2, y2⟩ : ∃ z, z = h0.size := ⟨_, rfl⟩
  rw [← y2] at A2 Ea2 st2
  refine own_Go.by st2 ?_
  have O3 := O0.ext E2
  have K3 := K0.ext E2
  have g4 : n0 ≤ ob2 := Nat.le_trans (own_old_le O0) (Nat.le_of_eq y2.symm)
  have z4 : h0.size ≤ ob2 := Nat.le_trans K0.1 (Nat.le_of_eq y2.symm)
  have V2 : Arv Z h2 ob2 k2 .byte (308 : Int32) (List.replicate 308 (Value.int (0 : Int32))) (Value.int (0 : Int32)) := (Arv.new A2 (by decide : ¬ ((308 : Int32) < (0 : Int32)))).pad (pad_rep [] (Value.int (0 : Int32)) 308)
  refine own_Go.by (fun tq kq => XS.astoreN X2.here hx rfl (hb hby d9_17) rfl rfl (l' := #[sR a1, sI (308 : Int32), sR ob2]) rfl kq) ?_
  refine own_Go.by (fun tq kq => XS.aloadN X2.here hx rfl (hb hby d9_18) rfl rfl kq) ?_
  refine own_Go.by (fun tq kq => XS.iconst X2.here hx rfl (hb hby d9_19) kq) ?_
  show own_Go _ _ _ _ (T2.setTop (mkF m 20 #[sR a1, sI (308 : Int32), sR ob2] [(Value.int (0 : Int32)), (Value.ref a1)]))
  refine own_Go.by (fun tq kq => XS.aloadN X2.here hx rfl (hb hby d9_20) rfl rfl kq) ?_
  refine own_Go.by (fun tq kq => XS.iconst X2.here hx rfl (hb hby d9_21) kq) ?_
  refine own_Go.by (fun tq kq => XS.aloadN X2.here hx rfl (hb hby d9_22) rfl rfl kq) ?_
  show own_Go _ _ _ _ (T2.setTop (mkF m 23 #[sR a1, sI (308 : Int32), sR ob2] [(Value.ref a1), (Value.int (0 : Int32)), (Value.ref ob2), (Value.int (0 : Int32)), (Value.ref a1)]))
  have c5 := (H0.ext E2)
  obtain ⟨cl6, Ar6, q6, S6, M6, Hh6, G6⟩ := id c5
  refine own_Go.by (fun tq kq => X2.arraylength hx (by rw [e2]; exact Ar6.1) (State.isArrayOf_alike hZ.alike Ar6.2.1) (g := (mkF m 23 #[sR a1, sI (308 : Int32), sR ob2] [(Value.ref a1), (Value.int (0 : Int32)), (Value.ref ob2), (Value.int (0 : Int32)), (Value.ref a1)])) rfl rfl (hb hby d9_23) _ kq) ?_
  rw [len_of S6 M6]
  refine own_Go.by (fun tq kq => XS.iloadN X2.here hx rfl (hb hby d9_24) rfl kq) ?_
  show own_Go _ _ _ _ (T2.setTop (mkF m 25 #[sR a1, sI (308 : Int32), sR ob2] [(Value.int (308 : Int32)), (Value.int (512 : Int32)), (Value.int (0 : Int32)), (Value.ref ob2), (Value.int (0 : Int32)), (Value.ref a1)]))
  obtain ⟨_, _, ⟨T7, L7, k7, n7⟩, -, X7, ⟨Lc7, hQ7, l7, y7, z7⟩, st7⟩ := Jvm.LawKit.callS X2 hx (y := (⟨"java/lang/Math", "min", "(II)I"⟩ : MethodName)) hown (mvT hZ (hw _ (List.mem_of_getElem? (i := 64) rfl))) (mvT hZ (hw _ (List.mem_of_getElem? (i := 65) rfl))) (mvT hZ (hw _ (List.mem_of_getElem? (i := 66) rfl))) (mvT hZ (hw _ (List.mem_of_getElem? (i := 67) rfl))) (by decide) (backOf (W := 4) (rm10 l Z a0 hw [] (512 : Int32) (308 : Int32) h2 n0 O3 ) hZ (hw _ (List.mem_of_getElem? (i := 67) rfl)) (hw _ (List.mem_of_getElem? (i := 66) rfl)) (by decide) (by decide)) (g := (mkF m 25 #[sR a1, sI (308 : Int32), sR ob2] [(Value.int (308 : Int32)), (Value.int (512 : Int32)), (Value.int (0 : Int32)), (Value.ref ob2), (Value.int (0 : Int32)), (Value.ref a1)])) rfl (by rw [hml]; rfl) (argsL := [(Value.int (512 : Int32)), (Value.int (308 : Int32))]) (rest := [(Value.int (0 : Int32)), (Value.ref ob2), (Value.int (0 : Int32)), (Value.ref a1)]) (lenOf own_pd2 rfl) rfl (by show 2 * 0 + _ ≤ _; exact Nat.le_of_eq rfl) (hb hby d9_25) (fun _ _ => ⟨rfl, e2, (by decide : 1 + 0 ≤ _), (by decide : 308 + 0 ≤ _)⟩)
  dsimp only [Pt.U, Pt.locs, Pt.cells, Pt.slots] at X7 l7 y7 z7 st7 hQ7
  subst l7 y7 z7
  refine own_Go.by st7 ?_
  obtain ⟨rfl, N7q, e7⟩ := hQ7
  have N7 := Fr.app N0 N7q
  show own_Go _ _ _ _ (T7.setTop (mkF m 28 #[sR a1, sI (308 : Int32), sR ob2] [(Value.int (308 : Int32)), (Value.int (0 : Int32)), (Value.ref ob2), (Value.int (0 : Int32)), (Value.ref a1)]))
  obtain ⟨T8, h8, Lc8, X8, e8, N8, K8q, V8, st8⟩ := cpA X7 hx hZ hown (hw _ (List.mem_of_getElem? (i := 68) rfl)) (hw _ (List.mem_of_getElem? (i := 71) rfl)) (hw _ (List.mem_of_getElem? (i := 69) rfl)) (hw _ (List.mem_of_getElem? (i := 70) rfl)) e7 c5 V2 (us := ((List.range (308 : Int32).toNatClampNeg).map fun i => (vs).getD ((0 : Int32).toNatClampNeg + i) (Value.int (0 : Int32)))) (Or.inl ⟨rfl, rfl⟩) (by decide : ¬ ((0 : Int32) < (0 : Int32))) (by decide : ¬ ((0 : Int32) < (0 : Int32))) (by decide : ¬ ((308 : Int32) < (0 : Int32))) (by decide : (0 : Int32).toNatClampNeg + (308 : Int32).toNatClampNeg ≤ (512 : Int32).toNatClampNeg) (by decide : (0 : Int32).toNatClampNeg + (308 : Int32).toNatClampNeg ≤ (308 : Int32).toNatClampNeg) rfl (by rw [List.length_replicate]; decide) N7 g4 (g := (mkF m 28 #[sR a1, sI (308 : Int32), sR ob2] [(Value.int (308 : Int32)), (Value.int (0 : Int32)), (Value.ref ob2), (Value.int (0 : Int32)), (Value.ref a1)])) rfl (by rw [hml]; rfl) rfl (hb hby d9_28) (by decide) (W := 0) (by show 2 * 0 + _ ≤ _; exact Nat.le_of_eq rfl) (by decide)
  refine own_Go.by st8 ?_
  have O9 := O3.keep K8q (allS g4 all0)
  have K9 := K3.trans K8q (allS (Or.inr z4) all0)
  have V8' : Arv Z h8 ob2 k2 .byte (308 : Int32) (own_cp vs 308) (Value.int (0 : Int32)) := by
      have q : Arv Z h8 ob2 k2 .byte (308 : Int32) (((List.replicate 308 (Value.int (0 : Int32)))).take (0 : Int32).toNatClampNeg ++ ((List.range (308 : Int32).toNatClampNeg).map fun i => (vs).getD ((0 : Int32).toNatClampNeg + i) (Value.int (0 : Int32))) ++ ((List.replicate 308 (Value.int (0 : Int32)))).drop ((0 : Int32).toNatClampNeg + (308 : Int32).toNatClampNeg)) (Value.int (0 : Int32)) := V8
      rw [show (((List.replicate 308 (Value.int (0 : Int32)))).take (0 : Int32).toNatClampNeg ++ ((List.range (308 : Int32).toNatClampNeg).map fun i => (vs).getD ((0 : Int32).toNatClampNeg + i) (Value.int (0 : Int32))) ++ ((List.replicate 308 (Value.int (0 : Int32)))).drop ((0 : Int32).toNatClampNeg + (308 : Int32).toNatClampNeg)) = (own_cp vs 308) from (own_cat _ _ 308).trans (by rw [List.drop_replicate]; first | rfl | simp [own_cp])] at q
      exact q
  refine own_Go.by (fun tq kq => XS.aloadN X8.here hx rfl (hb hby d9_31) rfl rfl kq) ?_
  show own_Go _ _ _ _ (T8.setTop (mkF m 32 #[sR a1, sI (308 : Int32), sR ob2] [(Value.ref ob2)]))
  have c10 := (Ea2.keep K8q)
  obtain ⟨fs, hr, hrun, hended, hW, hsame⟩ := X8.leave (v := some (Value.ref ob2)) (fun h => by rw [Bd.returns] at h; cases h)
  refine own_Go.fin (retOut X8 hx Bd.returns rfl (Or.inr (Or.inr (Or.inr (Or.inr ⟨rfl, rfl, rfl⟩)))) (hb hby d9_32) hr) ⟨hrun, hended, _, _, rfl, ?_, ⟨_, rfl⟩, hW, hsame.mono (by decide) (by decide)⟩
  show Q9_512_308 Z a1 kB vs h0 n0 _ T8.heap _
  rw [e8]
  exact ⟨ob2, k2, rfl, N8, K9, z4, c10, V8'⟩

theorem own_ef_9_512_309 (m : MethodId) (a1 : Addr) : entryFrame m #[(Value.ref a1), (Value.int (309 : Int32))] 3 = mkF m 0 #[sR a1, sI (309 : Int32), .unset] [] := by first | (simp [entryFrame, mkF, argsToLocals, Value.category]; done) | rfl
def Q9_512_309 (Z : State) (a1 : Addr) (kB : ClassId) (vs : List Value) (h0 : Heap) (n0 : Nat) (v : Option Value) (h : Heap) (L : List Loc) : Prop := ∃ (b : Addr), ∃ (k2 : ClassId), v = some (Value.ref b) ∧ Fr n0 L ∧ Keep h0 h [] ∧ (h0.size ≤ b) ∧ (Exa Z h b "[B") ∧ (Arv Z h b k2 .byte (309 : Int32) (own_cp vs 309) (Value.int (0 : Int32)))
set_option maxRecDepth 65536 in
set_option maxHeartbeats 40000000 in
theorem rm9_512_309 (l : Launch) (Z : State) (a0 : Array Value) (hw : ∀ d ∈ tables_1, d.before a0 Z = true) (ws : List Jvm.Cond) (a1 : Addr) (kB : ClassId) (vs : List Value) (h0 : Heap) (n0 : Nat) (O0 : Old Z n0 h0) (H0 : Arv Z h0 a1 kB .byte (512 : Int32) vs (Value.int (0 : Int32))) :
    MetFree l (⟨"java/util/Arrays", "copyOf", "([BI)[B"⟩ : MethodName) (head1 (Jvm.Cond.code (⟨"java/util/Arrays", "copyOf", "([BI)[B"⟩ : MethodName) jdk_65_method_121_code 3 (some (.array .byte)) :: ws) ({ frames := 1, cells := 1, slots := 309, locals := 18 } : Room)) (fun a U => a = #[(Value.ref a1), (Value.int (309 : Int32))] ∧ Z.Warmed39 U.vm ∧ U.heap = h0) (fun _ _ _ _ _ => True) (fun _ U o U' => ∃ v L, o = .returned v ∧ Q9_512_309 Z a1 kB vs h0 n0 v U'.heap L ∧ FrameEnd U o U' L ({ frames := 1, cells := 1, slots := 309, locals := 18 } : Room).cells ({ frames := 1, cells := 1, slots := 309, locals := 18 } : Room).slots) := by
  refine MetFree.of_bodySF (plainFor_of_name own_pn_java_util_Arrays) hisR ?_
  intro p e s m args below meth c s₁ Bd hml0 hP hK
  obtain ⟨rfl, hZ, hh⟩ := hP
  have hx := Bd.exec
  have hby := Bd.bytes
  have hml : c.maxLocals = 3 := hml0
  have hown : s.vm.findClass "java/util/Arrays" = some m.cls := findClass_of_methodNamed Bd.named
  have hnm := (name_of_methodNamed Bd.named Bd.method).1
  have X0 : Stand p l e ({ frames := 1, cells := 1, slots := 309, locals := 18 } : Room) s m #[(Value.ref a1), (Value.int (309 : Int32))] below meth c s₁ [] 0 0 := Stand.of_body Bd
  have e0 : s₁.heap = h0 := by rw [← hh, Bd.state]; rfl
  have N0 := Fr.nil n0
  have K0 : Keep h0 h0 [] := Keep.refl h0 []
  show own_Go _ _ _ _ (s₁.setTop (entryFrame m #[(Value.ref a1), (Value.int (309 : Int32))] 3))
  refine own_Go.by (fun tq kq => castTop (own_ef_9_512_309 m a1) kq) ?_
  show own_Go _ _ _ _ (s₁.setTop (mkF m 0 #[sR a1, sI (309 : Int32), .unset] []))
  refine own_Go.by (fun tq kq => XS.iloadN X0.here hx rfl (hb hby d9_0) rfl kq) ?_
  refine own_Go.by (fun tq kq => XS.aloadN X0.here hx rfl (hb hby d9_1) rfl rfl kq) ?_
  show own_Go _ _ _ _ (s₁.setTop (mkF m 2 #[sR a1, sI (309 : Int32), .unset] [(Value.ref a1), (Value.int (309 : Int32))]))
  obtain ⟨cl1, Ar1, q1, S1, M1, Hh1, G1⟩ := id H0
  refine own_Go.by (fun tq kq => X0.arraylength hx (by rw [e0]; exact Ar1.1) (State.isArrayOf_alike hZ.alike Ar1.2.1) (g := (mkF m 2 #[sR a1, sI (309 : Int32), .unset] [(Value.ref a1), (Value.int (309 : Int32))])) rfl rfl (hb hby d9_2) _ kq) ?_
  rw [len_of S1 M1]
  show own_Go _ _ _ _ (s₁.setTop (mkF m 3 #[sR a1, sI (309 : Int32), .unset] [(Value.int (512 : Int32)), (Value.int (309 : Int32))]))
  refine own_Go.by (fun tq kq => XS.icmpYes X0.here hx rfl (pc0 := 3) (pc' := 14) rfl (hb hby d9_3) rfl (feq (by decide : ¬ ((309 : Int32) = (512 : Int32)))).2 (by decide) (by decide) kq) ?_
  refine own_Go.by (fun tq kq => XS.iloadN X0.here hx rfl (hb hby d9_14) rfl kq) ?_
  show own_Go _ _ _ _ (s₁.setTop (mkF m 15 #[sR a1, sI (309 : Int32), .unset] [(Value.int (309 : Int32))]))
  obtain ⟨T2, h2, k2, X2, e2, E2, A2, Ea2, st2⟩ := newPE X0 hx hZ (hw _ (List.mem_of_getElem? (i := 5) rfl)) e0 (g := (mkF m 15 #[sR a1, sI (309 : Int32), .unset] [(Value.int (309 : Int32))])) rfl (hb hby d9_15) rfl (by decide : ¬ ((309 : Int32) < (0 : Int32))) (cap := 309) (by decide : (309 : Int32).toNatClampNeg ≤ 309) (by decide) (by decide) (by decide) (ad := "[B") rfl
  obtain ⟨ob2, y2⟩ : ∃ z, z = h0.size := ⟨_, rfl⟩
  rw [← y2] at A2 Ea2 st2
  refine own_Go.by st2 ?_
  have O3 := O0.ext E2
  have K3 := K0.ext E2
  have g4 : n0 ≤ ob2 := Nat.le_trans (own_old_le O0) (Nat.le_of_eq y2.symm)
  have z4 : h0.size ≤ ob2 := Nat.le_trans K0.1 (Nat.le_of_eq y2.symm)
  have V2 : Arv Z h2 ob2 k2 .byte (309 : Int32) (List.replicate 309 (Value.int (0 : Int32))) (Value.int (0 : Int32)) := (Arv.new A2 (by decide : ¬ ((309 : Int32) < (0 : Int32)))).pad (pad_rep [] (Value.int (0 : Int32)) 309)
  refine own_Go.by (fun tq kq => XS.astoreN X2.here hx rfl (hb hby d9_17) rfl rfl (l' := #[sR a1, sI (309 : Int32), sR ob2]) rfl kq) ?_
  refine own_Go.by (fun tq kq => XS.aloadN X2.here hx rfl (hb hby d9_18) rfl rfl kq) ?_
  refine own_Go.by (fun tq kq => XS.iconst X2.here hx rfl (hb hby d9_19) kq) ?_
  show own_Go _ _ _ _ (T2.setTop (mkF m 20 #[sR a1, sI (309 : Int32), sR ob2] [(Value.int (0 : Int32)), (Value.ref a1)]))
  refine own_Go.by (fun tq kq => XS.aloadN X2.here hx rfl (hb hby d9_20) rfl rfl kq) ?_
  refine own_Go.by (fun tq kq => XS.iconst X2.here hx rfl (hb hby d9_21) kq) ?_
  refine own_Go.by (fun tq kq => XS.aloadN X2.here hx rfl (hb hby d9_22) rfl rfl kq) ?_
  show own_Go _ _ _ _ (T2.setTop (mkF m 23 #[sR a1, sI (309 : Int32), sR ob2] [(Value.ref a1), (Value.int (0 : Int32)), (Value.ref ob2), (Value.int (0 : Int32)), (Value.ref a1)]))
  have c5 := (H0.ext E2)
  obtain ⟨cl6, Ar6, q6, S6, M6, Hh6, G6⟩ := id c5
  refine own_Go.by (fun tq kq => X2.arraylength hx (by rw [e2]; exact Ar6.1) (State.isArrayOf_alike hZ.alike Ar6.2.1) (g := (mkF m 23 #[sR a1, sI (309 : Int32), sR ob2] [(Value.ref a1), (Value.int (0 : Int32)), (Value.ref ob2), (Value.int (0 : Int32)), (Value.ref a1)])) rfl rfl (hb hby d9_23) _ kq) ?_
  rw [len_of S6 M6]
  refine own_Go.by (fun tq kq => XS.iloadN X2.here hx rfl (hb hby d9_24) rfl kq) ?_
  show own_Go _ _ _ _ (T2.setTop (mkF m 25 #[sR a1, sI (309 : Int32), sR ob2] [(Value.int (309 : Int32)), (Value.int (512 : Int32)), (Value.int (0 : Int32)), (Value.ref ob2), (Value.int (0 : Int32)), (Value.ref a1)]))
  obtain ⟨_, _, ⟨T7, L7, k7, n7⟩, -, X7, ⟨Lc7, hQ7, l7, y7, z7⟩, st7⟩ := Jvm.LawKit.callS X2 hx (y := (⟨"java/lang/Math", "min", "(II)I"⟩ : MethodName)) hown (mvT hZ (hw _ (List.mem_of_getElem? (i := 64) rfl))) (mvT hZ (hw _ (List.mem_of_getElem? (i := 65) rfl))) (mvT hZ (hw _ (List.mem_of_getElem? (i := 66) rfl))) (mvT hZ (hw _ (List.mem_of_getElem? (i := 67) rfl))) (by decide) (backOf (W := 4) (rm10 l Z a0 hw [] (512 : Int32) (309 : Int32) h2 n0 O3 ) hZ (hw _ (List.mem_of_getElem? (i := 67) rfl)) (hw _ (List.mem_of_getElem? (i := 66) rfl)) (by decide) (by decide)) (g := (mkF m 25 #[sR a1, sI (309 : Int32), sR ob2] [(Value.int (309 : Int32)), (Value.int (512 : Int32)), (Value.int (0 : Int32)), (Value.ref ob2), (Value.int (0 : Int32)), (Value.ref a1)])) rfl (by rw [hml]; rfl) (argsL := [(Value.int (512 : Int32)), (Value.int (309 : Int32))]) (rest := [(Value.int (0 : Int32)), (Value.ref ob2), (Value.int (0 : Int32)), (Value.ref a1)]) (lenOf own_pd2 rfl) rfl (by show 2 * 0 + _ ≤ _; exact Nat.le_of_eq rfl) (hb hby d9_25) (fun _ _ => ⟨rfl, e2, (by decide : 1 + 0 ≤ _), (by decide : 309 + 0 ≤ _)⟩)
  dsimp only [Pt.U, Pt.locs, Pt.cells, Pt.slots] at X7 l7 y7 z7 st7 hQ7
  subst l7 y7 z7
  refine own_Go.by st7 ?_
  obtain ⟨rfl, N7q, e7⟩ := hQ7
  have N7 := Fr.app N0 N7q
  show own_Go _ _ _ _ (T7.setTop (mkF m 28 #[sR a1, sI (309 : Int32), sR ob2] [(Value.int (309 : Int32)), (Value.int (0 : Int32)), (Value.ref ob2), (Value.int (0 : Int32)), (Value.ref a1)]))
  obtain ⟨T8, h8, Lc8, X8, e8, N8, K8q, V8, st8⟩ := cpA X7 hx hZ hown (hw _ (List.mem_of_getElem? (i := 68) rfl)) (hw _ (List.mem_of_getElem? (i := 71) rfl)) (hw _ (List.mem_of_getElem? (i := 69) rfl)) (hw _ (List.mem_of_getElem? (i := 70) rfl)) e7 c5 V2 (us := ((List.range (309 : Int32).toNatClampNeg).map fun i => (vs).getD ((0 : Int32).toNatClampNeg + i) (Value.int (0 : Int32)))) (Or.inl ⟨rfl, rfl⟩) (by decide : ¬ ((0 : Int32) < (0 : Int32))) (by decide : ¬ ((0 : Int32) < (0 : Int32))) (by decide : ¬ ((309 : Int32) < (0 : Int32))) (by decide : (0 : Int32).toNatClampNeg + (309 : Int32).toNatClampNeg ≤ (512 : Int32).toNatClampNeg) (by decide : (0 : Int32).toNatClampNeg + (309 : Int32).toNatClampNeg ≤ (309 : Int32).toNatClampNeg) rfl (by rw [List.length_replicate]; decide) N7 g4 (g := (mkF m 28 #[sR a1, sI (309 : Int32), sR ob2] [(Value.int (309 : Int32)), (Value.int (0 : Int32)), (Value.ref ob2), (Value.int (0 : Int32)), (Value.ref a1)])) rfl (by rw [hml]; rfl) rfl (hb hby d9_28) (by decide) (W := 0) (by show 2 * 0 + _ ≤ _; exact Nat.le_of_eq rfl) (by decide)
  refine own_Go.by st8 ?_
  have O9 := O3.keep K8q (allS g4 all0)
  have K9 := K3.trans K8q (allS (Or.inr z4) all0)
  have V8' : Arv Z h8 ob2 k2 .byte (309 : Int32) (own_cp vs 309) (Value.int (0 : Int32)) := by
      have q : Arv Z h8 ob2 k2 .byte (309 : Int32) (((List.replicate 309 (Value.int (0 : Int32)))).take (0 : Int32).toNatClampNeg ++ ((List.range (309 : Int32).toNatClampNeg).map fun i => (vs).getD ((0 : Int32).toNatClampNeg + i) (Value.int (0 : Int32))) ++ ((List.replicate 309 (Value.int (0 : Int32)))).drop ((0 : Int32).toNatClampNeg + (309 : Int32).toNatClampNeg)) (Value.int (0 : Int32)) := V8
      rw [show (((List.replicate 309 (Value.int (0 : Int32)))).take (0 : Int32).toNatClampNeg ++ ((List.range (309 : Int32).toNatClampNeg).map fun i => (vs).getD ((0 : Int32).toNatClampNeg + i) (Value.int (0 : Int32))) ++ ((List.replicate 309 (Value.int (0 : Int32)))).drop ((0 : Int32).toNatClampNeg + (309 : Int32).toNatClampNeg)) = (own_cp vs 309) from (own_cat _ _ 309).trans (by rw [List.drop_replicate]; first | rfl | simp [own_cp])] at q
      exact q
  refine own_Go.by (fun tq kq => XS.aloadN X8.here hx rfl (hb hby d9_31) rfl rfl kq) ?_
  show own_Go _ _ _ _ (T8.setTop (mkF m 32 #[sR a1, sI (309 : Int32), sR ob2] [(Value.ref ob2)]))
  have c10 := (Ea2.keep K8q)
  obtain ⟨fs, hr, hrun, hended, hW, hsame⟩ := X8.leave (v := some (Value.ref ob2)) (fun h => by rw [Bd.returns] at h; cases h)
  refine own_Go.fin (retOut X8 hx Bd.returns rfl (Or.inr (Or.inr (Or.inr (Or.inr ⟨rfl, rfl, rfl⟩)))) (hb hby d9_32) hr) ⟨hrun, hended, _, _, rfl, ?_, ⟨_, rfl⟩, hW, hsame.mono (by decide) (by decide)⟩
  show Q9_512_309 Z a1 kB vs h0 n0 _ T8.heap _
  rw [e8]
  exact ⟨ob2, k2, rfl, N8, K9, z4, c10, V8'⟩

theorem own_pd3 : parseMethodDescriptor "([BI)[B" = some ⟨[(.array .byte), .int], some (.array .byte)⟩ := by decide +kernel
theorem d8_0 : decode prog_10_method_8_code 0 = .ok (.aload_n 0, 1) := by decide +kernel
theorem d8_1 : decode prog_10_method_8_code 1 = .ok (.getfield 9, 3) := by decide +kernel
theorem d8_4 : decode prog_10_method_8_code 4 = .ok (.aload_n 0, 1) := by decide +kernel
theorem d8_5 : decode prog_10_method_8_code 5 = .ok (.getfield 79, 3) := by decide +kernel
theorem d8_8 : decode prog_10_method_8_code 8 = .ok (.invokestatic 91, 3) := by decide +kernel
theorem d8_11 : decode prog_10_method_8_code 11 = .ok (.areturn, 1) := by decide +kernel
theorem own_ef_8_256_6 (m : MethodId) (a1 : Addr) : entryFrame m #[(Value.ref a1)] 1 = mkF m 0 #[sR a1] [] := by first | (simp [entryFrame, mkF, argsToLocals, Value.category]; done) | rfl
def Q8_256_6 (Z : State) (a1 : Addr) (aB : Addr) (kB : ClassId) (vs : List Value) (h0 : Heap) (n0 : Nat) (v : Option Value) (h : Heap) (L : List Loc) : Prop := ∃ (b : Addr), ∃ (k2 : ClassId), v = some (Value.ref b) ∧ Fr n0 L ∧ Keep h0 h [] ∧ (h0.size ≤ b) ∧ (Arv Z h b k2 .byte (6 : Int32) (own_cp vs 6) (Value.int (0 : Int32)))
set_option maxRecDepth 65536 in
set_option maxHeartbeats 40000000 in
theorem rm8_256_6 (l : Launch) (Z : State) (a0 : Array Value) (hw : ∀ d ∈ tables_1, d.before a0 Z = true) (ws : List Jvm.Cond) (a1 : Addr) (aB : Addr) (kB : ClassId) (vs : List Value) (h0 : Heap) (n0 : Nat) (O0 : Old Z n0 h0) (H0 : Exa Z h0 a1 "com/example/ebbtide/ebbtide/core/Encoder") (H1 : Fld Z h0 a1 "com/example/ebbtide/ebbtide/core/Encoder" "bytes" "[B" (Value.ref aB)) (H2 : Fld Z h0 a1 "com/example/ebbtide/ebbtide/core/Encoder" "length" "I" (Value.int (6 : Int32))) (H3 : Arv Z h0 aB kB .byte (256 : Int32) vs (Value.int (0 : Int32))) :
    MetFree l (⟨"com/example/ebbtide/ebbtide/core/Encoder", "toByteArray", "()[B"⟩ : MethodName) (head1 (Jvm.Cond.code (⟨"com/example/ebbtide/ebbtide/core/Encoder", "toByteArray", "()[B"⟩ : MethodName) prog_10_method_8_code 1 (some (.array .byte)) :: ws) ({ frames := 2, cells := 1, slots := 6, locals := 32 } : Room)) (fun a U => a = #[(Value.ref a1)] ∧ Z.Warmed39 U.vm ∧ U.heap = h0) (fun _ _ _ _ _ => True) (fun _ U o U' => ∃ v L, o = .returned v ∧ Q8_256_6 Z a1 aB kB vs h0 n0 v U'.heap L ∧ FrameEnd U o U' L ({ frames := 2, cells := 1, slots := 6, locals := 32 } : Room).cells ({ frames := 2, cells := 1, slots := 6, locals := 32 } : Room).slots) := by
  refine MetFree.of_bodySF (plainFor_of_name own_pn_com_example_ebbtide_ebbtide_core_Encoder) hisR ?_
  intro p e s m args below meth c s₁ Bd hml0 hP hK
  obtain ⟨rfl, hZ, hh⟩ := hP
  have hx := Bd.exec
  have hby := Bd.bytes
  have hml : c.maxLocals = 1 := hml0
  have hown : s.vm.findClass "com/example/ebbtide/ebbtide/core/Encoder" = some m.cls := findClass_of_methodNamed Bd.named
  have hnm := (name_of_methodNamed Bd.named Bd.method).1
  have X0 : Stand p l e ({ frames := 2, cells := 1, slots := 6, locals := 32 } : Room) s m #[(Value.ref a1)] below meth c s₁ [] 0 0 := Stand.of_body Bd
  have e0 : s₁.heap = h0 := by rw [← hh, Bd.state]; rfl
  have N0 := Fr.nil n0
  have K0 : Keep h0 h0 [] := Keep.refl h0 []
  show own_Go _ _ _ _ (s₁.setTop (entryFrame m #[(Value.ref a1)] 1))
  refine own_Go.by (fun tq kq => castTop (own_ef_8_256_6 m a1) kq) ?_
  show own_Go _ _ _ _ (s₁.setTop (mkF m 0 #[sR a1] []))
  refine own_Go.by (fun tq kq => XS.aloadN X0.here hx rfl (hb hby d8_0) rfl rfl kq) ?_
  show own_Go _ _ _ _ (s₁.setTop (mkF m 1 #[sR a1] [(Value.ref a1)]))
  obtain ⟨T1, X1, e1, st1⟩ := getF X0 hx hZ hown (host := "") (Or.inl (hw _ (List.mem_of_getElem? (i := 15) rfl))) Via.refl e0 H1 (g := (mkF m 1 #[sR a1] [(Value.ref a1)])) rfl rfl (hb hby d8_1)
  refine own_Go.by st1 ?_
  refine own_Go.by (fun tq kq => XS.aloadN X1.here hx rfl (hb hby d8_4) rfl rfl kq) ?_
  show own_Go _ _ _ _ (T1.setTop (mkF m 5 #[sR a1] [(Value.ref a1), (Value.ref aB)]))
  obtain ⟨T2, X2, e2, st2⟩ := getF X1 hx hZ hown (host := "") (Or.inl (hw _ (List.mem_of_getElem? (i := 38) rfl))) Via.refl e1 H2 (g := (mkF m 5 #[sR a1] [(Value.ref a1), (Value.ref aB)])) rfl rfl (hb hby d8_5)
  refine own_Go.by st2 ?_
  show own_Go _ _ _ _ (T2.setTop (mkF m 8 #[sR a1] [(Value.int (6 : Int32)), (Value.ref aB)]))
  obtain ⟨_, _, ⟨T3, L3, k3, n3⟩, -, X3, ⟨Lc3, hQ3, l3, y3, z3⟩, st3⟩ := Jvm.LawKit.callS X2 hx (y := (⟨"java/util/Arrays", "copyOf", "([BI)[B"⟩ : MethodName)) hown (mvT hZ (hw _ (List.mem_of_getElem? (i := 60) rfl))) (mvT hZ (hw _ (List.mem_of_getElem? (i := 61) rfl))) (mvT hZ (hw _ (List.mem_of_getElem? (i := 62) rfl))) (mvT hZ (hw _ (List.mem_of_getElem? (i := 63) rfl))) (by decide) (backOf (W := 0) (rm9_256_6 l Z a0 hw [] aB kB vs h0 n0 O0 H3) hZ (hw _ (List.mem_of_getElem? (i := 63) rfl)) (hw _ (List.mem_of_getElem? (i := 62) rfl)) (by decide) (by decide)) (g := (mkF m 8 #[sR a1] [(Value.int (6 : Int32)), (Value.ref aB)])) rfl (by rw [hml]; rfl) (argsL := [(Value.ref aB), (Value.int (6 : Int32))]) (rest := []) (lenOf own_pd3 rfl) rfl (by show 2 * 0 + _ ≤ _; exact Nat.le_of_eq rfl) (hb hby d8_8) (fun _ _ => ⟨rfl, e2, (by decide : 0 + 1 ≤ _), (by decide : 0 + 6 ≤ _)⟩)
  dsimp only [Pt.U, Pt.locs, Pt.cells, Pt.slots] at X3 l3 y3 z3 st3 hQ3
  subst l3 y3 z3
  refine own_Go.by st3 ?_
  obtain ⟨b_3, k2_3, rfl, N3q, K3q, p3_0, p3_1, p3_2⟩ := hQ3
  have N3 := Fr.app N0 N3q
  have O4 := O0.keep K3q all0
  have K4 := K0.trans K3q all0
  have g5 : n0 ≤ b_3 := Nat.le_trans (own_old_le O0) p3_0
  have z5 : h0.size ≤ b_3 := Nat.le_trans K0.1 p3_0
  show own_Go _ _ _ _ (T3.setTop (mkF m 11 #[sR a1] [(Value.ref b_3)]))
  obtain ⟨fs, hr, hrun, hended, hW, hsame⟩ := X3.leave (v := some (Value.ref b_3)) (fun h => by rw [Bd.returns] at h; cases h)
  refine own_Go.fin (retOut X3 hx Bd.returns rfl (Or.inr (Or.inr (Or.inr (Or.inr ⟨rfl, rfl, rfl⟩)))) (hb hby d8_11) hr) ⟨hrun, hended, _, _, rfl, ?_, ⟨_, rfl⟩, hW, hsame.mono (by decide) (by decide)⟩
  show Q8_256_6 Z a1 aB kB vs h0 n0 _ T3.heap _
  exact ⟨b_3, k2_3, rfl, N3, K4, z5, p3_2⟩

theorem own_ef_8_256_7 (m : MethodId) (a1 : Addr) : entryFrame m #[(Value.ref a1)] 1 = mkF m 0 #[sR a1] [] := by first | (simp [entryFrame, mkF, argsToLocals, Value.category]; done) | rfl
def Q8_256_7 (Z : State) (a1 : Addr) (aB : Addr) (kB : ClassId) (vs : List Value) (h0 : Heap) (n0 : Nat) (v : Option Value) (h : Heap) (L : List Loc) : Prop := ∃ (b : Addr), ∃ (k2 : ClassId), v = some (Value.ref b) ∧ Fr n0 L ∧ Keep h0 h [] ∧ (h0.size ≤ b) ∧ (Arv Z h b k2 .byte (7 : Int32) (own_cp vs 7) (Value.int (0 : Int32)))
set_option maxRecDepth 65536 in
set_option maxHeartbeats 40000000 in
theorem rm8_256_7 (l : Launch) (Z : State) (a0 : Array Value) (hw : ∀ d ∈ tables_1, d.before a0 Z = true) (ws : List Jvm.Cond) (a1 : Addr) (aB : Addr) (kB : ClassId) (vs : List Value) (h0 : Heap) (n0 : Nat) (O0 : Old Z n0 h0) (H0 : Exa Z h0 a1 "com/example/ebbtide/ebbtide/core/Encoder") (H1 : Fld Z h0 a1 "com/example/ebbtide/ebbtide/core/Encoder" "bytes" "[B" (Value.ref aB)) (H2 : Fld Z h0 a1 "com/example/ebbtide/ebbtide/core/Encoder" "length" "I" (Value.int (7 : Int32))) (H3 : Arv Z h0 aB kB .byte (256 : Int32) vs (Value.int (0 : Int32))) :
    MetFree l (⟨"com/example/ebbtide/ebbtide/core/Encoder", "toByteArray", "()[B"⟩ : MethodName) (head1 (Jvm.Cond.code (⟨"com/example/ebbtide/ebbtide/core/Encoder", "toByteArray", "()[B"⟩ : MethodName) prog_10_method_8_code 1 (some (.array .byte)) :: ws) ({ frames := 2, cells := 1, slots := 7, locals := 32 } : Room)) (fun a U => a = #[(Value.ref a1)] ∧ Z.Warmed39 U.vm ∧ U.heap = h0) (fun _ _ _ _ _ => True) (fun _ U o U' => ∃ v L, o = .returned v ∧ Q8_256_7 Z a1 aB kB vs h0 n0 v U'.heap L ∧ FrameEnd U o U' L ({ frames := 2, cells := 1, slots := 7, locals := 32 } : Room).cells ({ frames := 2, cells := 1, slots := 7, locals := 32 } : Room).slots) := by
  refine MetFree.of_bodySF (plainFor_of_name own_pn_com_example_ebbtide_ebbtide_core_Encoder) hisR ?_
  intro p e s m args below meth c s₁ Bd hml0 hP hK
  obtain ⟨rfl, hZ, hh⟩ := hP
  have hx := Bd.exec
  have hby := Bd.bytes
  have hml : c.maxLocals = 1 := hml0
  have hown : s.vm.findClass "com/example/ebbtide/ebbtide/core/Encoder" = some m.cls := findClass_of_methodNamed Bd.named
  have hnm := (name_of_methodNamed Bd.named Bd.method).1
  have X0 : Stand p l e ({ frames := 2, cells := 1, slots := 7, locals := 32 } : Room) s m #[(Value.ref a1)] below meth c s₁ [] 0 0 := Stand.of_body Bd
  have e0 : s₁.heap = h0 := by rw [← hh, Bd.state]; rfl
  have N0 := Fr.nil n0
  have K0 : Keep h0 h0 [] := Keep.refl h0 []
  show own_Go _ _ _ _ (s₁.setTop (entryFrame m #[(Value.ref a1)] 1))
  refine own_Go.by (fun tq kq => castTop (own_ef_8_256_7 m a1) kq) ?_
  show own_Go _ _ _ _ (s₁.setTop (mkF m 0 #[sR a1] []))
  refine own_Go.by (fun tq kq => XS.aloadN X0.here hx rfl (hb hby d8_0) rfl rfl kq) ?_
  show own_Go _ _ _ _ (s₁.setTop (mkF m 1 #[sR a1] [(Value.ref a1)]))
  obtain ⟨T1, X1, e1, st1⟩ := getF X0 hx hZ hown (host := "") (Or.inl (hw _ (List.mem_of_getElem? (i := 15) rfl))) Via.refl e0 H1 (g := (mkF m 1 #[sR a1] [(Value.ref a1)])) rfl rfl (hb hby d8_1)
  refine own_Go.by st1 ?_
  refine own_Go.by (fun tq kq => XS.aloadN X1.here hx rfl (hb hby d8_4) rfl rfl kq) ?_
  show own_Go _ _ _ _ (T1.setTop (mkF m 5 #[sR a1] [(Value.ref a1), (Value.ref aB)]))
  obtain ⟨T2, X2, e2, st2⟩ := getF X1 hx hZ hown (host := "") (Or.inl (hw _ (List.mem_of_getElem? (i := 38) rfl))) Via.refl e1 H2 (g := (mkF m 5 #[sR a1] [(Value.ref a1), (Value.ref aB)])) rfl rfl (hb hby d8_5)
  refine own_Go.by st2 ?_
  show own_Go _ _ _ _ (T2.setTop (mkF m 8 #[sR a1] [(Value.int (7 : Int32)), (Value.ref aB)]))
  obtain ⟨_, _, ⟨T3, L3, k3, n3⟩, -, X3, ⟨Lc3, hQ3, l3, y3, z3⟩, st3⟩ := Jvm.LawKit.callS X2 hx (y := (⟨"java/util/Arrays", "copyOf", "([BI)[B"⟩ : MethodName)) hown (mvT hZ (hw _ (List.mem_of_getElem? (i := 60) rfl))) (mvT hZ (hw _ (List.mem_of_getElem? (i := 61) rfl))) (mvT hZ (hw _ (List.mem_of_getElem? (i := 62) rfl))) (mvT hZ (hw _ (List.mem_of_getElem? (i := 63) rfl))) (by decide) (backOf (W := 0) (rm9_256_7 l Z a0 hw [] aB kB vs h0 n0 O0 H3) hZ (hw _ (List.mem_of_getElem? (i := 63) rfl)) (hw _ (List.mem_of_getElem? (i := 62) rfl)) (by decide) (by decide)) (g := (mkF m 8 #[sR a1] [(Value.int (7 : Int32)), (Value.ref aB)])) rfl (by rw [hml]; rfl) (argsL := [(Value.ref aB), (Value.int (7 : Int32))]) (rest := []) (lenOf own_pd3 rfl) rfl (by show 2 * 0 + _ ≤ _; exact Nat.le_of_eq rfl) (hb hby d8_8) (fun _ _ => ⟨rfl, e2, (by decide : 0 + 1 ≤ _), (by decide : 0 + 7 ≤ _)⟩)
  dsimp only [Pt.U, Pt.locs, Pt.cells, Pt.slots] at X3 l3 y3 z3 st3 hQ3
  subst l3 y3 z3
  refine own_Go.by st3 ?_
  obtain ⟨b_3, k2_3, rfl, N3q, K3q, p3_0, p3_1, p3_2⟩ := hQ3
  have N3 := Fr.app N0 N3q
  have O4 := O0.keep K3q all0
  have K4 := K0.trans K3q all0
  have g5 : n0 ≤ b_3 := Nat.le_trans (own_old_le O0) p3_0
  have z5 : h0.size ≤ b_3 := Nat.le_trans K0.1 p3_0
  show own_Go _ _ _ _ (T3.setTop (mkF m 11 #[sR a1] [(Value.ref b_3)]))
  obtain ⟨fs, hr, hrun, hended, hW, hsame⟩ := X3.leave (v := some (Value.ref b_3)) (fun h => by rw [Bd.returns] at h; cases h)
  refine own_Go.fin (retOut X3 hx Bd.returns rfl (Or.inr (Or.inr (Or.inr (Or.inr ⟨rfl, rfl, rfl⟩)))) (hb hby d8_11) hr) ⟨hrun, hended, _, _, rfl, ?_, ⟨_, rfl⟩, hW, hsame.mono (by decide) (by decide)⟩
  show Q8_256_7 Z a1 aB kB vs h0 n0 _ T3.heap _
  exact ⟨b_3, k2_3, rfl, N3, K4, z5, p3_2⟩

theorem own_ef_8_256_8 (m : MethodId) (a1 : Addr) : entryFrame m #[(Value.ref a1)] 1 = mkF m 0 #[sR a1] [] := by first | (simp [entryFrame, mkF, argsToLocals, Value.category]; done) | rfl
def Q8_256_8 (Z : State) (a1 : Addr) (aB : Addr) (kB : ClassId) (vs : List Value) (h0 : Heap) (n0 : Nat) (v : Option Value) (h : Heap) (L : List Loc) : Prop := ∃ (b : Addr), ∃ (k2 : ClassId), v = some (Value.ref b) ∧ Fr n0 L ∧ Keep h0 h [] ∧ (h0.size ≤ b) ∧ (Arv Z h b k2 .byte (8 : Int32) (own_cp vs 8) (Value.int (0 : Int32)))
set_option maxRecDepth 65536 in
set_option maxHeartbeats 40000000 in
theorem rm8_256_8 (l : Launch) (Z : State) (a0 : Array Value) (hw : ∀ d ∈ tables_1, d.before a0 Z = true) (ws : List Jvm.Cond) (a1 : Addr) (aB : Addr) (kB : ClassId) (vs : List Value) (h0 : Heap) (n0 : Nat) (O0 : Old Z n0 h0) (H0 : Exa Z h0 a1 "com/example/ebbtide/ebbtide/core/Encoder") (H1 : Fld Z h0 a1 "com/example/ebbtide/ebbtide/core/Encoder" "bytes" "[B" (Value.ref aB)) (H2 : Fld Z h0 a1 "com/example/ebbtide/ebbtide/core/Encoder" "length" "I" (Value.int (8 : Int32))) (H3 : Arv Z h0 aB kB .byte (256 : Int32) vs (Value.int (0 : Int32))) :
    MetFree l (⟨"com/example/ebbtide/ebbtide/core/Encoder", "toByteArray", "()[B"⟩ : MethodName) (head1 (Jvm.Cond.code (⟨"com/example/ebbtide/ebbtide/core/Encoder", "toByteArray", "()[B"⟩ : MethodName) prog_10_method_8_code 1 (some (.array .byte)) :: ws) ({ frames := 2, cells := 1, slots := 8, locals := 32 } : Room)) (fun a U => a = #[(Value.ref a1)] ∧ Z.Warmed39 U.vm ∧ U.heap = h0) (fun _ _ _ _ _ => True) (fun _ U o U' => ∃ v L, o = .returned v ∧ Q8_256_8 Z a1 aB kB vs h0 n0 v U'.heap L ∧ FrameEnd U o U' L ({ frames := 2, cells := 1, slots := 8, locals := 32 } : Room).cells ({ frames := 2, cells := 1, slots := 8, locals := 32 } : Room).slots) := by
  refine MetFree.of_bodySF (plainFor_of_name own_pn_com_example_ebbtide_ebbtide_core_Encoder) hisR ?_
  intro p e s m args below meth c s₁ Bd hml0 hP hK
  obtain ⟨rfl, hZ, hh⟩ := hP
  have hx := Bd.exec
  have hby := Bd.bytes
  have hml : c.maxLocals = 1 := hml0
  have hown : s.vm.findClass "com/example/ebbtide/ebbtide/core/Encoder" = some m.cls := findClass_of_methodNamed Bd.named
  have hnm := (name_of_methodNamed Bd.named Bd.method).1
  have X0 : Stand p l e ({ frames := 2, cells := 1, slots := 8, locals := 32 } : Room) s m #[(Value.ref a1)] below meth c s₁ [] 0 0 := Stand.of_body Bd
  have e0 : s₁.heap = h0 := by rw [← hh, Bd.state]; rfl
  have N0 := Fr.nil n0
  have K0 : Keep h0 h0 [] := Keep.refl h0 []
  show own_Go _ _ _ _ (s₁.setTop (entryFrame m #[(Value.ref a1)] 1))
  refine own_Go.by (fun tq kq => castTop (own_ef_8_256_8 m a1) kq) ?_
  show own_Go _ _ _ _ (s₁.setTop (mkF m 0 #[sR a1] []))
  refine own_Go.by (fun tq kq => XS.aloadN X0.here hx rfl (hb hby d8_0) rfl rfl kq) ?_
  show own_Go _ _ _ _ (s₁.setTop (mkF m 1 #[sR a1] [(Value.ref a1)]))
  obtain ⟨T1, X1, e1, st1⟩ := getF X0 hx hZ hown (host := "") (Or.inl (hw _ (List.mem_of_getElem? (i := 15) rfl))) Via.refl e0 H1 (g := (mkF m 1 #[sR a1] [(Value.ref a1)])) rfl rfl (hb hby d8_1)
  refine own_Go.by st1 ?_
  refine own_Go.by (fun tq kq => XS.aloadN X1.here hx rfl (hb hby d8_4) rfl rfl kq) ?_
  show own_Go _ _ _ _ (T1.setTop (mkF m 5 #[sR a1] [(Value.ref a1), (Value.ref aB)]))
  obtain ⟨T2, X2, e2, st2⟩ := getF X1 hx hZ hown (host := "") (Or.inl (hw _ (List.mem_of_getElem? (i := 38) rfl))) Via.refl e1 H2 (g := (mkF m 5 #[sR a1] [(Value.ref a1), (Value.ref aB)])) rfl rfl (hb hby d8_5)
  refine own_Go.by st2 ?_
  show own_Go _ _ _ _ (T2.setTop (mkF m 8 #[sR a1] [(Value.int (8 : Int32)), (Value.ref aB)]))
  obtain ⟨_, _, ⟨T3, L3, k3, n3⟩, -, X3, ⟨Lc3, hQ3, l3, y3, z3⟩, st3⟩ := Jvm.LawKit.callS X2 hx (y := (⟨"java/util/Arrays", "copyOf", "([BI)[B"⟩ : MethodName)) hown (mvT hZ (hw _ (List.mem_of_getElem? (i := 60) rfl))) (mvT hZ (hw _ (List.mem_of_getElem? (i := 61) rfl))) (mvT hZ (hw _ (List.mem_of_getElem? (i := 62) rfl))) (mvT hZ (hw _ (List.mem_of_getElem? (i := 63) rfl))) (by decide) (backOf (W := 0) (rm9_256_8 l Z a0 hw [] aB kB vs h0 n0 O0 H3) hZ (hw _ (List.mem_of_getElem? (i := 63) rfl)) (hw _ (List.mem_of_getElem? (i := 62) rfl)) (by decide) (by decide)) (g := (mkF m 8 #[sR a1] [(Value.int (8 : Int32)), (Value.ref aB)])) rfl (by rw [hml]; rfl) (argsL := [(Value.ref aB), (Value.int (8 : Int32))]) (rest := []) (lenOf own_pd3 rfl) rfl (by show 2 * 0 + _ ≤ _; exact Nat.le_of_eq rfl) (hb hby d8_8) (fun _ _ => ⟨rfl, e2, (by decide : 0 + 1 ≤ _), (by decide : 0 + 8 ≤ _)⟩)
  dsimp only [Pt.U, Pt.locs, Pt.cells, Pt.slots] at X3 l3 y3 z3 st3 hQ3
  subst l3 y3 z3
  refine own_Go.by st3 ?_
  obtain ⟨b_3, k2_3, rfl, N3q, K3q, p3_0, p3_1, p3_2⟩ := hQ3
  have N3 := Fr.app N0 N3q
  have O4 := O0.keep K3q all0
  have K4 := K0.trans K3q all0
  have g5 : n0 ≤ b_3 := Nat.le_trans (own_old_le O0) p3_0
  have z5 : h0.size ≤ b_3 := Nat.le_trans K0.1 p3_0
  show own_Go _ _ _ _ (T3.setTop (mkF m 11 #[sR a1] [(Value.ref b_3)]))
  obtain ⟨fs, hr, hrun, hended, hW, hsame⟩ := X3.leave (v := some (Value.ref b_3)) (fun h => by rw [Bd.returns] at h; cases h)
  refine own_Go.fin (retOut X3 hx Bd.returns rfl (Or.inr (Or.inr (Or.inr (Or.inr ⟨rfl, rfl, rfl⟩)))) (hb hby d8_11) hr) ⟨hrun, hended, _, _, rfl, ?_, ⟨_, rfl⟩, hW, hsame.mono (by decide) (by decide)⟩
  show Q8_256_8 Z a1 aB kB vs h0 n0 _ T3.heap _
  exact ⟨b_3, k2_3, rfl, N3, K4, z5, p3_2⟩

theorem own_ef_8_256_9 (m : MethodId) (a1 : Addr) : entryFrame m #[(Value.ref a1)] 1 = mkF m 0 #[sR a1] [] := by first | (simp [entryFrame, mkF, argsToLocals, Value.category]; done) | rfl
def Q8_256_9 (Z : State) (a1 : Addr) (aB : Addr) (kB : ClassId) (vs : List Value) (h0 : Heap) (n0 : Nat) (v : Option Value) (h : Heap) (L : List Loc) : Prop := ∃ (b : Addr), ∃ (k2 : ClassId), v = some (Value.ref b) ∧ Fr n0 L ∧ Keep h0 h [] ∧ (h0.size ≤ b) ∧ (Arv Z h b k2 .byte (9 : Int32) (own_cp vs 9) (Value.int (0 : Int32)))
set_option maxRecDepth 65536 in
set_option maxHeartbeats 40000000 in
theorem rm8_256_9 (l : Launch) (Z : State) (a0 : Array Value) (hw : ∀ d ∈ tables_1, d.before a0 Z = true) (ws : List Jvm.Cond) (a1 : Addr) (aB : Addr) (kB : ClassId) (vs : List Value) (h0 : Heap) (n0 : Nat) (O0 : Old Z n0 h0) (H0 : Exa Z h0 a1 "com/example/ebbtide/ebbtide/core/Encoder") (H1 : Fld Z h0 a1 "com/example/ebbtide/ebbtide/core/Encoder" "bytes" "[B" (Value.ref aB)) (H2 : Fld Z h0 a1 "com/example/ebbtide/ebbtide/core/Encoder" "length" "I" (Value.int (9 : Int32))) (H3 : Arv Z h0 aB kB .byte (256 : Int32) vs (Value.int (0 : Int32))) :
    MetFree l (⟨"com/example/ebbtide/ebbtide/core/Encoder", "toByteArray", "()[B"⟩ : MethodName) (head1 (Jvm.Cond.code (⟨"com/example/ebbtide/ebbtide/core/Encoder", "toByteArray", "()[B"⟩ : MethodName) prog_10_method_8_code 1 (some (.array .byte)) :: ws) ({ frames := 2, cells := 1, slots := 9, locals := 32 } : Room)) (fun a U => a = #[(Value.ref a1)] ∧ Z.Warmed39 U.vm ∧ U.heap = h0) (fun _ _ _ _ _ => True) (fun _ U o U' => ∃ v L, o = .returned v ∧ Q8_256_9 Z a1 aB kB vs h0 n0 v U'.heap L ∧ FrameEnd U o U' L ({ frames := 2, cells := 1, slots := 9, locals := 32 } : Room).cells ({ frames := 2, cells := 1, slots := 9, locals := 32 } : Room).slots) := by
  refine MetFree.of_bodySF (plainFor_of_name own_pn_com_example_ebbtide_ebbtide_core_Encoder) hisR ?_
  intro p e s m args below meth c s₁ Bd hml0 hP hK
  obtain ⟨rfl, hZ, hh⟩ := hP
  have hx := Bd.exec
  have hby := Bd.bytes
  have hml : c.maxLocals = 1 := hml0
  have hown : s.vm.findClass "com/example/ebbtide/ebbtide/core/Encoder" = some m.cls := findClass_of_methodNamed Bd.named
  have hnm := (name_of_methodNamed Bd.named Bd.method).1
  have X0 : Stand p l e ({ frames := 2, cells := 1, slots := 9, locals := 32 } : Room) s m #[(Value.ref a1)] below meth c s₁ [] 0 0 := Stand.of_body Bd
  have e0 : s₁.heap = h0 := by rw [← hh, Bd.state]; rfl
  have N0 := Fr.nil n0
  have K0 : Keep h0 h0 [] := Keep.refl h0 []
  show own_Go _ _ _ _ (s₁.setTop (entryFrame m #[(Value.ref a1)] 1))
  refine own_Go.by (fun tq kq => castTop (own_ef_8_256_9 m a1) kq) ?_
  show own_Go _ _ _ _ (s₁.setTop (mkF m 0 #[sR a1] []))
  refine own_Go.by (fun tq kq => XS.aloadN X0.here hx rfl (hb hby d8_0) rfl rfl kq) ?_
  show own_Go _ _ _ _ (s₁.setTop (mkF m 1 #[sR a1] [(Value.ref a1)]))
  obtain ⟨T1, X1, e1, st1⟩ := getF X0 hx hZ hown (host := "") (Or.inl (hw _ (List.mem_of_getElem? (i := 15) rfl))) Via.refl e0 H1 (g := (mkF m 1 #[sR a1] [(Value.ref a1)])) rfl rfl (hb hby d8_1)
  refine own_Go.by st1 ?_
  refine own_Go.by (fun tq kq => XS.aloadN X1.here hx rfl (hb hby d8_4) rfl rfl kq) ?_
  show own_Go _ _ _ _ (T1.setTop (mkF m 5 #[sR a1] [(Value.ref a1), (Value.ref aB)]))
  obtain ⟨T2, X2, e2, st2⟩ := getF X1 hx hZ hown (host := "") (Or.inl (hw _ (List.mem_of_getElem? (i := 38) rfl))) Via.refl e1 H2 (g := (mkF m 5 #[sR a1] [(Value.ref a1), (Value.ref aB)])) rfl rfl (hb hby d8_5)
  refine own_Go.by st2 ?_
  show own_Go _ _ _ _ (T2.setTop (mkF m 8 #[sR a1] [(Value.int (9 : Int32)), (Value.ref aB)]))
  obtain ⟨_, _, ⟨T3, L3, k3, n3⟩, -, X3, ⟨Lc3, hQ3, l3, y3, z3⟩, st3⟩ := Jvm.LawKit.callS X2 hx (y := (⟨"java/util/Arrays", "copyOf", "([BI)[B"⟩ : MethodName)) hown (mvT hZ (hw _ (List.mem_of_getElem? (i := 60) rfl))) (mvT hZ (hw _ (List.mem_of_getElem? (i := 61) rfl))) (mvT hZ (hw _ (List.mem_of_getElem? (i := 62) rfl))) (mvT hZ (hw _ (List.mem_of_getElem? (i := 63) rfl))) (by decide) (backOf (W := 0) (rm9_256_9 l Z a0 hw [] aB kB vs h0 n0 O0 H3) hZ (hw _ (List.mem_of_getElem? (i := 63) rfl)) (hw _ (List.mem_of_getElem? (i := 62) rfl)) (by decide) (by decide)) (g := (mkF m 8 #[sR a1] [(Value.int (9 : Int32)), (Value.ref aB)])) rfl (by rw [hml]; rfl) (argsL := [(Value.ref aB), (Value.int (9 : Int32))]) (rest := []) (lenOf own_pd3 rfl) rfl (by show 2 * 0 + _ ≤ _; exact Nat.le_of_eq rfl) (hb hby d8_8) (fun _ _ => ⟨rfl, e2, (by decide : 0 + 1 ≤ _), (by decide : 0 + 9 ≤ _)⟩)
  dsimp only [Pt.U, Pt.locs, Pt.cells, Pt.slots] at X3 l3 y3 z3 st3 hQ3
  subst l3 y3 z3
  refine own_Go.by st3 ?_
  obtain ⟨b_3, k2_3, rfl, N3q, K3q, p3_0, p3_1, p3_2⟩ := hQ3
  have N3 := Fr.app N0 N3q
  have O4 := O0.keep K3q all0
  have K4 := K0.trans K3q all0
  have g5 : n0 ≤ b_3 := Nat.le_trans (own_old_le O0) p3_0
  have z5 : h0.size ≤ b_3 := Nat.le_trans K0.1 p3_0
  show own_Go _ _ _ _ (T3.setTop (mkF m 11 #[sR a1] [(Value.ref b_3)]))
  obtain ⟨fs, hr, hrun, hended, hW, hsame⟩ := X3.leave (v := some (Value.ref b_3)) (fun h => by rw [Bd.returns] at h; cases h)
  refine own_Go.fin (retOut X3 hx Bd.returns rfl (Or.inr (Or.inr (Or.inr (Or.inr ⟨rfl, rfl, rfl⟩)))) (hb hby d8_11) hr) ⟨hrun, hended, _, _, rfl, ?_, ⟨_, rfl⟩, hW, hsame.mono (by decide) (by decide)⟩
  show Q8_256_9 Z a1 aB kB vs h0 n0 _ T3.heap _
  exact ⟨b_3, k2_3, rfl, N3, K4, z5, p3_2⟩

theorem own_ef_8_512_307 (m : MethodId) (a1 : Addr) : entryFrame m #[(Value.ref a1)] 1 = mkF m 0 #[sR a1] [] := by first | (simp [entryFrame, mkF, argsToLocals, Value.category]; done) | rfl
def Q8_512_307 (Z : State) (a1 : Addr) (aB : Addr) (kB : ClassId) (vs : List Value) (h0 : Heap) (n0 : Nat) (v : Option Value) (h : Heap) (L : List Loc) : Prop := ∃ (b : Addr), ∃ (k2 : ClassId), v = some (Value.ref b) ∧ Fr n0 L ∧ Keep h0 h [] ∧ (h0.size ≤ b) ∧ (Arv Z h b k2 .byte (307 : Int32) (own_cp vs 307) (Value.int (0 : Int32)))
set_option maxRecDepth 65536 in
set_option maxHeartbeats 40000000 in
theorem rm8_512_307 (l : Launch) (Z : State) (a0 : Array Value) (hw : ∀ d ∈ tables_1, d.before a0 Z = true) (ws : List Jvm.Cond) (a1 : Addr) (aB : Addr) (kB : ClassId) (vs : List Value) (h0 : Heap) (n0 : Nat) (O0 : Old Z n0 h0) (H0 : Exa Z h0 a1 "com/example/ebbtide/ebbtide/core/Encoder") (H1 : Fld Z h0 a1 "com/example/ebbtide/ebbtide/core/Encoder" "bytes" "[B" (Value.ref aB)) (H2 : Fld Z h0 a1 "com/example/ebbtide/ebbtide/core/Encoder" "length" "I" (Value.int (307 : Int32))) (H3 : Arv Z h0 aB kB .byte (512 : Int32) vs (Value.int (0 : Int32))) :
    MetFree l (⟨"com/example/ebbtide/ebbtide/core/Encoder", "toByteArray", "()[B"⟩ : MethodName) (head1 (Jvm.Cond.code (⟨"com/example/ebbtide/ebbtide/core/Encoder", "toByteArray", "()[B"⟩ : MethodName) prog_10_method_8_code 1 (some (.array .byte)) :: ws) ({ frames := 2, cells := 1, slots := 307, locals := 32 } : Room)) (fun a U => a = #[(Value.ref a1)] ∧ Z.Warmed39 U.vm ∧ U.heap = h0) (fun _ _ _ _ _ => True) (fun _ U o U' => ∃ v L, o = .returned v ∧ Q8_512_307 Z a1 aB kB vs h0 n0 v U'.heap L ∧ FrameEnd U o U' L ({ frames := 2, cells := 1, slots := 307, locals := 32 } : Room).cells ({ frames := 2, cells := 1, slots := 307, locals := 32 } : Room).slots) := by
  refine MetFree.of_bodySF (plainFor_of_name own_pn_com_example_ebbtide_ebbtide_core_Encoder) hisR ?_
  intro p e s m args below meth c s₁ Bd hml0 hP hK
  obtain ⟨rfl, hZ, hh⟩ := hP
  have hx := Bd.exec
  have hby := Bd.bytes
  have hml : c.maxLocals = 1 := hml0
  have hown : s.vm.findClass "com/example/ebbtide/ebbtide/core/Encoder" = some m.cls := findClass_of_methodNamed Bd.named
  have hnm := (name_of_methodNamed Bd.named Bd.method).1
  have X0 : Stand p l e ({ frames := 2, cells := 1, slots := 307, locals := 32 } : Room) s m #[(Value.ref a1)] below meth c s₁ [] 0 0 := Stand.of_body Bd
  have e0 : s₁.heap = h0 := by rw [← hh, Bd.state]; rfl
  have N0 := Fr.nil n0
  have K0 : Keep h0 h0 [] := Keep.refl h0 []
  show own_Go _ _ _ _ (s₁.setTop (entryFrame m #[(Value.ref a1)] 1))
  refine own_Go.by (fun tq kq => castTop (own_ef_8_512_307 m a1) kq) ?_
  show own_Go _ _ _ _ (s₁.setTop (mkF m 0 #[sR a1] []))
  refine own_Go.by (fun tq kq => XS.aloadN X0.here hx rfl (hb hby d8_0) rfl rfl kq) ?_
  show own_Go _ _ _ _ (s₁.setTop (mkF m 1 #[sR a1] [(Value.ref a1)]))
  obtain ⟨T1, X1, e1, st1⟩ := getF X0 hx hZ hown (host := "") (Or.inl (hw _ (List.mem_of_getElem? (i := 15) rfl))) Via.refl e0 H1 (g := (mkF m 1 #[sR a1] [(Value.ref a1)])) rfl rfl (hb hby d8_1)
  refine own_Go.by st1 ?_
  refine own_Go.by (fun tq kq => XS.aloadN X1.here hx rfl (hb hby d8_4) rfl rfl kq) ?_
  show own_Go _ _ _ _ (T1.setTop (mkF m 5 #[sR a1] [(Value.ref a1), (Value.ref aB)]))
  obtain ⟨T2, X2, e2, st2⟩ := getF X1 hx hZ hown (host := "") (Or.inl (hw _ (List.mem_of_getElem? (i := 38) rfl))) Via.refl e1 H2 (g := (mkF m 5 #[sR a1] [(Value.ref a1), (Value.ref aB)])) rfl rfl (hb hby d8_5)
  refine own_Go.by st2 ?_
  show own_Go _ _ _ _ (T2.setTop (mkF m 8 #[sR a1] [(Value.int (307 : Int32)), (Value.ref aB)]))
  obtain ⟨_, _, ⟨T3, L3, k3, n3⟩, -, X3, ⟨Lc3, hQ3, l3, y3, z3⟩, st3⟩ := Jvm.LawKit.callS X2 hx (y := (⟨"java/util/Arrays", "copyOf", "([BI)[B"⟩ : MethodName)) hown (mvT hZ (hw _ (List.mem_of_getElem? (i := 60) rfl))) (mvT hZ (hw _ (List.mem_of_getElem? (i := 61) rfl))) (mvT hZ (hw _ (List.mem_of_getElem? (i := 62) rfl))) (mvT hZ (hw _ (List.mem_of_getElem? (i := 63) rfl))) (by decide) (backOf (W := 0) (rm9_512_307 l Z a0 hw [] aB kB vs h0 n0 O0 H3) hZ (hw _ (List.mem_of_getElem? (i := 63) rfl)) (hw _ (List.mem_of_getElem? (i := 62) rfl)) (by decide) (by decide)) (g := (mkF m 8 #[sR a1] [(Value.int (307 : Int32)), (Value.ref aB)])) rfl (by rw [hml]; rfl) (argsL := [(Value.ref aB), (Value.int (307 : Int32))]) (rest := []) (lenOf own_pd3 rfl) rfl (by show 2 * 0 + _ ≤ _; exact Nat.le_of_eq rfl) (hb hby d8_8) (fun _ _ => ⟨rfl, e2, (by decide : 0 + 1 ≤ _), (by decide : 0 + 307 ≤ _)⟩)
  dsimp only [Pt.U, Pt.locs, Pt.cells, Pt.slots] at X3 l3 y3 z3 st3 hQ3
  subst l3 y3 z3
  refine own_Go.by st3 ?_
  obtain ⟨b_3, k2_3, rfl, N3q, K3q, p3_0, p3_1, p3_2⟩ := hQ3
  have N3 := Fr.app N0 N3q
  have O4 := O0.keep K3q all0
  have K4 := K0.trans K3q all0
  have g5 : n0 ≤ b_3 := Nat.le_trans (own_old_le O0) p3_0
  have z5 : h0.size ≤ b_3 := Nat.le_trans K0.1 p3_0
  show own_Go _ _ _ _ (T3.setTop (mkF m 11 #[sR a1] [(Value.ref b_3)]))
  obtain ⟨fs, hr, hrun, hended, hW, hsame⟩ := X3.leave (v := some (Value.ref b_3)) (fun h => by rw [Bd.returns] at h; cases h)
  refine own_Go.fin (retOut X3 hx Bd.returns rfl (Or.inr (Or.inr (Or.inr (Or.inr ⟨rfl, rfl, rfl⟩)))) (hb hby d8_11) hr) ⟨hrun, hended, _, _, rfl, ?_, ⟨_, rfl⟩, hW, hsame.mono (by decide) (by decide)⟩
  show Q8_512_307 Z a1 aB kB vs h0 n0 _ T3.heap _
  exact ⟨b_3, k2_3, rfl, N3, K4, z5, p3_2⟩

theorem own_ef_8_512_308 (m : MethodId) (a1 : Addr) : entryFrame m #[(Value.ref a1)] 1 = mkF m 0 #[sR a1] [] := by first | (simp [entryFrame, mkF, argsToLocals, Value.category]; done) | rfl
def Q8_512_308 (Z : State) (a1 : Addr) (aB : Addr) (kB : ClassId) (vs : List Value) (h0 : Heap) (n0 : Nat) (v : Option Value) (h : Heap) (L : List Loc) : Prop := ∃ (b : Addr), ∃ (k2 : ClassId), v = some (Value.ref b) ∧ Fr n0 L ∧ Keep h0 h [] ∧ (h0.size ≤ b) ∧ (Arv Z h b k2 .byte (308 : Int32) (own_cp vs 308) (Value.int (0 : Int32)))
set_option maxRecDepth 65536 in
set_option maxHeartbeats 40000000 in
theorem rm8_512_308 (l : Launch) (Z : State) (a0 : Array Value) (hw : ∀ d ∈ tables_1, d.before a0 Z = true) (ws : List Jvm.Cond) (a1 : Addr) (aB : Addr) (kB : ClassId) (vs : List Value) (h0 : Heap) (n0 : Nat) (O0 : Old Z n0 h0) (H0 : Exa Z h0 a1 "com/example/ebbtide/ebbtide/core/Encoder") (H1 : Fld Z h0 a1 "com/example/ebbtide/ebbtide/core/Encoder" "bytes" "[B" (Value.ref aB)) (H2 : Fld Z h0 a1 "com/example/ebbtide/ebbtide/core/Encoder" "length" "I" (Value.int (308 : Int32))) (H3 : Arv Z h0 aB kB .byte (512 : Int32) vs (Value.int (0 : Int32))) :
    MetFree l (⟨"com/example/ebbtide/ebbtide/core/Encoder", "toByteArray", "()[B"⟩ : MethodName) (head1 (Jvm.Cond.code (⟨"com/example/ebbtide/ebbtide/core/Encoder", "toByteArray", "()[B"⟩ : MethodName) prog_10_method_8_code 1 (some (.array .byte)) :: ws) ({ frames := 2, cells := 1, slots := 308, locals := 32 } : Room)) (fun a U => a = #[(Value.ref a1)] ∧ Z.Warmed39 U.vm ∧ U.heap = h0) (fun _ _ _ _ _ => True) (fun _ U o U' => ∃ v L, o = .returned v ∧ Q8_512_308 Z a1 aB kB vs h0 n0 v U'.heap L ∧ FrameEnd U o U' L ({ frames := 2, cells := 1, slots := 308, locals := 32 } : Room).cells ({ frames := 2, cells := 1, slots := 308, locals := 32 } : Room).slots) := by
  refine MetFree.of_bodySF (plainFor_of_name own_pn_com_example_ebbtide_ebbtide_core_Encoder) hisR ?_
  intro p e s m args below meth c s₁ Bd hml0 hP hK
  obtain ⟨rfl, hZ, hh⟩ := hP
  have hx := Bd.exec
  have hby := Bd.bytes
  have hml : c.maxLocals = 1 := hml0
  have hown : s.vm.findClass "com/example/ebbtide/ebbtide/core/Encoder" = some m.cls := findClass_of_methodNamed Bd.named
  have hnm := (name_of_methodNamed Bd.named Bd.method).1
  have X0 : Stand p l e ({ frames := 2, cells := 1, slots := 308, locals := 32 } : Room) s m #[(Value.ref a1)] below meth c s₁ [] 0 0 := Stand.of_body Bd
  have e0 : s₁.heap = h0 := by rw [← hh, Bd.state]; rfl
  have N0 := Fr.nil n0
  have K0 : Keep h0 h0 [] := Keep.refl h0 []
  show own_Go _ _ _ _ (s₁.setTop (entryFrame m #[(Value.ref a1)] 1))
  refine own_Go.by (fun tq kq => castTop (own_ef_8_512_308 m a1) kq) ?_
  show own_Go _ _ _ _ (s₁.setTop (mkF m 0 #[sR a1] []))
  refine own_Go.by (fun tq kq => XS.aloadN X0.here hx rfl (hb hby d8_0) rfl rfl kq) ?_
  show own_Go _ _ _ _ (s₁.setTop (mkF m 1 #[sR a1] [(Value.ref a1)]))
  obtain ⟨T1, X1, e1, st1⟩ := getF X0 hx hZ hown (host := "") (Or.inl (hw _ (List.mem_of_getElem? (i := 15) rfl))) Via.refl e0 H1 (g := (mkF m 1 #[sR a1] [(Value.ref a1)])) rfl rfl (hb hby d8_1)
  refine own_Go.by st1 ?_
  refine own_Go.by (fun tq kq => XS.aloadN X1.here hx rfl (hb hby d8_4) rfl rfl kq) ?_
  show own_Go _ _ _ _ (T1.setTop (mkF m 5 #[sR a1] [(Value.ref a1), (Value.ref aB)]))
  obtain ⟨T2, X2, e2, st2⟩ := getF X1 hx hZ hown (host := "") (Or.inl (hw _ (List.mem_of_getElem? (i := 38) rfl))) Via.refl e1 H2 (g := (mkF m 5 #[sR a1] [(Value.ref a1), (Value.ref aB)])) rfl rfl (hb hby d8_5)
  refine own_Go.by st2 ?_
  show own_Go _ _ _ _ (T2.setTop (mkF m 8 #[sR a1] [(Value.int (308 : Int32)), (Value.ref aB)]))
  obtain ⟨_, _, ⟨T3, L3, k3, n3⟩, -, X3, ⟨Lc3, hQ3, l3, y3, z3⟩, st3⟩ := Jvm.LawKit.callS X2 hx (y := (⟨"java/util/Arrays", "copyOf", "([BI)[B"⟩ : MethodName)) hown (mvT hZ (hw _ (List.mem_of_getElem? (i := 60) rfl))) (mvT hZ (hw _ (List.mem_of_getElem? (i := 61) rfl))) (mvT hZ (hw _ (List.mem_of_getElem? (i := 62) rfl))) (mvT hZ (hw _ (List.mem_of_getElem? (i := 63) rfl))) (by decide) (backOf (W := 0) (rm9_512_308 l Z a0 hw [] aB kB vs h0 n0 O0 H3) hZ (hw _ (List.mem_of_getElem? (i := 63) rfl)) (hw _ (List.mem_of_getElem? (i := 62) rfl)) (by decide) (by decide)) (g := (mkF m 8 #[sR a1] [(Value.int (308 : Int32)), (Value.ref aB)])) rfl (by rw [hml]; rfl) (argsL := [(Value.ref aB), (Value.int (308 : Int32))]) (rest := []) (lenOf own_pd3 rfl) rfl (by show 2 * 0 + _ ≤ _; exact Nat.le_of_eq rfl) (hb hby d8_8) (fun _ _ => ⟨rfl, e2, (by decide : 0 + 1 ≤ _), (by decide : 0 + 308 ≤ _)⟩)
  dsimp only [Pt.U, Pt.locs, Pt.cells, Pt.slots] at X3 l3 y3 z3 st3 hQ3
  subst l3 y3 z3
  refine own_Go.by st3 ?_
  obtain ⟨b_3, k2_3, rfl, N3q, K3q, p3_0, p3_1, p3_2⟩ := hQ3
  have N3 := Fr.app N0 N3q
  have O4 := O0.keep K3q all0
  have K4 := K0.trans K3q all0
  have g5 : n0 ≤ b_3 := Nat.le_trans (own_old_le O0) p3_0
  have z5 : h0.size ≤ b_3 := Nat.le_trans K0.1 p3_0
  show own_Go _ _ _ _ (T3.setTop (mkF m 11 #[sR a1] [(Value.ref b_3)]))
  obtain ⟨fs, hr, hrun, hended, hW, hsame⟩ := X3.leave (v := some (Value.ref b_3)) (fun h => by rw [Bd.returns] at h; cases h)
  refine own_Go.fin (retOut X3 hx Bd.returns rfl (Or.inr (Or.inr (Or.inr (Or.inr ⟨rfl, rfl, rfl⟩)))) (hb hby d8_11) hr) ⟨hrun, hended, _, _, rfl, ?_, ⟨_, rfl⟩, hW, hsame.mono (by decide) (by decide)⟩
  show Q8_512_308 Z a1 aB kB vs h0 n0 _ T3.heap _
  exact ⟨b_3, k2_3, rfl, N3, K4, z5, p3_2⟩

theorem own_ef_8_512_309 (m : MethodId) (a1 : Addr) : entryFrame m #[(Value.ref a1)] 1 = mkF m 0 #[sR a1] [] := by first | (simp [entryFrame, mkF, argsToLocals, Value.category]; done) | rfl
def Q8_512_309 (Z : State) (a1 : Addr) (aB : Addr) (kB : ClassId) (vs : List Value) (h0 : Heap) (n0 : Nat) (v : Option Value) (h : Heap) (L : List Loc) : Prop := ∃ (b : Addr), ∃ (k2 : ClassId), v = some (Value.ref b) ∧ Fr n0 L ∧ Keep h0 h [] ∧ (h0.size ≤ b) ∧ (Arv Z h b k2 .byte (309 : Int32) (own_cp vs 309) (Value.int (0 : Int32)))
set_option maxRecDepth 65536 in
set_option maxHeartbeats 40000000 in
theorem rm8_512_309 (l : Launch) (Z : State) (a0 : Array Value) (hw : ∀ d ∈ tables_1, d.before a0 Z = true) (ws : List Jvm.Cond) (a1 : Addr) (aB : Addr) (kB : ClassId) (vs : List Value) (h0 : Heap) (n0 : Nat) (O0 : Old Z n0 h0) (H0 : Exa Z h0 a1 "com/example/ebbtide/ebbtide/core/Encoder") (H1 : Fld Z h0 a1 "com/example/ebbtide/ebbtide/core/Encoder" "bytes" "[B" (Value.ref aB)) (H2 : Fld Z h0 a1 "com/example/ebbtide/ebbtide/core/Encoder" "length" "I" (Value.int (309 : Int32))) (H3 : Arv Z h0 aB kB .byte (512 : Int32) vs (Value.int (0 : Int32))) :
    MetFree l (⟨"com/example/ebbtide/ebbtide/core/Encoder", "toByteArray", "()[B"⟩ : MethodName) (head1 (Jvm.Cond.code (⟨"com/example/ebbtide/ebbtide/core/Encoder", "toByteArray", "()[B"⟩ : MethodName) prog_10_method_8_code 1 (some (.array .byte)) :: ws) ({ frames := 2, cells := 1, slots := 309, locals := 32 } : Room)) (fun a U => a = #[(Value.ref a1)] ∧ Z.Warmed39 U.vm ∧ U.heap = h0) (fun _ _ _ _ _ => True) (fun _ U o U' => ∃ v L, o = .returned v ∧ Q8_512_309 Z a1 aB kB vs h0 n0 v U'.heap L ∧ FrameEnd U o U' L ({ frames := 2, cells := 1, slots := 309, locals := 32 } : Room).cells ({ frames := 2, cells := 1, slots := 309, locals := 32 } : Room).slots) := by
  refine MetFree.of_bodySF (plainFor_of_name own_pn_com_example_ebbtide_ebbtide_core_Encoder) hisR ?_
  intro p e s m args below meth c s₁ Bd hml0 hP hK
  obtain ⟨rfl, hZ, hh⟩ := hP
  have hx := Bd.exec
  have hby := Bd.bytes
  have hml : c.maxLocals = 1 := hml0
  have hown : s.vm.findClass "com/example/ebbtide/ebbtide/core/Encoder" = some m.cls := findClass_of_methodNamed Bd.named
  have hnm := (name_of_methodNamed Bd.named Bd.method).1
  have X0 : Stand p l e ({ frames := 2, cells := 1, slots := 309, locals := 32 } : Room) s m #[(Value.ref a1)] below meth c s₁ [] 0 0 := Stand.of_body Bd
  have e0 : s₁.heap = h0 := by rw [← hh, Bd.state]; rfl
  have N0 := Fr.nil n0
  have K0 : Keep h0 h0 [] := Keep.refl h0 []
  show own_Go _ _ _ _ (s₁.setTop (entryFrame m #[(Value.ref a1)] 1))
  refine own_Go.by (fun tq kq => castTop (own_ef_8_512_309 m a1) kq) ?_
  show own_Go _ _ _ _ (s₁.setTop (mkF m 0 #[sR a1] []))
  refine own_Go.by (fun tq kq => XS.aloadN X0.here hx rfl (hb hby d8_0) rfl rfl kq) ?_
  show own_Go _ _ _ _ (s₁.setTop (mkF m 1 #[sR a1] [(Value.ref a1)]))
  obtain ⟨T1, X1, e1, st1⟩ := getF X0 hx hZ hown (host := "") (Or.inl (hw _ (List.mem_of_getElem? (i := 15) rfl))) Via.refl e0 H1 (g := (mkF m 1 #[sR a1] [(Value.ref a1)])) rfl rfl (hb hby d8_1)
  refine own_Go.by st1 ?_
  refine own_Go.by (fun tq kq => XS.aloadN X1.here hx rfl (hb hby d8_4) rfl rfl kq) ?_
  show own_Go _ _ _ _ (T1.setTop (mkF m 5 #[sR a1] [(Value.ref a1), (Value.ref aB)]))
  obtain ⟨T2, X2, e2, st2⟩ := getF X1 hx hZ hown (host := "") (Or.inl (hw _ (List.mem_of_getElem? (i := 38) rfl))) Via.refl e1 H2 (g := (mkF m 5 #[sR a1] [(Value.ref a1), (Value.ref aB)])) rfl rfl (hb hby d8_5)
  refine own_Go.by st2 ?_
  show own_Go _ _ _ _ (T2.setTop (mkF m 8 #[sR a1] [(Value.int (309 : Int32)), (Value.ref aB)]))
  obtain ⟨_, _, ⟨T3, L3, k3, n3⟩, -, X3, ⟨Lc3, hQ3, l3, y3, z3⟩, st3⟩ := Jvm.LawKit.callS X2 hx (y := (⟨"java/util/Arrays", "copyOf", "([BI)[B"⟩ : MethodName)) hown (mvT hZ (hw _ (List.mem_of_getElem? (i := 60) rfl))) (mvT hZ (hw _ (List.mem_of_getElem? (i := 61) rfl))) (mvT hZ (hw _ (List.mem_of_getElem? (i := 62) rfl))) (mvT hZ (hw _ (List.mem_of_getElem? (i := 63) rfl))) (by decide) (backOf (W := 0) (rm9_512_309 l Z a0 hw [] aB kB vs h0 n0 O0 H3) hZ (hw _ (List.mem_of_getElem? (i := 63) rfl)) (hw _ (List.mem_of_getElem? (i := 62) rfl)) (by decide) (by decide)) (g := (mkF m 8 #[sR a1] [(Value.int (309 : Int32)), (Value.ref aB)])) rfl (by rw [hml]; rfl) (argsL := [(Value.ref aB), (Value.int (309 : Int32))]) (rest := []) (lenOf own_pd3 rfl) rfl (by show 2 * 0 + _ ≤ _; exact Nat.le_of_eq rfl) (hb hby d8_8) (fun _ _ => ⟨rfl, e2, (by decide : 0 + 1 ≤ _), (by decide : 0 + 309 ≤ _)⟩)
  dsimp only [Pt.U, Pt.locs, Pt.cells, Pt.slots] at X3 l3 y3 z3 st3 hQ3
  subst l3 y3 z3
  refine own_Go.by st3 ?_
  obtain ⟨b_3, k2_3, rfl, N3q, K3q, p3_0, p3_1, p3_2⟩ := hQ3
  have N3 := Fr.app N0 N3q
  have O4 := O0.keep K3q all0
  have K4 := K0.trans K3q all0
  have g5 : n0 ≤ b_3 := Nat.le_trans (own_old_le O0) p3_0
  have z5 : h0.size ≤ b_3 := Nat.le_trans K0.1 p3_0
  show own_Go _ _ _ _ (T3.setTop (mkF m 11 #[sR a1] [(Value.ref b_3)]))
  obtain ⟨fs, hr, hrun, hended, hW, hsame⟩ := X3.leave (v := some (Value.ref b_3)) (fun h => by rw [Bd.returns] at h; cases h)
  refine own_Go.fin (retOut X3 hx Bd.returns rfl (Or.inr (Or.inr (Or.inr (Or.inr ⟨rfl, rfl, rfl⟩)))) (hb hby d8_11) hr) ⟨hrun, hended, _, _, rfl, ?_, ⟨_, rfl⟩, hW, hsame.mono (by decide) (by decide)⟩
  show Q8_512_309 Z a1 aB kB vs h0 n0 _ T3.heap _
  exact ⟨b_3, k2_3, rfl, N3, K4, z5, p3_2⟩

theorem own_pd4 : parseMethodDescriptor "(Ljava/lang/Object;Ljava/lang/String;)Ljava/lang/Object;" = some ⟨[(.object "java/lang/Object"), (.object "java/lang/String")], some (.object "java/lang/Object")⟩ := by decide +kernel
theorem own_pd5 : parseMethodDescriptor "(J)V" = some ⟨[.long], none⟩ := by decide +kernel
theorem own_pd6 : parseMethodDescriptor "()I" = some ⟨[], some .int⟩ := by decide +kernel
theorem d1_0 : decode prog_10_method_1_code 0 = .ok (.aload_n 0, 1) := by decide +kernel
theorem d1_1 : decode prog_10_method_1_code 1 = .ok (.invokespecial 3, 3) := by decide +kernel
theorem d1_4 : decode prog_10_method_1_code 4 = .ok (.aload_n 0, 1) := by decide +kernel
theorem d1_5 : decode prog_10_method_1_code 5 = .ok (.sipush 256, 3) := by decide +kernel
theorem d1_8 : decode prog_10_method_1_code 8 = .ok (.newarray .byte, 2) := by decide +kernel
theorem d1_10 : decode prog_10_method_1_code 10 = .ok (.putfield 9, 3) := by decide +kernel
theorem d1_13 : decode prog_10_method_1_code 13 = .ok (.aload_n 1, 1) := by decide +kernel
theorem d1_14 : decode prog_10_method_1_code 14 = .ok (.ldc 15, 2) := by decide +kernel
theorem d1_16 : decode prog_10_method_1_code 16 = .ok (.invokestatic 17, 3) := by decide +kernel
theorem d1_19 : decode prog_10_method_1_code 19 = .ok (.pop, 1) := by decide +kernel
theorem d1_20 : decode prog_10_method_1_code 20 = .ok (.getstatic 23, 3) := by decide +kernel
theorem d1_23 : decode prog_10_method_1_code 23 = .ok (.astore_n 2, 1) := by decide +kernel
theorem d1_24 : decode prog_10_method_1_code 24 = .ok (.aload_n 2, 1) := by decide +kernel
theorem d1_25 : decode prog_10_method_1_code 25 = .ok (.arraylength, 1) := by decide +kernel
theorem d1_26 : decode prog_10_method_1_code 26 = .ok (.istore_n 3, 1) := by decide +kernel
theorem d1_27 : decode prog_10_method_1_code 27 = .ok (.iconst 0, 1) := by decide +kernel
theorem d1_28 : decode prog_10_method_1_code 28 = .ok (.istore 4, 2) := by decide +kernel
theorem d1_30 : decode prog_10_method_1_code 30 = .ok (.iload 4, 2) := by decide +kernel
theorem d1_32 : decode prog_10_method_1_code 32 = .ok (.iload_n 3, 1) := by decide +kernel
theorem d1_33 : decode prog_10_method_1_code 33 = .ok (.if_icmp .ge 21, 3) := by decide +kernel
theorem d1_36 : decode prog_10_method_1_code 36 = .ok (.aload_n 2, 1) := by decide +kernel
theorem d1_37 : decode prog_10_method_1_code 37 = .ok (.iload 4, 2) := by decide +kernel
theorem d1_39 : decode prog_10_method_1_code 39 = .ok (.baload, 1) := by decide +kernel
theorem d1_40 : decode prog_10_method_1_code 40 = .ok (.istore 5, 2) := by decide +kernel
theorem d1_42 : decode prog_10_method_1_code 42 = .ok (.aload_n 0, 1) := by decide +kernel
theorem d1_43 : decode prog_10_method_1_code 43 = .ok (.iload 5, 2) := by decide +kernel
theorem d1_45 : decode prog_10_method_1_code 45 = .ok (.invokevirtual 26, 3) := by decide +kernel
theorem d1_48 : decode prog_10_method_1_code 48 = .ok (.iinc 4 1, 3) := by decide +kernel
theorem d1_51 : decode prog_10_method_1_code 51 = .ok (.goto (-21), 3) := by decide +kernel
theorem d1_54 : decode prog_10_method_1_code 54 = .ok (.aload_n 0, 1) := by decide +kernel
theorem d1_55 : decode prog_10_method_1_code 55 = .ok (.ldc2_w 30, 3) := by decide +kernel
theorem d1_58 : decode prog_10_method_1_code 58 = .ok (.invokevirtual 32, 3) := by decide +kernel
theorem d1_61 : decode prog_10_method_1_code 61 = .ok (.aload_n 0, 1) := by decide +kernel
theorem d1_62 : decode prog_10_method_1_code 62 = .ok (.aload_n 1, 1) := by decide +kernel
theorem d1_63 : decode prog_10_method_1_code 63 = .ok (.invokevirtual 36, 3) := by decide +kernel
theorem d1_66 : decode prog_10_method_1_code 66 = .ok (.i2l, 1) := by decide +kernel
theorem d1_67 : decode prog_10_method_1_code 67 = .ok (.invokevirtual 32, 3) := by decide +kernel
theorem d1_70 : decode prog_10_method_1_code 70 = .ok (.return_, 1) := by decide +kernel
theorem own_ef_1 (m : MethodId) (a1 : Addr) (aK : Addr) : entryFrame m #[(Value.ref a1), (Value.ref aK)] 6 = mkF m 0 #[sR a1, sR aK, .unset, .unset, .unset, .unset] [] := by first | (simp [entryFrame, mkF, argsToLocals, Value.category]; done) | rfl
def Q1 (Z : State) (a1 : Addr) (aK : Addr) (cd : Int32) (aM : Addr) (kM : ClassId) (h0 : Heap) (n0 : Nat) (v : Option Value) (h : Heap) (L : List Loc) : Prop := ∃ (b : Addr), ∃ (k2 : ClassId), v = none ∧ Fr n0 L ∧ Keep h0 h [a1] ∧ (h0.size ≤ b) ∧ (Exa Z h a1 "com/example/ebbtide/ebbtide/core/Encoder") ∧ (Fld Z h a1 "com/example/ebbtide/ebbtide/core/Encoder" "bytes" "[B" (Value.ref b)) ∧ (Fld Z h a1 "com/example/ebbtide/ebbtide/core/Encoder" "length" "I" (Value.int (6 : Int32))) ∧ (Arv Z h b k2 .byte (256 : Int32) (own_hd cd) (Value.int (0 : Int32)))
set_option maxRecDepth 65536 in
set_option maxHeartbeats 40000000 in
theorem rm1 (l : Launch) (Z : State) (a0 : Array Value) (hw : ∀ d ∈ tables_1, d.before a0 Z = true) (ws : List Jvm.Cond) (a1 : Addr) (aK : Addr) (cd : Int32) (aM : Addr) (kM : ClassId) (h0 : Heap) (n0 : Nat) (O0 : Old Z n0 h0) (H0 : Exa Z h0 a1 "com/example/ebbtide/ebbtide/core/Encoder") (H1 : n0 ≤ a1) (H2 : Fld Z h0 a1 "com/example/ebbtide/ebbtide/core/Encoder" "bytes" "[B" .null) (H3 : Fld Z h0 a1 "com/example/ebbtide/ebbtide/core/Encoder" "length" "I" (Value.int (0 : Int32))) (H4 : Sta Z Z.heap "com/example/ebbtide/ebbtide/core/Encoder" "MAGIC" "[B" (Value.ref aM)) (H5 : Arv Z Z.heap aM kM .byte (4 : Int32) [(Value.int (69 : Int32)), (Value.int (66 : Int32)), (Value.int (66 : Int32)), (Value.int (84 : Int32))] (Value.int (0 : Int32))) (H6 : Exa Z Z.heap aK "com/example/ebbtide/ebbtide/core/SummaryKind") (H7 : Fld Z Z.heap aK "com/example/ebbtide/ebbtide/core/SummaryKind" "code" "I" (Value.int cd)) (hc0 : ((cd.toInt64) &&& (-128 : Int64)) = (0 : Int64)) (hc1 : (((cd.toInt64).toInt32).toInt8.toInt32) = cd) :
    MetFree l (⟨"com/example/ebbtide/ebbtide/core/Encoder", "<init>", "(Lcom/example/ebbtide/ebbtide/core/SummaryKind;)V"⟩ : MethodName) (head1 (Jvm.Cond.code (⟨"com/example/ebbtide/ebbtide/core/Encoder", "<init>", "(Lcom/example/ebbtide/ebbtide/core/SummaryKind;)V"⟩ : MethodName) prog_10_method_1_code 6 none :: ws) ({ frames := 3, cells := 3, slots := 308, locals := 44 } : Room)) (fun a U => a = #[(Value.ref a1), (Value.ref aK)] ∧ Z.Warmed39 U.vm ∧ U.heap = h0) (fun _ _ _ _ _ => True) (fun _ U o U' => ∃ v L, o = .returned v ∧ Q1 Z a1 aK cd aM kM h0 n0 v U'.heap L ∧ ReturnedEndW U o U' L ({ frames := 3, cells := 3, slots := 308, locals := 44 } : Room).cells ({ frames := 3, cells := 3, slots := 308, locals := 44 } : Room).slots) := by
  refine MetFree.of_bodySF (plainFor_of_name own_pn_com_example_ebbtide_ebbtide_core_Encoder) hisR ?_
  intro p e s m args below meth c s₁ Bd hml0 hP hK
  obtain ⟨rfl, hZ, hh⟩ := hP
  have hx := Bd.exec
  have hby := Bd.bytes
  have hml : c.maxLocals = 6 := hml0
  have hown : s.vm.findClass "com/example/ebbtide/ebbtide/core/Encoder" = some m.cls := findClass_of_methodNamed Bd.named
  have hnm := (name_of_methodNamed Bd.named Bd.method).1
  have X0 : Stand p l e ({ frames := 3, cells := 3, slots := 308, locals := 44 } : Room) s m #[(Value.ref a1), (Value.ref aK)] below meth c s₁ [] 0 0 := Stand.of_body Bd
  have e0 : s₁.heap = h0 := by rw [← hh, Bd.state]; rfl
  have hS0 : s.Since s.vm 0 := (State.WarmedH.refl s).since 0
  have N0 := Fr.nil n0
  have K0 := Keep.refl h0 [a1]
  show own_Go _ _ _ _ (s₁.setTop (entryFrame m #[(Value.ref a1), (Value.ref aK)] 6))
  refine own_Go.by (fun tq kq => castTop (own_ef_1 m a1 aK) kq) ?_
  show own_Go _ _ _ _ (s₁.setTop (mkF m 0 #[sR a1, sR aK, .unset, .unset, .unset, .unset] []))
  refine own_Go.by (fun tq kq => XS.aloadN X0.here hx rfl (hb hby d1_0) rfl rfl kq) ?_
  show own_Go _ _ _ _ (s₁.setTop (mkF m 1 #[sR a1, sR aK, .unset, .unset, .unset, .unset] [(Value.ref a1)]))
  obtain ⟨T1, X1, e1, st1⟩ := initO X0 hx hZ hown (hw _ (List.mem_of_getElem? (i := 12) rfl)) (hw _ (List.mem_of_getElem? (i := 13) rfl)) (hw _ (List.mem_of_getElem? (i := 14) rfl)) e0 (g := (mkF m 1 #[sR a1, sR aK, .unset, .unset, .unset, .unset] [(Value.ref a1)])) rfl (by rw [hml]; rfl) rfl (hb hby d1_1) (by decide) (W := 0) (by show 2 * 0 + _ ≤ _; exact Nat.le_of_eq rfl) (by decide)
  refine own_Go.by st1 ?_
  refine own_Go.by (fun tq kq => XS.aloadN X1.here hx rfl (hb hby d1_4) rfl rfl kq) ?_
  refine own_Go.by (fun tq kq => XS.sipush X1.here hx rfl (hb hby d1_5) kq) ?_
  show own_Go _ _ _ _ (T1.setTop (mkF m 8 #[sR a1, sR aK, .unset, .unset, .unset, .unset] [(Value.int (256 : Int32)), (Value.ref a1)]))
  obtain ⟨T2, h2, k2, X2, e2, E2, A2, Ea2, st2⟩ := newPE X1 hx hZ (hw _ (List.mem_of_getElem? (i := 5) rfl)) e1 (g := (mkF m 8 #[sR a1, sR aK, .unset, .unset, .unset, .unset] [(Value.int (256 : Int32)), (Value.ref a1)])) rfl (hb hby d1_8) rfl (by decide : ¬ ((256 : Int32) < (0 : Int32))) (cap := 256) (by decide : (256 : Int32).toNatClampNeg ≤ 256) (by decide) (by decide) (by decide) (ad := "[B") rfl
  obtain ⟨ob2, y2⟩ : ∃ z, z = h0.size := ⟨_, rfl⟩
  rw [← y2] at A2 Ea2 st2
  refine own_Go.by st2 ?_
  have O3 := O0.ext E2
  have K3 := K0.ext E2
  have g4 : n0 ≤ ob2 := Nat.le_trans (own_old_le O0) (Nat.le_of_eq y2.symm)
  have z4 : h0.size ≤ ob2 := Nat.le_trans K0.1 (Nat.le_of_eq y2.symm)
  have V2 : Arv Z h2 ob2 k2 .byte (256 : Int32) (List.replicate 256 (Value.int (0 : Int32))) (Value.int (0 : Int32)) := (Arv.new A2 (by decide : ¬ ((256 : Int32) < (0 : Int32)))).pad (pad_rep [] (Value.int (0 : Int32)) 256)
  show own_Go _ _ _ _ (T2.setTop (mkF m 10 #[sR a1, sR aK, .unset, .unset, .unset, .unset] [(Value.ref ob2), (Value.ref a1)]))
  have c5 := (H2.ext E2)
  have c6 := (H0.ext E2)
  obtain ⟨T7, h7, X7, e7, W7, st7⟩ := putF X2 hx hZ hown (host := "") (Or.inl (hw _ (List.mem_of_getElem? (i := 15) rfl))) Via.refl e2 c5 c6 (Or.inl (hw _ (List.mem_of_getElem? (i := 16) rfl))) (hw _ (List.mem_of_getElem? (i := 7) rfl)) (ty := (.array .byte)) (by decide) rfl rfl (g := (mkF m 10 #[sR a1, sR aK, .unset, .unset, .unset, .unset] [(Value.ref ob2), (Value.ref a1)])) rfl rfl (hb hby d1_10)
  refine own_Go.by st7 ?_
  have N7 := Fr.snoc X7 N0 H1
  have O8 := O3.wr W7 H1
  have K8 := K3.wr W7 (Or.inl (List.mem_of_getElem? (i := 0) rfl))
  have F7 := c5.same W7
  refine own_Go.by (fun tq kq => XS.aloadN X7.here hx rfl (hb hby d1_13) rfl rfl kq) ?_
  show own_Go _ _ _ _ (T7.setTop (mkF m 14 #[sR a1, sR aK, .unset, .unset, .unset, .unset] [(Value.ref aK)]))
  obtain ⟨sa9, T9, h9, k9, X9, e9, E9, hS9, hk9, hZ9, hown9, st9⟩ := ldcS (s := s) (vm0 := s.vm) X7 hx hZ hown (hw _ (List.mem_of_getElem? (i := 17) rfl)) (fun d hd => hw d (own_wS d hd)) e7 hS0 (Nat.zero_le _) (g := (mkF m 14 #[sR a1, sR aK, .unset, .unset, .unset, .unset] [(Value.ref aK)])) rfl (hb hby d1_14) (n := 48) (by decide) (by decide) (by decide) (by decide)
  refine own_Go.by st9 ?_
  have O10 := O8.ext E9
  have K10 := K8.ext E9
  show own_Go _ _ _ _ (T9.setTop (mkF m 16 #[sR a1, sR aK, .unset, .unset, .unset, .unset] [(Value.ref sa9), (Value.ref aK)]))
  obtain ⟨_, _, ⟨T11, L11, k11, n11⟩, -, X11, ⟨Lc11, hQ11, l11, y11, z11⟩, st11⟩ := Jvm.LawKit.callS X9 hx (y := (⟨"java/util/Objects", "requireNonNull", "(Ljava/lang/Object;Ljava/lang/String;)Ljava/lang/Object;"⟩ : MethodName)) hown9 (mvT hZ9 (hw _ (List.mem_of_getElem? (i := 24) rfl))) (mvT hZ9 (hw _ (List.mem_of_getElem? (i := 25) rfl))) (mvT hZ9 (hw _ (List.mem_of_getElem? (i := 26) rfl))) (mvT hZ9 (hw _ (List.mem_of_getElem? (i := 27) rfl))) (by decide) (backOf (W := 0) (rm3 l Z a0 hw [] aK sa9 h9 n0 O10 ) hZ9 (hw _ (List.mem_of_getElem? (i := 27) rfl)) (hw _ (List.mem_of_getElem? (i := 26) rfl)) (by decide) (by decide)) (g := (mkF m 16 #[sR a1, sR aK, .unset, .unset, .unset, .unset] [(Value.ref sa9), (Value.ref aK)])) rfl (by rw [hml]; rfl) (argsL := [(Value.ref aK), (Value.ref sa9)]) (rest := []) (lenOf own_pd4 rfl) rfl (by show 2 * 0 + _ ≤ _; exact Nat.le_of_eq rfl) (hb hby d1_16) (fun _ _ => ⟨rfl, e9, (by decide : 3 + 0 ≤ _), (by decide : 308 + 0 ≤ _)⟩)
  dsimp only [Pt.U, Pt.locs, Pt.cells, Pt.slots] at X11 l11 y11 z11 st11 hQ11
  subst l11 y11 z11
  refine own_Go.by st11 ?_
  obtain ⟨rfl, N11q, e11⟩ := hQ11
  have N11 := Fr.app N7 N11q
  show own_Go _ _ _ _ (T11.setTop (mkF m 19 #[sR a1, sR aK, .unset, .unset, .unset, .unset] [(Value.ref aK)]))
  refine own_Go.by (fun tq kq => XS.pop X11.here hx rfl (hb hby d1_19) rfl rfl kq) ?_
  show own_Go _ _ _ _ (T11.setTop (mkF m 20 #[sR a1, sR aK, .unset, .unset, .unset, .unset] []))
  obtain ⟨T12, X12, e12, st12⟩ := getS2 X11 hx hZ9 hown9 (host := "") (Or.inl (hw _ (List.mem_of_getElem? (i := 28) rfl))) Via.refl e11 (H4.ext O10.2) (g := (mkF m 20 #[sR a1, sR aK, .unset, .unset, .unset, .unset] [])) rfl (hb hby d1_20)
  refine own_Go.by st12 ?_
  refine own_Go.by (fun tq kq => XS.astoreN X12.here hx rfl (hb hby d1_23) rfl rfl (l' := #[sR a1, sR aK, sR aM, .unset, .unset, .unset]) rfl kq) ?_
  refine own_Go.by (fun tq kq => XS.aloadN X12.here hx rfl (hb hby d1_24) rfl rfl kq) ?_
  show own_Go _ _ _ _ (T12.setTop (mkF m 25 #[sR a1, sR aK, sR aM, .unset, .unset, .unset] [(Value.ref aM)]))
  obtain ⟨cl13, Ar13, q13, S13, M13, Hh13, G13⟩ := id (H5.ext O10.2)
  refine own_Go.by (fun tq kq => X12.arraylength hx (by rw [e12]; exact Ar13.1) (State.isArrayOf_alike hZ9.alike Ar13.2.1) (g := (mkF m 25 #[sR a1, sR aK, sR aM, .unset, .unset, .unset] [(Value.ref aM)])) rfl rfl (hb hby d1_25) _ kq) ?_
  rw [len_of S13 M13]
  refine own_Go.by (fun tq kq => XS.istoreN X12.here hx rfl (hb hby d1_26) rfl (l' := #[sR a1, sR aK, sR aM, sI (4 : Int32), .unset, .unset]) rfl kq) ?_
  refine own_Go.by (fun tq kq => XS.iconst X12.here hx rfl (hb hby d1_27) kq) ?_
  refine own_Go.by (fun tq kq => XS.istore X12.here hx rfl (hb hby d1_28) rfl (l' := #[sR a1, sR aK, sR aM, sI (4 : Int32), sI (0 : Int32), .unset]) rfl kq) ?_
  show own_Go _ _ _ _ (T12.setTop (mkF m 30 #[sR a1, sR aK, sR aM, sI (4 : Int32), sI (0 : Int32), .unset] []))
  refine own_Go.by (fun tq kq => XS.iload X12.here hx rfl (hb hby d1_30) rfl kq) ?_
  refine own_Go.by (fun tq kq => XS.iloadN X12.here hx rfl (hb hby d1_32) rfl kq) ?_
  show own_Go _ _ _ _ (T12.setTop (mkF m 33 #[sR a1, sR aK, sR aM, sI (4 : Int32), sI (0 : Int32), .unset] [(Value.int (4 : Int32)), (Value.int (0 : Int32))]))
  refine own_Go.by (fun tq kq => XS.icmpNo X12.here hx rfl (hb hby d1_33) rfl (tlt (by decide : (0 : Int32) < (4 : Int32))).2.1 kq) ?_
  refine own_Go.by (fun tq kq => XS.aloadN X12.here hx rfl (hb hby d1_36) rfl rfl kq) ?_
  refine own_Go.by (fun tq kq => XS.iload X12.here hx rfl (hb hby d1_37) rfl kq) ?_
  show own_Go _ _ _ _ (T12.setTop (mkF m 39 #[sR a1, sR aK, sR aM, sI (4 : Int32), sI (0 : Int32), .unset] [(Value.int (0 : Int32)), (Value.ref aM)]))
  obtain ⟨cl14, Ar14, q14, S14, M14, Hh14, G14⟩ := id (H5.ext O10.2)
  refine own_Go.by (fun tq kq => X12.baloadBytes hx (j := (0 : Int32)) (v := (Value.int (69 : Int32))) (by rw [e12]; exact Ar14.1) (State.isArrayOf_alike hZ9.alike Ar14.2.1) Ar14.2.2 (inb_of S14 ⟨(by decide : ¬ ((0 : Int32) < (0 : Int32))), (by decide : (0 : Int32) < (4 : Int32))⟩) (Has.at Hh14 (inb_of S14 ⟨(by decide : ¬ ((0 : Int32) < (0 : Int32))), (by decide : (0 : Int32) < (4 : Int32))⟩) (rfl : _ = (Value.int (69 : Int32)))) (g := (mkF m 39 #[sR a1, sR aK, sR aM, sI (4 : Int32), sI (0 : Int32), .unset] [(Value.int (0 : Int32)), (Value.ref aM)])) rfl rfl (hb hby d1_39) _ kq) ?_
  refine own_Go.by (fun tq kq => XS.istore X12.here hx rfl (hb hby d1_40) rfl (l' := #[sR a1, sR aK, sR aM, sI (4 : Int32), sI (0 : Int32), sI (69 : Int32)]) rfl kq) ?_
  refine own_Go.by (fun tq kq => XS.aloadN X12.here hx rfl (hb hby d1_42) rfl rfl kq) ?_
  refine own_Go.by (fun tq kq => XS.iload X12.here hx rfl (hb hby d1_43) rfl kq) ?_
  show own_Go _ _ _ _ (T12.setTop (mkF m 45 #[sR a1, sR aK, sR aM, sI (4 : Int32), sI (0 : Int32), sI (69 : Int32)] [(Value.int (69 : Int32)), (Value.ref a1)]))
  have c16 := ((c6.wr W7).ext E9)
  have c17 := (F7.ext E9)
  have c18 := (((H3.ext E2).other W7 (Or.inr (slot_ne (Or.inl (hw _ (List.mem_of_getElem? (i := 39) rfl))) (Or.inl (hw _ (List.mem_of_getElem? (i := 16) rfl))) (by decide) (t := .int) (t' := (.array .byte)) (by decide) (by decide)))).ext E9)
  have c19 := ((V2.other W7 (Ne.symm (Nat.ne_of_lt (Nat.lt_of_lt_of_le H0.lt (Nat.le_of_eq y2.symm))))).ext E9)
  obtain ⟨cq15, q15, q15'⟩ := c16.cell
  obtain ⟨_, _, ⟨T15, L15, k15, n15⟩, -, X15, ⟨Lc15, hQ15, l15, y15, z15⟩, st15⟩ := X12.privateBack hx (y := (⟨"com/example/ebbtide/ebbtide/core/Encoder", "put", "(B)V"⟩ : MethodName)) hown9 (mvT hZ9 (hw _ (List.mem_of_getElem? (i := 30) rfl))) (mvT hZ9 (hw _ (List.mem_of_getElem? (i := 31) rfl))) (own_privsel (mvT hZ9 (hw _ (List.mem_of_getElem? (i := 7) rfl)) (args := #[])) (mvP hZ9 (hw _ (List.mem_of_getElem? (i := 32) rfl)) (args := #[])) (mvT hZ9 (hw _ (List.mem_of_getElem? (i := 31) rfl))) (by decide)) (Cond.privateMethod_at (mvP hZ9 (hw _ (List.mem_of_getElem? (i := 32) rfl)) (args := #[]))) (mvT hZ9 (hw _ (List.mem_of_getElem? (i := 33) rfl))) (by decide) (backOf (W := 0) (rm4 l Z a0 hw [] a1 ob2 k2 (List.replicate 256 (Value.int (0 : Int32))) (0 : Int32) (69 : Int32) 0 h9 n0 O10 c16 c17 c18 c19 H1 g4 (Nat.ne_of_lt (Nat.lt_of_lt_of_le H0.lt (Nat.le_of_eq y2.symm))) (by decide : ¬ ((2147483639 : Int64) < (((0 : Int32).toInt64) + ((1 : Int32).toInt64)))) (by decide : ¬ (((256 : Int32).toInt64) < (((0 : Int32).toInt64) + ((1 : Int32).toInt64)))) (by decide : ¬ ((0 : Int32) < (0 : Int32)) ∧ (0 : Int32) < (256 : Int32)) (rfl : (0 : Int32).toNatClampNeg = 0) (Nat.le_of_ble_eq_true rfl : 0 < (List.replicate 256 (Value.int (0 : Int32))).length) (by decide : (69 : Int32).toInt8.toInt32 = (69 : Int32))) hZ9 (hw _ (List.mem_of_getElem? (i := 33) rfl)) (hw _ (List.mem_of_getElem? (i := 8) rfl)) (by decide) (by decide)) (g := (mkF m 45 #[sR a1, sR aK, sR aM, sI (4 : Int32), sI (0 : Int32), sI (69 : Int32)] [(Value.int (69 : Int32)), (Value.ref a1)])) rfl (by rw [hml]; rfl) (Steps.refl _) (a := a1) (by rw [e12]; exact q15) q15' (argsL := [(Value.int (69 : Int32))]) (rest := []) (lenOf own_pd1 rfl) rfl (by show 2 * 0 + _ ≤ _; exact Nat.le_of_eq rfl) (hb hby d1_45) (fun _ _ => ⟨rfl, e12, (by decide : 3 + 0 ≤ _), (by decide : 308 + 0 ≤ _)⟩)
  dsimp only [Pt.U, Pt.locs, Pt.cells, Pt.slots] at X15 l15 y15 z15 st15 hQ15
  subst l15 y15 z15
  refine own_Go.by (fun tq kq => st15.trans kq) ?_
  obtain ⟨rfl, N15q, K15q, p15_0, p15_1, p15_2, p15_3⟩ := hQ15
  have N15 := Fr.app N11 N15q
  have O20 := O10.keep K15q (allS H1 (allS g4 all0))
  have K20 := K10.trans K15q (allS (Or.inl (List.mem_of_getElem? (i := 0) rfl)) (allS (Or.inr z4) all0))
  have hk_20 := Nat.le_trans hk9 K15q.1
  show own_Go _ _ _ _ (T15.setTop (mkF m 48 #[sR a1, sR aK, sR aM, sI (4 : Int32), sI (0 : Int32), sI (69 : Int32)] []))
  refine own_Go.by (fun tq kq => XS.iinc X15.here hx rfl (hb hby d1_48) rfl (l' := #[sR a1, sR aK, sR aM, sI (4 : Int32), sI (1 : Int32), sI (69 : Int32)]) rfl kq) ?_
  refine own_Go.by (fun tq kq => XS.goto X15.here hx rfl (pc0 := 51) (pc' := 30) rfl (hb hby d1_51) (by decide) (by decide) kq) ?_
  refine own_Go.by (fun tq kq => XS.iload X15.here hx rfl (hb hby d1_30) rfl kq) ?_
  refine own_Go.by (fun tq kq => XS.iloadN X15.here hx rfl (hb hby d1_32) rfl kq) ?_
  show own_Go _ _ _ _ (T15.setTop (mkF m 33 #[sR a1, sR aK, sR aM, sI (4 : Int32), sI (1 : Int32), sI (69 : Int32)] [(Value.int (4 : Int32)), (Value.int (1 : Int32))]))
  refine own_Go.by (fun tq kq => XS.icmpNo X15.here hx rfl (hb hby d1_33) rfl (tlt (by decide : (1 : Int32) < (4 : Int32))).2.1 kq) ?_
  refine own_Go.by (fun tq kq => XS.aloadN X15.here hx rfl (hb hby d1_36) rfl rfl kq) ?_
  refine own_Go.by (fun tq kq => XS.iload X15.here hx rfl (hb hby d1_37) rfl kq) ?_
  show own_Go _ _ _ _ (T15.setTop (mkF m 39 #[sR a1, sR aK, sR aM, sI (4 : Int32), sI (1 : Int32), sI (69 : Int32)] [(Value.int (1 : Int32)), (Value.ref aM)]))
  obtain ⟨cl21, Ar21, q21, S21, M21, Hh21, G21⟩ := id (H5.ext O20.2)
  refine own_Go.by (fun tq kq => X15.baloadBytes hx (j := (1 : Int32)) (v := (Value.int (66 : Int32))) Ar21.1 (State.isArrayOf_alike hZ9.alike Ar21.2.1) Ar21.2.2 (inb_of S21 ⟨(by decide : ¬ ((1 : Int32) < (0 : Int32))), (by decide : (1 : Int32) < (4 : Int32))⟩) (Has.at Hh21 (inb_of S21 ⟨(by decide : ¬ ((1 : Int32) < (0 : Int32))), (by decide : (1 : Int32) < (4 : Int32))⟩) (rfl : _ = (Value.int (66 : Int32)))) (g := (mkF m 39 #[sR a1, sR aK, sR aM, sI (4 : Int32), sI (1 : Int32), sI (69 : Int32)] [(Value.int (1 : Int32)), (Value.ref aM)])) rfl rfl (hb hby d1_39) _ kq) ?_
  refine own_Go.by (fun tq kq => XS.istore X15.here hx rfl (hb hby d1_40) rfl (l' := #[sR a1, sR aK, sR aM, sI (4 : Int32), sI (1 : Int32), sI (66 : Int32)]) rfl kq) ?_
  refine own_Go.by (fun tq kq => XS.aloadN X15.here hx rfl (hb hby d1_42) rfl rfl kq) ?_
  refine own_Go.by (fun tq kq => XS.iload X15.here hx rfl (hb hby d1_43) rfl kq) ?_
  show own_Go _ _ _ _ (T15.setTop (mkF m 45 #[sR a1, sR aK, sR aM, sI (4 : Int32), sI (1 : Int32), sI (66 : Int32)] [(Value.int (66 : Int32)), (Value.ref a1)]))
  obtain ⟨cq22, q22, q22'⟩ := p15_0.cell
  obtain ⟨_, _, ⟨T22, L22, k22, n22⟩, -, X22, ⟨Lc22, hQ22, l22, y22, z22⟩, st22⟩ := X15.privateBack hx (y := (⟨"com/example/ebbtide/ebbtide/core/Encoder", "put", "(B)V"⟩ : MethodName)) hown9 (mvT hZ9 (hw _ (List.mem_of_getElem? (i := 30) rfl))) (mvT hZ9 (hw _ (List.mem_of_getElem? (i := 31) rfl))) (own_privsel (mvT hZ9 (hw _ (List.mem_of_getElem? (i := 7) rfl)) (args := #[])) (mvP hZ9 (hw _ (List.mem_of_getElem? (i := 32) rfl)) (args := #[])) (mvT hZ9 (hw _ (List.mem_of_getElem? (i := 31) rfl))) (by decide)) (Cond.privateMethod_at (mvP hZ9 (hw _ (List.mem_of_getElem? (i := 32) rfl)) (args := #[]))) (mvT hZ9 (hw _ (List.mem_of_getElem? (i := 33) rfl))) (by decide) (backOf (W := 0) (rm4 l Z a0 hw [] a1 ob2 k2 ((List.replicate 256 (Value.int (0 : Int32))).set 0 (Value.int (69 : Int32))) (1 : Int32) (66 : Int32) 1 T15.heap n0 O20 p15_0 p15_1 p15_2 p15_3 H1 g4 (Nat.ne_of_lt (Nat.lt_of_lt_of_le H0.lt (Nat.le_of_eq y2.symm))) (by decide : ¬ ((2147483639 : Int64) < (((1 : Int32).toInt64) + ((1 : Int32).toInt64)))) (by decide : ¬ (((256 : Int32).toInt64) < (((1 : Int32).toInt64) + ((1 : Int32).toInt64)))) (by decide : ¬ ((1 : Int32) < (0 : Int32)) ∧ (1 : Int32) < (256 : Int32)) (rfl : (1 : Int32).toNatClampNeg = 1) (Nat.le_of_ble_eq_true rfl : 1 < ((List.replicate 256 (Value.int (0 : Int32))).set 0 (Value.int (69 : Int32))).length) (by decide : (66 : Int32).toInt8.toInt32 = (66 : Int32))) hZ9 (hw _ (List.mem_of_getElem? (i := 33) rfl)) (hw _ (List.mem_of_getElem? (i := 8) rfl)) (by decide) (by decide)) (g := (mkF m 45 #[sR a1, sR aK, sR aM, sI (4 : Int32), sI (1 : Int32), sI (66 : Int32)] [(Value.int (66 : Int32)), (Value.ref a1)])) rfl (by rw [hml]; rfl) (Steps.refl _) (a := a1) q22 q22' (argsL := [(Value.int (66 : Int32))]) (rest := []) (lenOf own_pd1 rfl) rfl (by show 2 * 0 + _ ≤ _; exact Nat.le_of_eq rfl) (hb hby d1_45) (fun _ _ => ⟨rfl, rfl, (by decide : 3 + 0 ≤ _), (by decide : 308 + 0 ≤ _)⟩)
  dsimp only [Pt.U, Pt.locs, Pt.cells, Pt.slots] at X22 l22 y22 z22 st22 hQ22
  subst l22 y22 z22
  refine own_Go.by (fun tq kq => st22.trans kq) ?_
  obtain ⟨rfl, N22q, K22q, p22_0, p22_1, p22_2, p22_3⟩ := hQ22
  have N22 := Fr.app N15 N22q
  have O23 := O20.keep K22q (allS H1 (allS g4 all0))
  have K23 := K20.trans K22q (allS (Or.inl (List.mem_of_getElem? (i := 0) rfl)) (allS (Or.inr z4) all0))
  have hk_23 := Nat.le_trans hk_20 K22q.1
  show own_Go _ _ _ _ (T22.setTop (mkF m 48 #[sR a1, sR aK, sR aM, sI (4 : Int32), sI (1 : Int32), sI (66 : Int32)] []))
  refine own_Go.by (fun tq kq => XS.iinc X22.here hx rfl (hb hby d1_48) rfl (l' := #[sR a1, sR aK, sR aM, sI (4 : Int32), sI (2 : Int32), sI (66 : Int32)]) rfl kq) ?_
  refine own_Go.by (fun tq kq => XS.goto X22.here hx rfl (pc0 := 51) (pc' := 30) rfl (hb hby d1_51) (by decide) (by decide) kq) ?_
  refine own_Go.by (fun tq kq => XS.iload X22.here hx rfl (hb hby d1_30) rfl kq) ?_
  refine own_Go.by (fun tq kq => XS.iloadN X22.here hx rfl (hb hby d1_32) rfl kq) ?_
  show own_Go _ _ _ _ (T22.setTop (mkF m 33 #[sR a1, sR aK, sR aM, sI (4 : Int32), sI (2 : Int32), sI (66 : Int32)] [(Value.int (4 : Int32)), (Value.int (2 : Int32))]))
  refine own_Go.by (fun tq kq => XS.icmpNo X22.here hx rfl (hb hby d1_33) rfl (tlt (by decide : (2 : Int32) < (4 : Int32))).2.1 kq) ?_
  refine own_Go.by (fun tq kq => XS.aloadN X22.here hx rfl (hb hby d1_36) rfl rfl kq) ?_
  refine own_Go.by (fun tq kq => XS.iload X22.here hx rfl (hb hby d1_37) rfl kq) ?_
  show own_Go _ _ _ _ (T22.setTop (mkF m 39 #[sR a1, sR aK, sR aM, sI (4 : Int32), sI (2 : Int32), sI (66 : Int32)] [(Value.int (2 : Int32)), (Value.ref aM)]))
  obtain ⟨cl24, Ar24, q24, S24, M24, Hh24, G24⟩ := id (H5.ext O23.2)
  refine own_Go.by (fun tq kq => X22.baloadBytes hx (j := (2 : Int32)) (v := (Value.int (66 : Int32))) Ar24.1 (State.isArrayOf_alike hZ9.alike Ar24.2.1) Ar24.2.2 (inb_of S24 ⟨(by decide : ¬ ((2 : Int32) < (0 : Int32))), (by decide : (2 : Int32) < (4 : Int32))⟩) (Has.at Hh24 (inb_of S24 ⟨(by decide : ¬ ((2 : Int32) < (0 : Int32))), (by decide : (2 : Int32) < (4 : Int32))⟩) (rfl : _ = (Value.int (66 : Int32)))) (g := (mkF m 39 #[sR a1, sR aK, sR aM, sI (4 : Int32), sI (2 : Int32), sI (66 : Int32)] [(Value.int (2 : Int32)), (Value.ref aM)])) rfl rfl (hb hby d1_39) _ kq) ?_
  refine own_Go.by (fun tq kq => XS.istore X22.here hx rfl (hb hby d1_40) rfl (l' := #[sR a1, sR aK, sR aM, sI (4 : Int32), sI (2 : Int32), sI (66 : Int32)]) rfl kq) ?_
  refine own_Go.by (fun tq kq => XS.aloadN X22.here hx rfl (hb hby d1_42) rfl rfl kq) ?_
  refine own_Go.by (fun tq kq => XS.iload X22.here hx rfl (hb hby d1_43) rfl kq) ?_
  show own_Go _ _ _ _ (T22.setTop (mkF m 45 #[sR a1, sR aK, sR aM, sI (4 : Int32), sI (2 : Int32), sI (66 : Int32)] [(Value.int (66 : Int32)), (Value.ref a1)]))
  obtain ⟨cq25, q25, q25'⟩ := p22_0.cell
  obtain ⟨_, _, ⟨T25, L25, k25, n25⟩, -, X25, ⟨Lc25, hQ25, l25, y25, z25⟩, st25⟩ := X22.privateBack hx (y := (⟨"com/example/ebbtide/ebbtide/core/Encoder", "put", "(B)V"⟩ : MethodName)) hown9 (mvT hZ9 (hw _ (List.mem_of_getElem? (i := 30) rfl))) (mvT hZ9 (hw _ (List.mem_of_getElem? (i := 31) rfl))) (own_privsel (mvT hZ9 (hw _ (List.mem_of_getElem? (i := 7) rfl)) (args := #[])) (mvP hZ9 (hw _ (List.mem_of_getElem? (i := 32) rfl)) (args := #[])) (mvT hZ9 (hw _ (List.mem_of_getElem? (i := 31) rfl))) (by decide)) (Cond.privateMethod_at (mvP hZ9 (hw _ (List.mem_of_getElem? (i := 32) rfl)) (args := #[]))) (mvT hZ9 (hw _ (List.mem_of_getElem? (i := 33) rfl))) (by decide) (backOf (W := 0) (rm4 l Z a0 hw [] a1 ob2 k2 (((List.replicate 256 (Value.int (0 : Int32))).set 0 (Value.int (69 : Int32))).set 1 (Value.int (66 : Int32))) (2 : Int32) (66 : Int32) 2 T22.heap n0 O23 p22_0 p22_1 p22_2 p22_3 H1 g4 (Nat.ne_of_lt (Nat.lt_of_lt_of_le H0.lt (Nat.le_of_eq y2.symm))) (by decide : ¬ ((2147483639 : Int64) < (((2 : Int32).toInt64) + ((1 : Int32).toInt64)))) (by decide : ¬ (((256 : Int32).toInt64) < (((2 : Int32).toInt64) + ((1 : Int32).toInt64)))) (by decide : ¬ ((2 : Int32) < (0 : Int32)) ∧ (2 : Int32) < (256 : Int32)) (rfl : (2 : Int32).toNatClampNeg = 2) (Nat.le_of_ble_eq_true rfl : 2 < (((List.replicate 256 (Value.int (0 : Int32))).set 0 (Value.int (69 : Int32))).set 1 (Value.int (66 : Int32))).length) (by decide : (66 : Int32).toInt8.toInt32 = (66 : Int32))) hZ9 (hw _ (List.mem_of_getElem? (i := 33) rfl)) (hw _ (List.mem_of_getElem? (i := 8) rfl)) (by decide) (by decide)) (g := (mkF m 45 #[sR a1, sR aK, sR aM, sI (4 : Int32), sI (2 : Int32), sI (66 : Int32)] [(Value.int (66 : Int32)), (Value.ref a1)])) rfl (by rw [hml]; rfl) (Steps.refl _) (a := a1) q25 q25' (argsL := [(Value.int (66 : Int32))]) (rest := []) (lenOf own_pd1 rfl) rfl (by show 2 * 0 + _ ≤ _; exact Nat.le_of_eq rfl) (hb hby d1_45) (fun _ _ => ⟨rfl, rfl, (by decide : 3 + 0 ≤ _), (by decide : 308 + 0 ≤ _)⟩)
  dsimp only [Pt.U, Pt.locs, Pt.cells, Pt.slots] at X25 l25 y25 z25 st25 hQ25
  subst l25 y25 z25
  refine own_Go.by (fun tq kq => st25.trans kq) ?_
  obtain ⟨rfl, N25q, K25q, p25_0, p25_1, p25_2, p25_3⟩ := hQ25
  have N25 := Fr.app N22 N25q
  have O26 := O23.keep K25q (allS H1 (allS g4 all0))
  have K26 := K23.trans K25q (allS (Or.inl (List.mem_of_getElem? (i := 0) rfl)) (allS (Or.inr z4) all0))
  have hk_26 := Nat.le_trans hk_23 K25q.1
  show own_Go _ _ _ _ (T25.setTop (mkF m 48 #[sR a1, sR aK, sR aM, sI (4 : Int32), sI (2 : Int32), sI (66 : Int32)] []))
  refine own_Go.by (fun tq kq => XS.iinc X25.here hx rfl (hb hby d1_48) rfl (l' := #[sR a1, sR aK, sR aM, sI (4 : Int32), sI (3 : Int32), sI (66 : Int32)]) rfl kq) ?_
  refine own_Go.by (fun tq kq => XS.goto X25.here hx rfl (pc0 := 51) (pc' := 30) rfl (hb hby d1_51) (by decide) (by decide) kq) ?_
  refine own_Go.by (fun tq kq => XS.iload X25.here hx rfl (hb hby d1_30) rfl kq) ?_
  refine own_Go.by (fun tq kq => XS.iloadN X25.here hx rfl (hb hby d1_32) rfl kq) ?_
  show own_Go _ _ _ _ (T25.setTop (mkF m 33 #[sR a1, sR aK, sR aM, sI (4 : Int32), sI (3 : Int32), sI (66 : Int32)] [(Value.int (4 : Int32)), (Value.int (3 : Int32))]))
  refine own_Go.by (fun tq kq => XS.icmpNo X25.here hx rfl (hb hby d1_33) rfl (tlt (by decide : (3 : Int32) < (4 : Int32))).2.1 kq) ?_
  refine own_Go.by (fun tq kq => XS.aloadN X25.here hx rfl (hb hby d1_36) rfl rfl kq) ?_
  refine own_Go.by (fun tq kq => XS.iload X25.here hx rfl (hb hby d1_37) rfl kq) ?_
  show own_Go _ _ _ _ (T25.setTop (mkF m 39 #[sR a1, sR aK, sR aM, sI (4 : Int32), sI (3 : Int32), sI (66 : Int32)] [(Value.int (3 : Int32)), (Value.ref aM)]))
  obtain ⟨cl27, Ar27, q27, S27, M27, Hh27, G27⟩ := id (H5.ext O26.2)
  refine own_Go.by (fun tq kq => X25.baloadBytes hx (j := (3 : Int32)) (v := (Value.int (84 : Int32))) Ar27.1 (State.isArrayOf_alike hZ9.alike Ar27.2.1) Ar27.2.2 (inb_of S27 ⟨(by decide : ¬ ((3 : Int32) < (0 : Int32))), (by decide : (3 : Int32) < (4 : Int32))⟩) (Has.at Hh27 (inb_of S27 ⟨(by decide : ¬ ((3 : Int32) < (0 : Int32))), (by decide : (3 : Int32) < (4 : Int32))⟩) (rfl : _ = (Value.int (84 : Int32)))) (g := (mkF m 39 #[sR a1, sR aK, sR aM, sI (4 : Int32), sI (3 : Int32), sI (66 : Int32)] [(Value.int (3 : Int32)), (Value.ref aM)])) rfl rfl (hb hby d1_39) _ kq) ?_
  refine own_Go.by (fun tq kq => XS.istore X25.here hx rfl (hb hby d1_40) rfl (l' := #[sR a1, sR aK, sR aM, sI (4 : Int32), sI (3 : Int32), sI (84 : Int32)]) rfl kq) ?_
  refine own_Go.by (fun tq kq => XS.aloadN X25.here hx rfl (hb hby d1_42) rfl rfl kq) ?_
  refine own_Go.by (fun tq kq => XS.iload X25.here hx rfl (hb hby d1_43) rfl kq) ?_
  show own_Go _ _ _ _ (T25.setTop (mkF m 45 #[sR a1, sR aK, sR aM, sI (4 : Int32), sI (3 : Int32), sI (84 : Int32)] [(Value.int (84 : Int32)), (Value.ref a1)]))
  obtain ⟨cq28, q28, q28'⟩ := p25_0.cell
  obtain ⟨_, _, ⟨T28, L28, k28, n28⟩, -, X28, ⟨Lc28, hQ28, l28, y28, z28⟩, st28⟩ := X25.privateBack hx (y := (⟨"com/example/ebbtide/ebbtide/core/Encoder", "put", "(B)V"⟩ : MethodName)) hown9 (mvT hZ9 (hw _ (List.mem_of_getElem? (i := 30) rfl))) (mvT hZ9 (hw _ (List.mem_of_getElem? (i := 31) rfl))) (own_privsel (mvT hZ9 (hw _ (List.mem_of_getElem? (i := 7) rfl)) (args := #[])) (mvP hZ9 (hw _ (List.mem_of_getElem? (i := 32) rfl)) (args := #[])) (mvT hZ9 (hw _ (List.mem_of_getElem? (i := 31) rfl))) (by decide)) (Cond.privateMethod_at (mvP hZ9 (hw _ (List.mem_of_getElem? (i := 32) rfl)) (args := #[]))) (mvT hZ9 (hw _ (List.mem_of_getElem? (i := 33) rfl))) (by decide) (backOf (W := 0) (rm4 l Z a0 hw [] a1 ob2 k2 ((((List.replicate 256 (Value.int (0 : Int32))).set 0 (Value.int (69 : Int32))).set 1 (Value.int (66 : Int32))).set 2 (Value.int (66 : Int32))) (3 : Int32) (84 : Int32) 3 T25.heap n0 O26 p25_0 p25_1 p25_2 p25_3 H1 g4 (Nat.ne_of_lt (Nat.lt_of_lt_of_le H0.lt (Nat.le_of_eq y2.symm))) (by decide : ¬ ((2147483639 : Int64) < (((3 : Int32).toInt64) + ((1 : Int32).toInt64)))) (by decide : ¬ (((256 : Int32).toInt64) < (((3 : Int32).toInt64) + ((1 : Int32).toInt64)))) (by decide : ¬ ((3 : Int32) < (0 : Int32)) ∧ (3 : Int32) < (256 : Int32)) (rfl : (3 : Int32).toNatClampNeg = 3) (Nat.le_of_ble_eq_true rfl : 3 < ((((List.replicate 256 (Value.int (0 : Int32))).set 0 (Value.int (69 : Int32))).set 1 (Value.int (66 : Int32))).set 2 (Value.int (66 : Int32))).length) (by decide : (84 : Int32).toInt8.toInt32 = (84 : Int32))) hZ9 (hw _ (List.mem_of_getElem? (i := 33) rfl)) (hw _ (List.mem_of_getElem? (i := 8) rfl)) (by decide) (by decide)) (g := (mkF m 45 #[sR a1, sR aK, sR aM, sI (4 : Int32), sI (3 : Int32), sI (84 : Int32)] [(Value.int (84 : Int32)), (Value.ref a1)])) rfl (by rw [hml]; rfl) (Steps.refl _) (a := a1) q28 q28' (argsL := [(Value.int (84 : Int32))]) (rest := []) (lenOf own_pd1 rfl) rfl (by show 2 * 0 + _ ≤ _; exact Nat.le_of_eq rfl) (hb hby d1_45) (fun _ _ => ⟨rfl, rfl, (by decide : 3 + 0 ≤ _), (by decide : 308 + 0 ≤ _)⟩)
  dsimp only [Pt.U, Pt.locs, Pt.cells, Pt.slots] at X28 l28 y28 z28 st28 hQ28
  subst l28 y28 z28
  refine own_Go.by (fun tq kq => st28.trans kq) ?_
  obtain ⟨rfl, N28q, K28q, p28_0, p28_1, p28_2, p28_3⟩ := hQ28
  have N28 := Fr.app N25 N28q
  have O29 := O26.keep K28q (allS H1 (allS g4 all0))
  have K29 := K26.trans K28q (allS (Or.inl (List.mem_of_getElem? (i := 0) rfl)) (allS (Or.inr z4) all0))
  have hk_29 := Nat.le_trans hk_26 K28q.1
  show own_Go _ _ _ _ (T28.setTop (mkF m 48 #[sR a1, sR aK, sR aM, sI (4 : Int32), sI (3 : Int32), sI (84 : Int32)] []))
  refine own_Go.by (fun tq kq => XS.iinc X28.here hx rfl (hb hby d1_48) rfl (l' := #[sR a1, sR aK, sR aM, sI (4 : Int32), sI (4 : Int32), sI (84 : Int32)]) rfl kq) ?_
  refine own_Go.by (fun tq kq => XS.goto X28.here hx rfl (pc0 := 51) (pc' := 30) rfl (hb hby d1_51) (by decide) (by decide) kq) ?_
  refine own_Go.by (fun tq kq => XS.iload X28.here hx rfl (hb hby d1_30) rfl kq) ?_
  refine own_Go.by (fun tq kq => XS.iloadN X28.here hx rfl (hb hby d1_32) rfl kq) ?_
  show own_Go _ _ _ _ (T28.setTop (mkF m 33 #[sR a1, sR aK, sR aM, sI (4 : Int32), sI (4 : Int32), sI (84 : Int32)] [(Value.int (4 : Int32)), (Value.int (4 : Int32))]))
  refine own_Go.by (fun tq kq => XS.icmpYes X28.here hx rfl (pc0 := 33) (pc' := 54) rfl (hb hby d1_33) rfl (flt (by decide : ¬ ((4 : Int32) < (4 : Int32)))).2.1 (by decide) (by decide) kq) ?_
  refine own_Go.by (fun tq kq => XS.aloadN X28.here hx rfl (hb hby d1_54) rfl rfl kq) ?_
  show own_Go _ _ _ _ (T28.setTop (mkF m 55 #[sR a1, sR aK, sR aM, sI (4 : Int32), sI (4 : Int32), sI (84 : Int32)] [(Value.ref a1)]))
  refine own_Go.by (fun tq kq => X28.ldc2Long hx hown9 (mvT hZ9 (hw _ (List.mem_of_getElem? (i := 41) rfl))) (g := (mkF m 55 #[sR a1, sR aK, sR aM, sI (4 : Int32), sI (4 : Int32), sI (84 : Int32)] [(Value.ref a1)])) rfl (hb hby d1_55) _ kq) ?_
  show own_Go _ _ _ _ (T28.setTop (mkF m 58 #[sR a1, sR aK, sR aM, sI (4 : Int32), sI (4 : Int32), sI (84 : Int32)] [(Value.long (3 : Int64)), (Value.ref a1)]))
  obtain ⟨cq30, kq30, q30a, q30b, q30c⟩ := isOf hZ9 rfl p28_0
  obtain ⟨_, _, ⟨T30, L30, k30, n30⟩, -, X30, ⟨Lc30, hQ30, l30, y30, z30⟩, st30⟩ := X28.virtualBack hx (y := (⟨"com/example/ebbtide/ebbtide/core/Encoder", "unsigned", "(J)V"⟩ : MethodName)) (z := (⟨"com/example/ebbtide/ebbtide/core/Encoder", "unsigned", "(J)V"⟩ : MethodName)) hown9 (mvT hZ9 (hw _ (List.mem_of_getElem? (i := 42) rfl))) (mvT hZ9 (hw _ (List.mem_of_getElem? (i := 43) rfl))) (notFace_of_selects (args := #[]) (mvT hZ9 (hw _ (List.mem_of_getElem? (i := 45) rfl)))) (mvT hZ9 (hw _ (List.mem_of_getElem? (i := 45) rfl))) (mvT hZ9 (hw _ (List.mem_of_getElem? (i := 44) rfl))) (by decide) (backOf (W := 0) (rm6_1 l Z a0 hw [] a1 ob2 k2 (((((List.replicate 256 (Value.int (0 : Int32))).set 0 (Value.int (69 : Int32))).set 1 (Value.int (66 : Int32))).set 2 (Value.int (66 : Int32))).set 3 (Value.int (84 : Int32))) (4 : Int32) (3 : Int64) 4 T28.heap n0 O29 p28_0 p28_1 p28_2 p28_3 H1 g4 (Nat.ne_of_lt (Nat.lt_of_lt_of_le H0.lt (Nat.le_of_eq y2.symm))) (by decide : ¬ ((2147483639 : Int64) < (((4 : Int32).toInt64) + ((1 : Int32).toInt64)))) (by decide : ¬ (((256 : Int32).toInt64) < (((4 : Int32).toInt64) + ((1 : Int32).toInt64)))) (by decide : ¬ ((4 : Int32) < (0 : Int32)) ∧ (4 : Int32) < (256 : Int32)) (rfl : (4 : Int32).toNatClampNeg = 4) (Nat.le_of_ble_eq_true rfl : 4 < (((((List.replicate 256 (Value.int (0 : Int32))).set 0 (Value.int (69 : Int32))).set 1 (Value.int (66 : Int32))).set 2 (Value.int (66 : Int32))).set 3 (Value.int (84 : Int32))).length) (by decide : ((3 : Int64) &&& (-128 : Int64)) = (0 : Int64))) hZ9 (hw _ (List.mem_of_getElem? (i := 46) rfl)) (hw _ (List.mem_of_getElem? (i := 8) rfl)) (by decide) (by decide)) q30a q30c (g := (mkF m 58 #[sR a1, sR aK, sR aM, sI (4 : Int32), sI (4 : Int32), sI (84 : Int32)] [(Value.long (3 : Int64)), (Value.ref a1)])) rfl (by rw [hml]; rfl) (Steps.refl _) (argsL := [(Value.long (3 : Int64))]) (rest := []) (lenOf own_pd5 rfl) rfl (by show 2 * 0 + _ ≤ _; exact Nat.le_of_eq rfl) (hb hby d1_58) (fun _ _ => ⟨rfl, rfl, (by decide : 3 + 0 ≤ _), (by decide : 308 + 0 ≤ _)⟩)
  dsimp only [Pt.U, Pt.locs, Pt.cells, Pt.slots] at X30 l30 y30 z30 st30 hQ30
  subst l30 y30 z30
  refine own_Go.by (fun tq kq => st30.trans kq) ?_
  obtain ⟨rfl, N30q, K30q, p30_0, p30_1, p30_2, p30_3⟩ := hQ30
  have N30 := Fr.app N28 N30q
  have O31 := O29.keep K30q (allS H1 (allS g4 all0))
  have K31 := K29.trans K30q (allS (Or.inl (List.mem_of_getElem? (i := 0) rfl)) (allS (Or.inr z4) all0))
  have hk_31 := Nat.le_trans hk_29 K30q.1
  refine own_Go.by (fun tq kq => XS.aloadN X30.here hx rfl (hb hby d1_61) rfl rfl kq) ?_
  refine own_Go.by (fun tq kq => XS.aloadN X30.here hx rfl (hb hby d1_62) rfl rfl kq) ?_
  show own_Go _ _ _ _ (T30.setTop (mkF m 63 #[sR a1, sR aK, sR aM, sI (4 : Int32), sI (4 : Int32), sI (84 : Int32)] [(Value.ref aK), (Value.ref a1)]))
  obtain ⟨cq32, kq32, q32a, q32b, q32c⟩ := isOf hZ9 rfl (H6.ext O31.2)
  obtain ⟨_, _, ⟨T32, L32, k32, n32⟩, -, X32, ⟨Lc32, hQ32, l32, y32, z32⟩, st32⟩ := X30.virtualBack hx (y := (⟨"com/example/ebbtide/ebbtide/core/SummaryKind", "code", "()I"⟩ : MethodName)) (z := (⟨"com/example/ebbtide/ebbtide/core/SummaryKind", "code", "()I"⟩ : MethodName)) hown9 (mvT hZ9 (hw _ (List.mem_of_getElem? (i := 48) rfl))) (mvT hZ9 (hw _ (List.mem_of_getElem? (i := 49) rfl))) (notFace_of_selects (args := #[]) (mvT hZ9 (hw _ (List.mem_of_getElem? (i := 51) rfl)))) (mvT hZ9 (hw _ (List.mem_of_getElem? (i := 51) rfl))) (mvT hZ9 (hw _ (List.mem_of_getElem? (i := 50) rfl))) (by decide) (backOf (W := 1) (rm7 l Z a0 hw [] aK cd T30.heap n0 O31 (H7.ext O31.2)) hZ9 (hw _ (List.mem_of_getElem? (i := 52) rfl)) (hw _ (List.mem_of_getElem? (i := 2) rfl)) (by decide) (by decide)) q32a q32c (g := (mkF m 63 #[sR a1, sR aK, sR aM, sI (4 : Int32), sI (4 : Int32), sI (84 : Int32)] [(Value.ref aK), (Value.ref a1)])) rfl (by rw [hml]; rfl) (Steps.refl _) (argsL := []) (rest := [(Value.ref a1)]) (lenOf own_pd6 rfl) rfl (by show 2 * 0 + _ ≤ _; exact Nat.le_of_eq rfl) (hb hby d1_63) (fun _ _ => ⟨rfl, rfl, (by decide : 3 + 0 ≤ _), (by decide : 308 + 0 ≤ _)⟩)
  dsimp only [Pt.U, Pt.locs, Pt.cells, Pt.slots] at X32 l32 y32 z32 st32 hQ32
  subst l32 y32 z32
  refine own_Go.by (fun tq kq => st32.trans kq) ?_
  obtain ⟨rfl, N32q, e32⟩ := hQ32
  have N32 := Fr.app N30 N32q
  refine own_Go.by (fun tq kq => XS.i2l X32.here hx rfl (hb hby d1_66) rfl kq) ?_
  show own_Go _ _ _ _ (T32.setTop (mkF m 67 #[sR a1, sR aK, sR aM, sI (4 : Int32), sI (4 : Int32), sI (84 : Int32)] [(Value.long (cd.toInt64)), (Value.ref a1)]))
  obtain ⟨cq33, kq33, q33a, q33b, q33c⟩ := isOf hZ9 e32 p30_0
  obtain ⟨_, _, ⟨T33, L33, k33, n33⟩, -, X33, ⟨Lc33, hQ33, l33, y33, z33⟩, st33⟩ := X32.virtualBack hx (y := (⟨"com/example/ebbtide/ebbtide/core/Encoder", "unsigned", "(J)V"⟩ : MethodName)) (z := (⟨"com/example/ebbtide/ebbtide/core/Encoder", "unsigned", "(J)V"⟩ : MethodName)) hown9 (mvT hZ9 (hw _ (List.mem_of_getElem? (i := 42) rfl))) (mvT hZ9 (hw _ (List.mem_of_getElem? (i := 43) rfl))) (notFace_of_selects (args := #[]) (mvT hZ9 (hw _ (List.mem_of_getElem? (i := 45) rfl)))) (mvT hZ9 (hw _ (List.mem_of_getElem? (i := 45) rfl))) (mvT hZ9 (hw _ (List.mem_of_getElem? (i := 44) rfl))) (by decide) (backOf (W := 0) (rm6_1 l Z a0 hw [] a1 ob2 k2 ((((((List.replicate 256 (Value.int (0 : Int32))).set 0 (Value.int (69 : Int32))).set 1 (Value.int (66 : Int32))).set 2 (Value.int (66 : Int32))).set 3 (Value.int (84 : Int32))).set 4 (Value.int (((3 : Int64).toInt32).toInt8.toInt32))) (5 : Int32) (cd.toInt64) 5 T30.heap n0 O31 p30_0 p30_1 p30_2 p30_3 H1 g4 (Nat.ne_of_lt (Nat.lt_of_lt_of_le H0.lt (Nat.le_of_eq y2.symm))) (by decide : ¬ ((2147483639 : Int64) < (((5 : Int32).toInt64) + ((1 : Int32).toInt64)))) (by decide : ¬ (((256 : Int32).toInt64) < (((5 : Int32).toInt64) + ((1 : Int32).toInt64)))) (by decide : ¬ ((5 : Int32) < (0 : Int32)) ∧ (5 : Int32) < (256 : Int32)) (rfl : (5 : Int32).toNatClampNeg = 5) (Nat.le_of_ble_eq_true rfl : 5 < ((((((List.replicate 256 (Value.int (0 : Int32))).set 0 (Value.int (69 : Int32))).set 1 (Value.int (66 : Int32))).set 2 (Value.int (66 : Int32))).set 3 (Value.int (84 : Int32))).set 4 (Value.int (((3 : Int64).toInt32).toInt8.toInt32))).length) (hc0 : ((cd.toInt64) &&& (-128 : Int64)) = (0 : Int64))) hZ9 (hw _ (List.mem_of_getElem? (i := 46) rfl)) (hw _ (List.mem_of_getElem? (i := 8) rfl)) (by decide) (by decide)) q33a q33c (g := (mkF m 67 #[sR a1, sR aK, sR aM, sI (4 : Int32), sI (4 : Int32), sI (84 : Int32)] [(Value.long (cd.toInt64)), (Value.ref a1)])) rfl (by rw [hml]; rfl) (Steps.refl _) (argsL := [(Value.long (cd.toInt64))]) (rest := []) (lenOf own_pd5 rfl) rfl (by show 2 * 0 + _ ≤ _; exact Nat.le_of_eq rfl) (hb hby d1_67) (fun _ _ => ⟨rfl, e32, (by decide : 3 + 0 ≤ _), (by decide : 308 + 0 ≤ _)⟩)
  dsimp only [Pt.U, Pt.locs, Pt.cells, Pt.slots] at X33 l33 y33 z33 st33 hQ33
  subst l33 y33 z33
  refine own_Go.by (fun tq kq => st33.trans kq) ?_
  obtain ⟨rfl, N33q, K33q, p33_0, p33_1, p33_2, p33_3⟩ := hQ33
  have N33 := Fr.app N32 N33q
  have O34 := O31.keep K33q (allS H1 (allS g4 all0))
  have K34 := K31.trans K33q (allS (Or.inl (List.mem_of_getElem? (i := 0) rfl)) (allS (Or.inr z4) all0))
  have hk_34 := Nat.le_trans hk_31 K33q.1
  show own_Go _ _ _ _ (T33.setTop (mkF m 70 #[sR a1, sR aK, sR aM, sI (4 : Int32), sI (4 : Int32), sI (84 : Int32)] []))
  obtain ⟨fs, hr, hrun, hended, hRE⟩ := Stand.leaveW (s := s) (vm₁ := T9.vm) X33 hS9 hk_34 (v := none) (fun _ => rfl)
  refine own_Go.fin (X33.returnOut hx Bd.returns (hb hby d1_70) hr) ⟨hrun, hended, _, _, rfl, ?_, own_rew hRE (by decide) (by decide)⟩
  show Q1 Z a1 aK cd aM kM h0 n0 _ T33.heap _
  exact ⟨ob2, k2, rfl, N33, K34, z4, p33_0, p33_1, p33_2, (by have q := p33_3; rw [hc1] at q; exact q)⟩

theorem d11_0 : decode method_3_code 0 = .ok (.aload_n 0, 1) := by decide +kernel
theorem d11_1 : decode method_3_code 1 = .ok (.arraylength, 1) := by decide +kernel
theorem d11_2 : decode method_3_code 2 = .ok (.bipush 6, 2) := by decide +kernel
theorem d11_4 : decode method_3_code 4 = .ok (.if_icmp .lt 53, 3) := by decide +kernel
theorem d11_7 : decode method_3_code 7 = .ok (.aload_n 0, 1) := by decide +kernel
theorem d11_8 : decode method_3_code 8 = .ok (.iconst 0, 1) := by decide +kernel
theorem d11_9 : decode method_3_code 9 = .ok (.baload, 1) := by decide +kernel
theorem d11_10 : decode method_3_code 10 = .ok (.bipush 69, 2) := by decide +kernel
theorem d11_12 : decode method_3_code 12 = .ok (.if_icmp .ne 45, 3) := by decide +kernel
theorem d11_15 : decode method_3_code 15 = .ok (.aload_n 0, 1) := by decide +kernel
theorem d11_16 : decode method_3_code 16 = .ok (.iconst 1, 1) := by decide +kernel
theorem d11_17 : decode method_3_code 17 = .ok (.baload, 1) := by decide +kernel
theorem d11_18 : decode method_3_code 18 = .ok (.bipush 66, 2) := by decide +kernel
theorem d11_20 : decode method_3_code 20 = .ok (.if_icmp .ne 37, 3) := by decide +kernel
theorem d11_23 : decode method_3_code 23 = .ok (.aload_n 0, 1) := by decide +kernel
theorem d11_24 : decode method_3_code 24 = .ok (.iconst 2, 1) := by decide +kernel
theorem d11_25 : decode method_3_code 25 = .ok (.baload, 1) := by decide +kernel
theorem d11_26 : decode method_3_code 26 = .ok (.bipush 66, 2) := by decide +kernel
theorem d11_28 : decode method_3_code 28 = .ok (.if_icmp .ne 29, 3) := by decide +kernel
theorem d11_31 : decode method_3_code 31 = .ok (.aload_n 0, 1) := by decide +kernel
theorem d11_32 : decode method_3_code 32 = .ok (.iconst 3, 1) := by decide +kernel
theorem d11_33 : decode method_3_code 33 = .ok (.baload, 1) := by decide +kernel
theorem d11_34 : decode method_3_code 34 = .ok (.bipush 84, 2) := by decide +kernel
theorem d11_36 : decode method_3_code 36 = .ok (.if_icmp .ne 21, 3) := by decide +kernel
theorem d11_39 : decode method_3_code 39 = .ok (.aload_n 0, 1) := by decide +kernel
theorem d11_40 : decode method_3_code 40 = .ok (.iconst 4, 1) := by decide +kernel
theorem d11_41 : decode method_3_code 41 = .ok (.baload, 1) := by decide +kernel
theorem d11_42 : decode method_3_code 42 = .ok (.iconst 3, 1) := by decide +kernel
theorem d11_43 : decode method_3_code 43 = .ok (.if_icmp .ne 14, 3) := by decide +kernel
theorem d11_46 : decode method_3_code 46 = .ok (.aload_n 0, 1) := by decide +kernel
theorem d11_47 : decode method_3_code 47 = .ok (.iconst 5, 1) := by decide +kernel
theorem d11_48 : decode method_3_code 48 = .ok (.baload, 1) := by decide +kernel
theorem d11_49 : decode method_3_code 49 = .ok (.iload_n 1, 1) := by decide +kernel
theorem d11_50 : decode method_3_code 50 = .ok (.if_icmp .ne 7, 3) := by decide +kernel
theorem d11_53 : decode method_3_code 53 = .ok (.iconst 1, 1) := by decide +kernel
theorem d11_54 : decode method_3_code 54 = .ok (.goto 4, 3) := by decide +kernel
theorem d11_58 : decode method_3_code 58 = .ok (.ireturn, 1) := by decide +kernel
theorem own_pn_com_example_ebbtide_ebbtide_core_EncoderToByteArrayPinLaw : plainName "com/example/ebbtide/ebbtide/core/EncoderToByteArrayPinLaw" = true := by first | (simp [plainName, overriddenIn]; done) | decide +kernel
theorem own_ef_11 (m : MethodId) (a1 : Addr) (cd : Int32) : entryFrame m #[(Value.ref a1), (Value.int cd)] 2 = mkF m 0 #[sR a1, sI cd] [] := by first | (simp [entryFrame, mkF, argsToLocals, Value.category]; done) | rfl
def Q11 (Z : State) (a1 : Addr) (kB : ClassId) (nB : Int32) (vs : List Value) (cd : Int32) (h0 : Heap) (n0 : Nat) (v : Option Value) (h : Heap) (L : List Loc) : Prop := v = some (Value.int (1 : Int32)) ∧ Fr n0 L ∧ h = h0
set_option maxRecDepth 65536 in
set_option maxHeartbeats 40000000 in
theorem rm11 (l : Launch) (Z : State) (a0 : Array Value) (hw : ∀ d ∈ tables_1, d.before a0 Z = true) (ws : List Jvm.Cond) (a1 : Addr) (kB : ClassId) (nB : Int32) (vs : List Value) (cd : Int32) (h0 : Heap) (n0 : Nat) (O0 : Old Z n0 h0) (H0 : Arv Z h0 a1 kB .byte nB vs (Value.int (0 : Int32))) (hn6 : ¬ (nB < (6 : Int32))) (hb0 : ¬ ((0 : Int32) < (0 : Int32)) ∧ (0 : Int32) < nB) (hb1 : ¬ ((1 : Int32) < (0 : Int32)) ∧ (1 : Int32) < nB) (hb2 : ¬ ((2 : Int32) < (0 : Int32)) ∧ (2 : Int32) < nB) (hb3 : ¬ ((3 : Int32) < (0 : Int32)) ∧ (3 : Int32) < nB) (hb4 : ¬ ((4 : Int32) < (0 : Int32)) ∧ (4 : Int32) < nB) (hb5 : ¬ ((5 : Int32) < (0 : Int32)) ∧ (5 : Int32) < nB) (ht0 : vs.getD (0 : Int32).toNatClampNeg (Value.int (0 : Int32)) = (Value.int (69 : Int32))) (ht1 : vs.getD (1 : Int32).toNatClampNeg (Value.int (0 : Int32)) = (Value.int (66 : Int32))) (ht2 : vs.getD (2 : Int32).toNatClampNeg (Value.int (0 : Int32)) = (Value.int (66 : Int32))) (ht3 : vs.getD (3 : Int32).toNatClampNeg (Value.int (0 : Int32)) = (Value.int (84 : Int32))) (ht4 : vs.getD (4 : Int32).toNatClampNeg (Value.int (0 : Int32)) = (Value.int (3 : Int32))) (ht5 : vs.getD (5 : Int32).toNatClampNeg (Value.int (0 : Int32)) = (Value.int cd)) :
    MetFree l (⟨"com/example/ebbtide/ebbtide/core/EncoderToByteArrayPinLaw", "header", "([BI)Z"⟩ : MethodName) (head1 (Jvm.Cond.code (⟨"com/example/ebbtide/ebbtide/core/EncoderToByteArrayPinLaw", "header", "([BI)Z"⟩ : MethodName) method_3_code 2 (some .boolean) :: ws) ({ frames := 0, cells := 0, slots := 0, locals := 0 } : Room)) (fun a U => a = #[(Value.ref a1), (Value.int cd)] ∧ Z.Warmed39 U.vm ∧ U.heap = h0) (fun _ _ _ _ _ => True) (fun _ U o U' => ∃ v L, o = .returned v ∧ Q11 Z a1 kB nB vs cd h0 n0 v U'.heap L ∧ FrameEnd U o U' L ({ frames := 0, cells := 0, slots := 0, locals := 0 } : Room).cells ({ frames := 0, cells := 0, slots := 0, locals := 0 } : Room).slots) := by
  refine MetFree.of_bodySF (plainFor_of_name own_pn_com_example_ebbtide_ebbtide_core_EncoderToByteArrayPinLaw) hisR ?_
  intro p e s m args below meth c s₁ Bd hml0 hP hK
  obtain ⟨rfl, hZ, hh⟩ := hP
  have hx := Bd.exec
  have hby := Bd.bytes
  have hml : c.maxLocals = 2 := hml0
  have hown : s.vm.findClass "com/example/ebbtide/ebbtide/core/EncoderToByteArrayPinLaw" = some m.cls := findClass_of_methodNamed Bd.named
  have hnm := (name_of_methodNamed Bd.named Bd.method).1
  have X0 : Stand p l e ({ frames := 0, cells := 0, slots := 0, locals := 0 } : Room) s m #[(Value.ref a1), (Value.int cd)] below meth c s₁ [] 0 0 := Stand.of_body Bd
  have e0 : s₁.heap = h0 := by rw [← hh, Bd.state]; rfl
  have N0 := Fr.nil n0
  have K0 : Keep h0 h0 [] := Keep.refl h0 []
  show own_Go _ _ _ _ (s₁.setTop (entryFrame m #[(Value.ref a1), (Value.int cd)] 2))
  refine own_Go.by (fun tq kq => castTop (own_ef_11 m a1 cd) kq) ?_
  show own_Go _ _ _ _ (s₁.setTop (mkF m 0 #[sR a1, sI cd] []))
  refine own_Go.by (fun tq kq => XS.aloadN X0.here hx rfl (hb hby d11_0) rfl rfl kq) ?_
  show own_Go _ _ _ _ (s₁.setTop (mkF m 1 #[sR a1, sI cd] [(Value.ref a1)]))
  obtain ⟨cl1, Ar1, q1, S1, M1, Hh1, G1⟩ := id H0
  refine own_Go.by (fun tq kq => X0.arraylength hx (by rw [e0]; exact Ar1.1) (State.isArrayOf_alike hZ.alike Ar1.2.1) (g := (mkF m 1 #[sR a1, sI cd] [(Value.ref a1)])) rfl rfl (hb hby d11_1) _ kq) ?_
  rw [len_of S1 M1]
  refine own_Go.by (fun tq kq => XS.bipush X0.here hx rfl (hb hby d11_2) kq) ?_
  show own_Go _ _ _ _ (s₁.setTop (mkF m 4 #[sR a1, sI cd] [(Value.int (6 : Int32)), (Value.int nB)]))
  refine own_Go.by (fun tq kq => XS.icmpNo X0.here hx rfl (hb hby d11_4) rfl (flt hn6).1 kq) ?_
  refine own_Go.by (fun tq kq => XS.aloadN X0.here hx rfl (hb hby d11_7) rfl rfl kq) ?_
  refine own_Go.by (fun tq kq => XS.iconst X0.here hx rfl (hb hby d11_8) kq) ?_
  show own_Go _ _ _ _ (s₁.setTop (mkF m 9 #[sR a1, sI cd] [(Value.int (0 : Int32)), (Value.ref a1)]))
  obtain ⟨cl2, Ar2, q2, S2, M2, Hh2, G2⟩ := id H0
  refine own_Go.by (fun tq kq => X0.baloadBytes hx (j := (0 : Int32)) (v := (Value.int (69 : Int32))) (by rw [e0]; exact Ar2.1) (State.isArrayOf_alike hZ.alike Ar2.2.1) Ar2.2.2 (inb_of S2 hb0) (Has.at Hh2 (inb_of S2 hb0) ht0) (g := (mkF m 9 #[sR a1, sI cd] [(Value.int (0 : Int32)), (Value.ref a1)])) rfl rfl (hb hby d11_9) _ kq) ?_
  refine own_Go.by (fun tq kq => XS.bipush X0.here hx rfl (hb hby d11_10) kq) ?_
  show own_Go _ _ _ _ (s₁.setTop (mkF m 12 #[sR a1, sI cd] [(Value.int (69 : Int32)), (Value.int (69 : Int32))]))
  refine own_Go.by (fun tq kq => XS.icmpNo X0.here hx rfl (hb hby d11_12) rfl (teq (by decide : (69 : Int32) = (69 : Int32))).2 kq) ?_
  refine own_Go.by (fun tq kq => XS.aloadN X0.here hx rfl (hb hby d11_15) rfl rfl kq) ?_
  refine own_Go.by (fun tq kq => XS.iconst X0.here hx rfl (hb hby d11_16) kq) ?_
  show own_Go _ _ _ _ (s₁.setTop (mkF m 17 #[sR a1, sI cd] [(Value.int (1 : Int32)), (Value.ref a1)]))
  obtain ⟨cl3, Ar3, q3, S3, M3, Hh3, G3⟩ := id H0
  refine own_Go.by (fun tq kq => X0.baloadBytes hx (j := (1 : Int32)) (v := (Value.int (66 : Int32))) (by rw [e0]; exact Ar3.1) (State.isArrayOf_alike hZ.alike Ar3.2.1) Ar3.2.2 (inb_of S3 hb1) (Has.at Hh3 (inb_of S3 hb1) ht1) (g := (mkF m 17 #[sR a1, sI cd] [(Value.int (1 : Int32)), (Value.ref a1)])) rfl rfl (hb hby d11_17) _ kq) ?_
  refine own_Go.by (fun tq kq => XS.bipush X0.here hx rfl (hb hby d11_18) kq) ?_
  show own_Go _ _ _ _ (s₁.setTop (mkF m 20 #[sR a1, sI cd] [(Value.int (66 : Int32)), (Value.int (66 : Int32))]))
  refine own_Go.by (fun tq kq => XS.icmpNo X0.here hx rfl (hb hby d11_20) rfl (teq (by decide : (66 : Int32) = (66 : Int32))).2 kq) ?_
  refine own_Go.by (fun tq kq => XS.aloadN X0.here hx rfl (hb hby d11_23) rfl rfl kq) ?_
  refine own_Go.by (fun tq kq => XS.iconst X0.here hx rfl (hb hby d11_24) kq) ?_
  show own_Go _ _ _ _ (s₁.setTop (mkF m 25 #[sR a1, sI cd] [(Value.int (2 : Int32)), (Value.ref a1)]))
  obtain ⟨cl4, Ar4, q4, S4, M4, Hh4, G4⟩ := id H0
  refine own_Go.by (fun tq kq => X0.baloadBytes hx (j := (2 : Int32)) (v := (Value.int (66 : Int32))) (by rw [e0]; exact Ar4.1) (State.isArrayOf_alike hZ.alike Ar4.2.1) Ar4.2.2 (inb_of S4 hb2) (Has.at Hh4 (inb_of S4 hb2) ht2) (g := (mkF m 25 #[sR a1, sI cd] [(Value.int (2 : Int32)), (Value.ref a1)])) rfl rfl (hb hby d11_25) _ kq) ?_
  refine own_Go.by (fun tq kq => XS.bipush X0.here hx rfl (hb hby d11_26) kq) ?_
  show own_Go _ _ _ _ (s₁.setTop (mkF m 28 #[sR a1, sI cd] [(Value.int (66 : Int32)), (Value.int (66 : Int32))]))
  refine own_Go.by (fun tq kq => XS.icmpNo X0.here hx rfl (hb hby d11_28) rfl (teq (by decide : (66 : Int32) = (66 : Int32))).2 kq) ?_
  refine own_Go.by (fun tq kq => XS.aloadN X0.here hx rfl (hb hby d11_31) rfl rfl kq) ?_
  refine own_Go.by (fun tq kq => XS.iconst X0.here hx rfl (hb hby d11_32) kq) ?_
  show own_Go _ _ _ _ (s₁.setTop (mkF m 33 #[sR a1, sI cd] [(Value.int (3 : Int32)), (Value.ref a1)]))
  obtain ⟨cl5, Ar5, q5, S5, M5, Hh5, G5⟩ := id H0
  refine own_Go.by (fun tq kq => X0.baloadBytes hx (j := (3 : Int32)) (v := (Value.int (84 : Int32))) (by rw [e0]; exact Ar5.1) (State.isArrayOf_alike hZ.alike Ar5.2.1) Ar5.2.2 (inb_of S5 hb3) (Has.at Hh5 (inb_of S5 hb3) ht3) (g := (mkF m 33 #[sR a1, sI cd] [(Value.int (3 : Int32)), (Value.ref a1)])) rfl rfl (hb hby d11_33) _ kq) ?_
  refine own_Go.by (fun tq kq => XS.bipush X0.here hx rfl (hb hby d11_34) kq) ?_
  show own_Go _ _ _ _ (s₁.setTop (mkF m 36 #[sR a1, sI cd] [(Value.int (84 : Int32)), (Value.int (84 : Int32))]))
  refine own_Go.by (fun tq kq => XS.icmpNo X0.here hx rfl (hb hby d11_36) rfl (teq (by decide : (84 : Int32) = (84 : Int32))).2 kq) ?_
  refine own_Go.by (fun tq kq => XS.aloadN X0.here hx rfl (hb hby d11_39) rfl rfl kq) ?_
  refine own_Go.by (fun tq kq => XS.iconst X0.here hx rfl (hb hby d11_40) kq) ?_
  show own_Go _ _ _ _ (s₁.setTop (mkF m 41 #[sR a1, sI cd] [(Value.int (4 : Int32)), (Value.ref a1)]))
  obtain ⟨cl6, Ar6, q6, S6, M6, Hh6, G6⟩ := id H0
  refine own_Go.by (fun tq kq => X0.baloadBytes hx (j := (4 : Int32)) (v := (Value.int (3 : Int32))) (by rw [e0]; exact Ar6.1) (State.isArrayOf_alike hZ.alike Ar6.2.1) Ar6.2.2 (inb_of S6 hb4) (Has.at Hh6 (inb_of S6 hb4) ht4) (g := (mkF m 41 #[sR a1, sI cd] [(Value.int (4 : Int32)), (Value.ref a1)])) rfl rfl (hb hby d11_41) _ kq) ?_
  refine own_Go.by (fun tq kq => XS.iconst X0.here hx rfl (hb hby d11_42) kq) ?_
  show own_Go _ _ _ _ (s₁.setTop (mkF m 43 #[sR a1, sI cd] [(Value.int (3 : Int32)), (Value.int (3 : Int32))]))
  refine own_Go.by (fun tq kq => XS.icmpNo X0.here hx rfl (hb hby d11_43) rfl (teq (by decide : (3 : Int32) = (3 : Int32))).2 kq) ?_
  refine own_Go.by (fun tq kq => XS.aloadN X0.here hx rfl (hb hby d11_46) rfl rfl kq) ?_
  refine own_Go.by (fun tq kq => XS.iconst X0.here hx rfl (hb hby d11_47) kq) ?_
  show own_Go _ _ _ _ (s₁.setTop (mkF m 48 #[sR a1, sI cd] [(Value.int (5 : Int32)), (Value.ref a1)]))
  obtain ⟨cl7, Ar7, q7, S7, M7, Hh7, G7⟩ := id H0
  refine own_Go.by (fun tq kq => X0.baloadBytes hx (j := (5 : Int32)) (v := (Value.int cd)) (by rw [e0]; exact Ar7.1) (State.isArrayOf_alike hZ.alike Ar7.2.1) Ar7.2.2 (inb_of S7 hb5) (Has.at Hh7 (inb_of S7 hb5) ht5) (g := (mkF m 48 #[sR a1, sI cd] [(Value.int (5 : Int32)), (Value.ref a1)])) rfl rfl (hb hby d11_48) _ kq) ?_
  refine own_Go.by (fun tq kq => XS.iloadN X0.here hx rfl (hb hby d11_49) rfl kq) ?_
  show own_Go _ _ _ _ (s₁.setTop (mkF m 50 #[sR a1, sI cd] [(Value.int cd), (Value.int cd)]))
  refine own_Go.by (fun tq kq => XS.icmpNo X0.here hx rfl (hb hby d11_50) rfl (teq (rfl : cd = cd)).2 kq) ?_
  refine own_Go.by (fun tq kq => XS.iconst X0.here hx rfl (hb hby d11_53) kq) ?_
  refine own_Go.by (fun tq kq => XS.goto X0.here hx rfl (pc0 := 54) (pc' := 58) rfl (hb hby d11_54) (by decide) (by decide) kq) ?_
  show own_Go _ _ _ _ (s₁.setTop (mkF m 58 #[sR a1, sI cd] [(Value.int (1 : Int32))]))
  obtain ⟨fs, hr, hrun, hended, hW, hsame⟩ := X0.leave (v := some (Value.int (nar .boolean (1 : Int32)))) (fun h => by rw [Bd.returns] at h; cases h)
  refine own_Go.fin (retN X0 hx (t := .boolean) Bd.returns (by simp) (hb hby d11_58) hr) ⟨hrun, hended, _, _, rfl, ?_, ⟨_, rfl⟩, hW, hsame.mono (by decide) (by decide)⟩
  show Q11 Z a1 kB nB vs cd h0 n0 _ s₁.heap _
  rw [e0]
  exact ⟨rfl, N0, rfl⟩

theorem d13_0 : decode jdk_29_method_66_code 0 = .ok (.lload_n 0, 1) := by decide +kernel
theorem d13_1 : decode jdk_29_method_66_code 1 = .ok (.lload_n 2, 1) := by decide +kernel
theorem d13_2 : decode jdk_29_method_66_code 2 = .ok (.lcmp, 1) := by decide +kernel
theorem d13_3 : decode jdk_29_method_66_code 3 = .ok (.ifCond .lt 7, 3) := by decide +kernel
theorem d13_6 : decode jdk_29_method_66_code 6 = .ok (.lload_n 0, 1) := by decide +kernel
theorem d13_7 : decode jdk_29_method_66_code 7 = .ok (.goto 4, 3) := by decide +kernel
theorem d13_10 : decode jdk_29_method_66_code 10 = .ok (.lload_n 2, 1) := by decide +kernel
theorem d13_11 : decode jdk_29_method_66_code 11 = .ok (.lreturn, 1) := by decide +kernel
theorem own_pf_13 : plainFor (⟨"java/lang/Math", "max", "(JJ)J"⟩ : MethodName) = true := by decide +kernel
theorem own_ef_13 (m : MethodId) (p1 : Int64) (p2 : Int64) : entryFrame m #[(Value.long p1), (Value.long p2)] 4 = mkF m 0 #[sJ p1, .second, sJ p2, .second] [] := by first | (simp [entryFrame, mkF, argsToLocals, Value.category]; done) | rfl
def Q13 (Z : State) (p1 : Int64) (p2 : Int64) (h0 : Heap) (n0 : Nat) (v : Option Value) (h : Heap) (L : List Loc) : Prop := v = some (Value.long (if p1 < p2 then p2 else p1)) ∧ Fr n0 L ∧ h = h0
set_option maxRecDepth 65536 in
set_option maxHeartbeats 40000000 in
theorem rm13 (l : Launch) (Z : State) (a0 : Array Value) (hw : ∀ d ∈ tables_1, d.before a0 Z = true) (ws : List Jvm.Cond) (p1 : Int64) (p2 : Int64) (h0 : Heap) (n0 : Nat) (O0 : Old Z n0 h0) :
    MetFree l (⟨"java/lang/Math", "max", "(JJ)J"⟩ : MethodName) (head1 (Jvm.Cond.code (⟨"java/lang/Math", "max", "(JJ)J"⟩ : MethodName) jdk_29_method_66_code 4 (some .long) :: ws) ({ frames := 0, cells := 0, slots := 0, locals := 0 } : Room)) (fun a U => a = #[(Value.long p1), (Value.long p2)] ∧ Z.Warmed39 U.vm ∧ U.heap = h0) (fun _ _ _ _ _ => True) (fun _ U o U' => ∃ v L, o = .returned v ∧ Q13 Z p1 p2 h0 n0 v U'.heap L ∧ FrameEnd U o U' L ({ frames := 0, cells := 0, slots := 0, locals := 0 } : Room).cells ({ frames := 0, cells := 0, slots := 0, locals := 0 } : Room).slots) := by
  refine MetFree.of_bodySF own_pf_13 hisR ?_
  intro p e s m args below meth c s₁ Bd hml0 hP hK
  obtain ⟨rfl, hZ, hh⟩ := hP
  have hx := Bd.exec
  have hby := Bd.bytes
  have hml : c.maxLocals = 4 := hml0
  have hown : s.vm.findClass "java/lang/Math" = some m.cls := findClass_of_methodNamed Bd.named
  have hnm := (name_of_methodNamed Bd.named Bd.method).1
  have X0 : Stand p l e ({ frames := 0, cells := 0, slots := 0, locals := 0 } : Room) s m #[(Value.long p1), (Value.long p2)] below meth c s₁ [] 0 0 := Stand.of_body Bd
  have e0 : s₁.heap = h0 := by rw [← hh, Bd.state]; rfl
  have N0 := Fr.nil n0
  have K0 : Keep h0 h0 [] := Keep.refl h0 []
  show own_Go _ _ _ _ (s₁.setTop (entryFrame m #[(Value.long p1), (Value.long p2)] 4))
  refine own_Go.by (fun tq kq => castTop (own_ef_13 m p1 p2) kq) ?_
  show own_Go _ _ _ _ (s₁.setTop (mkF m 0 #[sJ p1, .second, sJ p2, .second] []))
  refine own_Go.by (fun tq kq => XS.lloadN X0.here hx rfl (hb hby d13_0) rfl kq) ?_
  refine own_Go.by (fun tq kq => XS.lloadN X0.here hx rfl (hb hby d13_1) rfl kq) ?_
  show own_Go _ _ _ _ (s₁.setTop (mkF m 2 #[sJ p1, .second, sJ p2, .second] [(Value.long p2), (Value.long p1)]))
  refine own_Go.by (fun tq kq => XS.lcmp X0.here hx rfl (hb hby d13_2) rfl kq) ?_
  show own_Go _ _ _ _ (s₁.setTop (mkF m 3 #[sJ p1, .second, sJ p2, .second] [(Value.int (lcmpW p1 p2))]))
  by_cases hc3_1 : p1 < p2
  ·
    refine own_Go.by (fun tq kq => XS.ifYes X0.here hx rfl (pc0 := 3) (pc' := 10) rfl (hb hby d13_3) rfl ((if0 _ _).trans (tlt ((lw_lt p1 p2).mpr hc3_1)).1) (by decide) (by decide) kq) ?_
    refine own_Go.by (fun tq kq => XS.lloadN X0.here hx rfl (hb hby d13_10) rfl kq) ?_
    show own_Go _ _ _ _ (s₁.setTop (mkF m 11 #[sJ p1, .second, sJ p2, .second] [(Value.long p2)]))
    obtain ⟨fs, hr, hrun, hended, hW, hsame⟩ := X0.leave (v := some (Value.long p2)) (fun h => by rw [Bd.returns] at h; cases h)
    refine own_Go.fin (retOut X0 hx Bd.returns rfl (Or.inr (Or.inl ⟨rfl, rfl, _, rfl⟩)) (hb hby d13_11) hr) ⟨hrun, hended, _, _, rfl, ?_, ⟨_, rfl⟩, hW, hsame.mono (by decide) (by decide)⟩
    show Q13 Z p1 p2 h0 n0 _ s₁.heap _
    rw [e0]
    exact ⟨(by rw [if_pos hc3_1]), N0, rfl⟩
  ·
    refine own_Go.by (fun tq kq => XS.ifNo X0.here hx rfl (hb hby d13_3) rfl ((if0 _ _).trans (flt (mt (lw_lt p1 p2).mp hc3_1)).1) kq) ?_
    refine own_Go.by (fun tq kq => XS.lloadN X0.here hx rfl (hb hby d13_6) rfl kq) ?_
    refine own_Go.by (fun tq kq => XS.goto X0.here hx rfl (pc0 := 7) (pc' := 11) rfl (hb hby d13_7) (by decide) (by decide) kq) ?_
    show own_Go _ _ _ _ (s₁.setTop (mkF m 11 #[sJ p1, .second, sJ p2, .second] [(Value.long p1)]))
    obtain ⟨fs, hr, hrun, hended, hW, hsame⟩ := X0.leave (v := some (Value.long p1)) (fun h => by rw [Bd.returns] at h; cases h)
    refine own_Go.fin (retOut X0 hx Bd.returns rfl (Or.inr (Or.inl ⟨rfl, rfl, _, rfl⟩)) (hb hby d13_11) hr) ⟨hrun, hended, _, _, rfl, ?_, ⟨_, rfl⟩, hW, hsame.mono (by decide) (by decide)⟩
    show Q13 Z p1 p2 h0 n0 _ s₁.heap _
    rw [e0]
    exact ⟨(by rw [if_neg hc3_1]), N0, rfl⟩

theorem d14_0 : decode jdk_29_method_70_code 0 = .ok (.lload_n 0, 1) := by decide +kernel
theorem d14_1 : decode jdk_29_method_70_code 1 = .ok (.lload_n 2, 1) := by decide +kernel
theorem d14_2 : decode jdk_29_method_70_code 2 = .ok (.lcmp, 1) := by decide +kernel
theorem d14_3 : decode jdk_29_method_70_code 3 = .ok (.ifCond .gt 7, 3) := by decide +kernel
theorem d14_6 : decode jdk_29_method_70_code 6 = .ok (.lload_n 0, 1) := by decide +kernel
theorem d14_7 : decode jdk_29_method_70_code 7 = .ok (.goto 4, 3) := by decide +kernel
theorem d14_10 : decode jdk_29_method_70_code 10 = .ok (.lload_n 2, 1) := by decide +kernel
theorem d14_11 : decode jdk_29_method_70_code 11 = .ok (.lreturn, 1) := by decide +kernel
theorem own_pf_14 : plainFor (⟨"java/lang/Math", "min", "(JJ)J"⟩ : MethodName) = true := by decide +kernel
theorem own_ef_14 (m : MethodId) (p1 : Int64) (p2 : Int64) : entryFrame m #[(Value.long p1), (Value.long p2)] 4 = mkF m 0 #[sJ p1, .second, sJ p2, .second] [] := by first | (simp [entryFrame, mkF, argsToLocals, Value.category]; done) | rfl
def Q14 (Z : State) (p1 : Int64) (p2 : Int64) (h0 : Heap) (n0 : Nat) (v : Option Value) (h : Heap) (L : List Loc) : Prop := v = some (Value.long (if p2 < p1 then p2 else p1)) ∧ Fr n0 L ∧ h = h0
set_option maxRecDepth 65536 in
set_option maxHeartbeats 40000000 in
theorem rm14 (l : Launch) (Z : State) (a0 : Array Value) (hw : ∀ d ∈ tables_1, d.before a0 Z = true) (ws : List Jvm.Cond) (p1 : Int64) (p2 : Int64) (h0 : Heap) (n0 : Nat) (O0 : Old Z n0 h0) :
    MetFree l (⟨"java/lang/Math", "min", "(JJ)J"⟩ : MethodName) (head1 (Jvm.Cond.code (⟨"java/lang/Math", "min", "(JJ)J"⟩ : MethodName) jdk_29_method_70_code 4 (some .long) :: ws) ({ frames := 0, cells := 0, slots := 0, locals := 0 } : Room)) (fun a U => a = #[(Value.long p1), (Value.long p2)] ∧ Z.Warmed39 U.vm ∧ U.heap = h0) (fun _ _ _ _ _ => True) (fun _ U o U' => ∃ v L, o = .returned v ∧ Q14 Z p1 p2 h0 n0 v U'.heap L ∧ FrameEnd U o U' L ({ frames := 0, cells := 0, slots := 0, locals := 0 } : Room).cells ({ frames := 0, cells := 0, slots := 0, locals := 0 } : Room).slots) := by
  refine MetFree.of_bodySF own_pf_14 hisR ?_
  intro p e s m args below meth c s₁ Bd hml0 hP hK
  obtain ⟨rfl, hZ, hh⟩ := hP
  have hx := Bd.exec
  have hby := Bd.bytes
  have hml : c.maxLocals = 4 := hml0
  have hown : s.vm.findClass "java/lang/Math" = some m.cls := findClass_of_methodNamed Bd.named
  have hnm := (name_of_methodNamed Bd.named Bd.method).1
  have X0 : Stand p l e ({ frames := 0, cells := 0, slots := 0, locals := 0 } : Room) s m #[(Value.long p1), (Value.long p2)] below meth c s₁ [] 0 0 := Stand.of_body Bd
  have e0 : s₁.heap = h0 := by rw [← hh, Bd.state]; rfl
  have N0 := Fr.nil n0
  have K0 : Keep h0 h0 [] := Keep.refl h0 []
  show own_Go _ _ _ _ (s₁.setTop (entryFrame m #[(Value.long p1), (Value.long p2)] 4))
  refine own_Go.by (fun tq kq => castTop (own_ef_14 m p1 p2) kq) ?_
  show own_Go _ _ _ _ (s₁.setTop (mkF m 0 #[sJ p1, .second, sJ p2, .second] []))
  refine own_Go.by (fun tq kq => XS.lloadN X0.here hx rfl (hb hby d14_0) rfl kq) ?_
  refine own_Go.by (fun tq kq => XS.lloadN X0.here hx rfl (hb hby d14_1) rfl kq) ?_
  show own_Go _ _ _ _ (s₁.setTop (mkF m 2 #[sJ p1, .second, sJ p2, .second] [(Value.long p2), (Value.long p1)]))
  refine own_Go.by (fun tq kq => XS.lcmp X0.here hx rfl (hb hby d14_2) rfl kq) ?_
  show own_Go _ _ _ _ (s₁.setTop (mkF m 3 #[sJ p1, .second, sJ p2, .second] [(Value.int (lcmpW p1 p2))]))
  by_cases hc3_1 : p2 < p1
  ·
    refine own_Go.by (fun tq kq => XS.ifYes X0.here hx rfl (pc0 := 3) (pc' := 10) rfl (hb hby d14_3) rfl ((if0 _ _).trans (tlt ((lw_gt p1 p2).mpr hc3_1)).2.2.1) (by decide) (by decide) kq) ?_
    refine own_Go.by (fun tq kq => XS.lloadN X0.here hx rfl (hb hby d14_10) rfl kq) ?_
    show own_Go _ _ _ _ (s₁.setTop (mkF m 11 #[sJ p1, .second, sJ p2, .second] [(Value.long p2)]))
    obtain ⟨fs, hr, hrun, hended, hW, hsame⟩ := X0.leave (v := some (Value.long p2)) (fun h => by rw [Bd.returns] at h; cases h)
    refine own_Go.fin (retOut X0 hx Bd.returns rfl (Or.inr (Or.inl ⟨rfl, rfl, _, rfl⟩)) (hb hby d14_11) hr) ⟨hrun, hended, _, _, rfl, ?_, ⟨_, rfl⟩, hW, hsame.mono (by decide) (by decide)⟩
    show Q14 Z p1 p2 h0 n0 _ s₁.heap _
    rw [e0]
    exact ⟨(by rw [if_pos hc3_1]), N0, rfl⟩
  ·
    refine own_Go.by (fun tq kq => XS.ifNo X0.here hx rfl (hb hby d14_3) rfl ((if0 _ _).trans (flt (mt (lw_gt p1 p2).mp hc3_1)).2.2.1) kq) ?_
    refine own_Go.by (fun tq kq => XS.lloadN X0.here hx rfl (hb hby d14_6) rfl kq) ?_
    refine own_Go.by (fun tq kq => XS.goto X0.here hx rfl (pc0 := 7) (pc' := 11) rfl (hb hby d14_7) (by decide) (by decide) kq) ?_
    show own_Go _ _ _ _ (s₁.setTop (mkF m 11 #[sJ p1, .second, sJ p2, .second] [(Value.long p1)]))
    obtain ⟨fs, hr, hrun, hended, hW, hsame⟩ := X0.leave (v := some (Value.long p1)) (fun h => by rw [Bd.returns] at h; cases h)
    refine own_Go.fin (retOut X0 hx Bd.returns rfl (Or.inr (Or.inl ⟨rfl, rfl, _, rfl⟩)) (hb hby d14_11) hr) ⟨hrun, hended, _, _, rfl, ?_, ⟨_, rfl⟩, hW, hsame.mono (by decide) (by decide)⟩
    show Q14 Z p1 p2 h0 n0 _ s₁.heap _
    rw [e0]
    exact ⟨(by rw [if_neg hc3_1]), N0, rfl⟩

theorem own_pd7 : parseMethodDescriptor "(JJ)J" = some ⟨[.long, .long], some .long⟩ := by decide +kernel
theorem d5_38 : decode prog_10_method_10_code 38 = .ok (.aload_n 0, 1) := by decide +kernel
theorem d5_39 : decode prog_10_method_10_code 39 = .ok (.aload_n 0, 1) := by decide +kernel
theorem d5_40 : decode prog_10_method_10_code 40 = .ok (.getfield 9, 3) := by decide +kernel
theorem d5_43 : decode prog_10_method_10_code 43 = .ok (.ldc2_w 97, 3) := by decide +kernel
theorem d5_46 : decode prog_10_method_10_code 46 = .ok (.ldc2_w 104, 3) := by decide +kernel
theorem d5_49 : decode prog_10_method_10_code 49 = .ok (.aload_n 0, 1) := by decide +kernel
theorem d5_50 : decode prog_10_method_10_code 50 = .ok (.getfield 9, 3) := by decide +kernel
theorem d5_53 : decode prog_10_method_10_code 53 = .ok (.arraylength, 1) := by decide +kernel
theorem d5_54 : decode prog_10_method_10_code 54 = .ok (.i2l, 1) := by decide +kernel
theorem d5_55 : decode prog_10_method_10_code 55 = .ok (.lmul, 1) := by decide +kernel
theorem d5_56 : decode prog_10_method_10_code 56 = .ok (.lload_n 2, 1) := by decide +kernel
theorem d5_57 : decode prog_10_method_10_code 57 = .ok (.invokestatic 106, 3) := by decide +kernel
theorem d5_60 : decode prog_10_method_10_code 60 = .ok (.invokestatic 112, 3) := by decide +kernel
theorem d5_63 : decode prog_10_method_10_code 63 = .ok (.l2i, 1) := by decide +kernel
theorem d5_64 : decode prog_10_method_10_code 64 = .ok (.invokestatic 91, 3) := by decide +kernel
theorem d5_67 : decode prog_10_method_10_code 67 = .ok (.putfield 9, 3) := by decide +kernel
theorem own_ef_5_g7 (m : MethodId) (a1 : Addr) : entryFrame m #[(Value.ref a1), (Value.int (300 : Int32))] 4 = mkF m 0 #[sR a1, sI (300 : Int32), .unset, .unset] [] := by first | (simp [entryFrame, mkF, argsToLocals, Value.category]; done) | rfl
def Q5_g7 (Z : State) (a1 : Addr) (aB : Addr) (kB : ClassId) (vs : List Value) (h0 : Heap) (n0 : Nat) (v : Option Value) (h : Heap) (L : List Loc) : Prop := ∃ (b : Addr), ∃ (k2 : ClassId), v = none ∧ Fr n0 L ∧ Keep h0 h [a1] ∧ (h0.size ≤ b) ∧ (Exa Z h a1 "com/example/ebbtide/ebbtide/core/Encoder") ∧ (Fld Z h a1 "com/example/ebbtide/ebbtide/core/Encoder" "bytes" "[B" (Value.ref b)) ∧ (Fld Z h a1 "com/example/ebbtide/ebbtide/core/Encoder" "length" "I" (Value.int (7 : Int32))) ∧ (Arv Z h b k2 .byte (512 : Int32) (own_cp vs 256 ++ List.replicate 256 (Value.int (0 : Int32))) (Value.int (0 : Int32)))
set_option maxRecDepth 65536 in
set_option maxHeartbeats 40000000 in
theorem rm5_g7 (l : Launch) (Z : State) (a0 : Array Value) (hw : ∀ d ∈ tables_1, d.before a0 Z = true) (ws : List Jvm.Cond) (a1 : Addr) (aB : Addr) (kB : ClassId) (vs : List Value) (h0 : Heap) (n0 : Nat) (O0 : Old Z n0 h0) (H0 : Exa Z h0 a1 "com/example/ebbtide/ebbtide/core/Encoder") (H1 : Fld Z h0 a1 "com/example/ebbtide/ebbtide/core/Encoder" "bytes" "[B" (Value.ref aB)) (H2 : Fld Z h0 a1 "com/example/ebbtide/ebbtide/core/Encoder" "length" "I" (Value.int (7 : Int32))) (H3 : Arv Z h0 aB kB .byte (256 : Int32) vs (Value.int (0 : Int32))) (H4 : n0 ≤ a1) :
    MetFree l (⟨"com/example/ebbtide/ebbtide/core/Encoder", "ensure", "(I)V"⟩ : MethodName) (head1 (Jvm.Cond.code (⟨"com/example/ebbtide/ebbtide/core/Encoder", "ensure", "(I)V"⟩ : MethodName) prog_10_method_10_code 4 none :: ws) ({ frames := 2, cells := 1, slots := 512, locals := 33 } : Room)) (fun a U => a = #[(Value.ref a1), (Value.int (300 : Int32))] ∧ Z.Warmed39 U.vm ∧ U.heap = h0) (fun _ _ _ _ _ => True) (fun _ U o U' => ∃ v L, o = .returned v ∧ Q5_g7 Z a1 aB kB vs h0 n0 v U'.heap L ∧ FrameEnd U o U' L ({ frames := 2, cells := 1, slots := 512, locals := 33 } : Room).cells ({ frames := 2, cells := 1, slots := 512, locals := 33 } : Room).slots) := by
  refine MetFree.of_bodySF (plainFor_of_name own_pn_com_example_ebbtide_ebbtide_core_Encoder) hisR ?_
  intro p e s m args below meth c s₁ Bd hml0 hP hK
  obtain ⟨rfl, hZ, hh⟩ := hP
  have hx := Bd.exec
  have hby := Bd.bytes
  have hml : c.maxLocals = 4 := hml0
  have hown : s.vm.findClass "com/example/ebbtide/ebbtide/core/Encoder" = some m.cls := findClass_of_methodNamed Bd.named
  have hnm := (name_of_methodNamed Bd.named Bd.method).1
  have X0 : Stand p l e ({ frames := 2, cells := 1, slots := 512, locals := 33 } : Room) s m #[(Value.ref a1), (Value.int (300 : Int32))] below meth c s₁ [] 0 0 := Stand.of_body Bd
  have e0 : s₁.heap = h0 := by rw [← hh, Bd.state]; rfl
  have N0 := Fr.nil n0
  have K0 := Keep.refl h0 [a1]
  show own_Go _ _ _ _ (s₁.setTop (entryFrame m #[(Value.ref a1), (Value.int (300 : Int32))] 4))
  refine own_Go.by (fun tq kq => castTop (own_ef_5_g7 m a1) kq) ?_
  show own_Go _ _ _ _ (s₁.setTop (mkF m 0 #[sR a1, sI (300 : Int32), .unset, .unset] []))
  refine own_Go.by (fun tq kq => XS.aloadN X0.here hx rfl (hb hby d5_0) rfl rfl kq) ?_
  show own_Go _ _ _ _ (s₁.setTop (mkF m 1 #[sR a1, sI (300 : Int32), .unset, .unset] [(Value.ref a1)]))
  obtain ⟨T1, X1, e1, st1⟩ := getF X0 hx hZ hown (host := "") (Or.inl (hw _ (List.mem_of_getElem? (i := 38) rfl))) Via.refl e0 H2 (g := (mkF m 1 #[sR a1, sI (300 : Int32), .unset, .unset] [(Value.ref a1)])) rfl rfl (hb hby d5_1)
  refine own_Go.by st1 ?_
  refine own_Go.by (fun tq kq => XS.i2l X1.here hx rfl (hb hby d5_4) rfl kq) ?_
  refine own_Go.by (fun tq kq => XS.iloadN X1.here hx rfl (hb hby d5_5) rfl kq) ?_
  refine own_Go.by (fun tq kq => XS.i2l X1.here hx rfl (hb hby d5_6) rfl kq) ?_
  show own_Go _ _ _ _ (T1.setTop (mkF m 7 #[sR a1, sI (300 : Int32), .unset, .unset] [(Value.long ((300 : Int32).toInt64)), (Value.long ((7 : Int32).toInt64))]))
  refine own_Go.by (fun tq kq => XS.ladd X1.here hx rfl (hb hby d5_7) rfl kq) ?_
  show own_Go _ _ _ _ (T1.setTop (mkF m 8 #[sR a1, sI (300 : Int32), .unset, .unset] [(Value.long (307 : Int64))]))
  refine own_Go.by (fun tq kq => XS.lstoreN X1.here hx rfl (hb hby d5_8) rfl (l' := #[sR a1, sI (300 : Int32), sJ (307 : Int64), .second]) rfl kq) ?_
  refine own_Go.by (fun tq kq => XS.lloadN X1.here hx rfl (hb hby d5_9) rfl kq) ?_
  show own_Go _ _ _ _ (T1.setTop (mkF m 10 #[sR a1, sI (300 : Int32), sJ (307 : Int64), .second] [(Value.long (307 : Int64))]))
  refine own_Go.by (fun tq kq => X1.ldc2Long hx hown (mvT hZ (hw _ (List.mem_of_getElem? (i := 40) rfl))) (g := (mkF m 10 #[sR a1, sI (300 : Int32), sJ (307 : Int64), .second] [(Value.long (307 : Int64))])) rfl (hb hby d5_10) _ kq) ?_
  show own_Go _ _ _ _ (T1.setTop (mkF m 13 #[sR a1, sI (300 : Int32), sJ (307 : Int64), .second] [(Value.long (2147483639 : Int64)), (Value.long (307 : Int64))]))
  refine own_Go.by (fun tq kq => XS.lcmp X1.here hx rfl (hb hby d5_13) rfl kq) ?_
  show own_Go _ _ _ _ (T1.setTop (mkF m 14 #[sR a1, sI (300 : Int32), sJ (307 : Int64), .second] [(Value.int (lcmpW (307 : Int64) (2147483639 : Int64)))]))
  refine own_Go.by (fun tq kq => XS.ifYes X1.here hx rfl (pc0 := 14) (pc' := 27) rfl (hb hby d5_14) rfl ((if0 _ _).trans (flt (mt (lw_gt (307 : Int64) (2147483639 : Int64)).mp (by decide : ¬ ((2147483639 : Int64) < (307 : Int64))))).2.2.2) (by decide) (by decide) kq) ?_
  refine own_Go.by (fun tq kq => XS.lloadN X1.here hx rfl (hb hby d5_27) rfl kq) ?_
  refine own_Go.by (fun tq kq => XS.aloadN X1.here hx rfl (hb hby d5_28) rfl rfl kq) ?_
  show own_Go _ _ _ _ (T1.setTop (mkF m 29 #[sR a1, sI (300 : Int32), sJ (307 : Int64), .second] [(Value.ref a1), (Value.long (307 : Int64))]))
  obtain ⟨T2, X2, e2, st2⟩ := getF X1 hx hZ hown (host := "") (Or.inl (hw _ (List.mem_of_getElem? (i := 15) rfl))) Via.refl e1 H1 (g := (mkF m 29 #[sR a1, sI (300 : Int32), sJ (307 : Int64), .second] [(Value.ref a1), (Value.long (307 : Int64))])) rfl rfl (hb hby d5_29)
  refine own_Go.by st2 ?_
  show own_Go _ _ _ _ (T2.setTop (mkF m 32 #[sR a1, sI (300 : Int32), sJ (307 : Int64), .second] [(Value.ref aB), (Value.long (307 : Int64))]))
  obtain ⟨cl3, Ar3, q3, S3, M3, Hh3, G3⟩ := id H3
  refine own_Go.by (fun tq kq => X2.arraylength hx (by rw [e2]; exact Ar3.1) (State.isArrayOf_alike hZ.alike Ar3.2.1) (g := (mkF m 32 #[sR a1, sI (300 : Int32), sJ (307 : Int64), .second] [(Value.ref aB), (Value.long (307 : Int64))])) rfl rfl (hb hby d5_32) _ kq) ?_
  rw [len_of S3 M3]
  refine own_Go.by (fun tq kq => XS.i2l X2.here hx rfl (hb hby d5_33) rfl kq) ?_
  show own_Go _ _ _ _ (T2.setTop (mkF m 34 #[sR a1, sI (300 : Int32), sJ (307 : Int64), .second] [(Value.long (256 : Int64)), (Value.long (307 : Int64))]))
  refine own_Go.by (fun tq kq => XS.lcmp X2.here hx rfl (hb hby d5_34) rfl kq) ?_
  show own_Go _ _ _ _ (T2.setTop (mkF m 35 #[sR a1, sI (300 : Int32), sJ (307 : Int64), .second] [(Value.int (lcmpW (307 : Int64) (256 : Int64)))]))
  refine own_Go.by (fun tq kq => XS.ifNo X2.here hx rfl (hb hby d5_35) rfl ((if0 _ _).trans (tlt ((lw_gt (307 : Int64) (256 : Int64)).mpr (by decide : (256 : Int64) < (307 : Int64)))).2.2.2) kq) ?_
  refine own_Go.by (fun tq kq => XS.aloadN X2.here hx rfl (hb hby d5_38) rfl rfl kq) ?_
  refine own_Go.by (fun tq kq => XS.aloadN X2.here hx rfl (hb hby d5_39) rfl rfl kq) ?_
  show own_Go _ _ _ _ (T2.setTop (mkF m 40 #[sR a1, sI (300 : Int32), sJ (307 : Int64), .second] [(Value.ref a1), (Value.ref a1)]))
  obtain ⟨T4, X4, e4, st4⟩ := getF X2 hx hZ hown (host := "") (Or.inl (hw _ (List.mem_of_getElem? (i := 15) rfl))) Via.refl e2 H1 (g := (mkF m 40 #[sR a1, sI (300 : Int32), sJ (307 : Int64), .second] [(Value.ref a1), (Value.ref a1)])) rfl rfl (hb hby d5_40)
  refine own_Go.by st4 ?_
  show own_Go _ _ _ _ (T4.setTop (mkF m 43 #[sR a1, sI (300 : Int32), sJ (307 : Int64), .second] [(Value.ref aB), (Value.ref a1)]))
  refine own_Go.by (fun tq kq => X4.ldc2Long hx hown (mvT hZ (hw _ (List.mem_of_getElem? (i := 40) rfl))) (g := (mkF m 43 #[sR a1, sI (300 : Int32), sJ (307 : Int64), .second] [(Value.ref aB), (Value.ref a1)])) rfl (hb hby d5_43) _ kq) ?_
  show own_Go _ _ _ _ (T4.setTop (mkF m 46 #[sR a1, sI (300 : Int32), sJ (307 : Int64), .second] [(Value.long (2147483639 : Int64)), (Value.ref aB), (Value.ref a1)]))
  refine own_Go.by (fun tq kq => X4.ldc2Long hx hown (mvT hZ (hw _ (List.mem_of_getElem? (i := 83) rfl))) (g := (mkF m 46 #[sR a1, sI (300 : Int32), sJ (307 : Int64), .second] [(Value.long (2147483639 : Int64)), (Value.ref aB), (Value.ref a1)])) rfl (hb hby d5_46) _ kq) ?_
  refine own_Go.by (fun tq kq => XS.aloadN X4.here hx rfl (hb hby d5_49) rfl rfl kq) ?_
  show own_Go _ _ _ _ (T4.setTop (mkF m 50 #[sR a1, sI (300 : Int32), sJ (307 : Int64), .second] [(Value.ref a1), (Value.long (2 : Int64)), (Value.long (2147483639 : Int64)), (Value.ref aB), (Value.ref a1)]))
  obtain ⟨T5, X5, e5, st5⟩ := getF X4 hx hZ hown (host := "") (Or.inl (hw _ (List.mem_of_getElem? (i := 15) rfl))) Via.refl e4 H1 (g := (mkF m 50 #[sR a1, sI (300 : Int32), sJ (307 : Int64), .second] [(Value.ref a1), (Value.long (2 : Int64)), (Value.long (2147483639 : Int64)), (Value.ref aB), (Value.ref a1)])) rfl rfl (hb hby d5_50)
  refine own_Go.by st5 ?_
  show own_Go _ _ _ _ (T5.setTop (mkF m 53 #[sR a1, sI (300 : Int32), sJ (307 : Int64), .second] [(Value.ref aB), (Value.long (2 : Int64)), (Value.long (2147483639 : Int64)), (Value.ref aB), (Value.ref a1)]))
  obtain ⟨cl6, Ar6, q6, S6, M6, Hh6, G6⟩ := id H3
  refine own_Go.by (fun tq kq => X5.arraylength hx (by rw [e5]; exact Ar6.1) (State.isArrayOf_alike hZ.alike Ar6.2.1) (g := (mkF m 53 #[sR a1, sI (300 : Int32), sJ (307 : Int64), .second] [(Value.ref aB), (Value.long (2 : Int64)), (Value.long (2147483639 : Int64)), (Value.ref aB), (Value.ref a1)])) rfl rfl (hb hby d5_53) _ kq) ?_
  rw [len_of S6 M6]
  refine own_Go.by (fun tq kq => XS.i2l X5.here hx rfl (hb hby d5_54) rfl kq) ?_
  show own_Go _ _ _ _ (T5.setTop (mkF m 55 #[sR a1, sI (300 : Int32), sJ (307 : Int64), .second] [(Value.long (256 : Int64)), (Value.long (2 : Int64)), (Value.long (2147483639 : Int64)), (Value.ref aB), (Value.ref a1)]))
  refine own_Go.by (fun tq kq => XS.lmul X5.here hx rfl (hb hby d5_55) rfl kq) ?_
  refine own_Go.by (fun tq kq => XS.lloadN X5.here hx rfl (hb hby d5_56) rfl kq) ?_
  show own_Go _ _ _ _ (T5.setTop (mkF m 57 #[sR a1, sI (300 : Int32), sJ (307 : Int64), .second] [(Value.long (307 : Int64)), (Value.long (512 : Int64)), (Value.long (2147483639 : Int64)), (Value.ref aB), (Value.ref a1)]))
  obtain ⟨_, _, ⟨T7, L7, k7, n7⟩, -, X7, ⟨Lc7, hQ7, l7, y7, z7⟩, st7⟩ := Jvm.LawKit.callS X5 hx (y := (⟨"java/lang/Math", "max", "(JJ)J"⟩ : MethodName)) hown (mvT hZ (hw _ (List.mem_of_getElem? (i := 84) rfl))) (mvT hZ (hw _ (List.mem_of_getElem? (i := 85) rfl))) (mvT hZ (hw _ (List.mem_of_getElem? (i := 66) rfl))) (mvT hZ (hw _ (List.mem_of_getElem? (i := 86) rfl))) (by decide) (backOf (W := 4) (rm13 l Z a0 hw [] (512 : Int64) (307 : Int64) h0 n0 O0 ) hZ (hw _ (List.mem_of_getElem? (i := 86) rfl)) (hw _ (List.mem_of_getElem? (i := 66) rfl)) (by decide) (by decide)) (g := (mkF m 57 #[sR a1, sI (300 : Int32), sJ (307 : Int64), .second] [(Value.long (307 : Int64)), (Value.long (512 : Int64)), (Value.long (2147483639 : Int64)), (Value.ref aB), (Value.ref a1)])) rfl (by rw [hml]; rfl) (argsL := [(Value.long (512 : Int64)), (Value.long (307 : Int64))]) (rest := [(Value.long (2147483639 : Int64)), (Value.ref aB), (Value.ref a1)]) (lenOf own_pd7 rfl) rfl (by show 2 * 0 + _ ≤ _; exact Nat.le_of_eq rfl) (hb hby d5_57) (fun _ _ => ⟨rfl, e5, (by decide : 0 + 0 ≤ _), (by decide : 0 + 0 ≤ _)⟩)
  dsimp only [Pt.U, Pt.locs, Pt.cells, Pt.slots] at X7 l7 y7 z7 st7 hQ7
  subst l7 y7 z7
  refine own_Go.by st7 ?_
  obtain ⟨rfl, N7q, e7⟩ := hQ7
  have N7 := Fr.app N0 N7q
  show own_Go _ _ _ _ (T7.setTop (mkF m 60 #[sR a1, sI (300 : Int32), sJ (307 : Int64), .second] [(Value.long (512 : Int64)), (Value.long (2147483639 : Int64)), (Value.ref aB), (Value.ref a1)]))
  obtain ⟨_, _, ⟨T8, L8, k8, n8⟩, -, X8, ⟨Lc8, hQ8, l8, y8, z8⟩, st8⟩ := Jvm.LawKit.callS X7 hx (y := (⟨"java/lang/Math", "min", "(JJ)J"⟩ : MethodName)) hown (mvT hZ (hw _ (List.mem_of_getElem? (i := 87) rfl))) (mvT hZ (hw _ (List.mem_of_getElem? (i := 88) rfl))) (mvT hZ (hw _ (List.mem_of_getElem? (i := 66) rfl))) (mvT hZ (hw _ (List.mem_of_getElem? (i := 89) rfl))) (by decide) (backOf (W := 2) (rm14 l Z a0 hw [] (2147483639 : Int64) (512 : Int64) h0 n0 O0 ) hZ (hw _ (List.mem_of_getElem? (i := 89) rfl)) (hw _ (List.mem_of_getElem? (i := 66) rfl)) (by decide) (by decide)) (g := (mkF m 60 #[sR a1, sI (300 : Int32), sJ (307 : Int64), .second] [(Value.long (512 : Int64)), (Value.long (2147483639 : Int64)), (Value.ref aB), (Value.ref a1)])) rfl (by rw [hml]; rfl) (argsL := [(Value.long (2147483639 : Int64)), (Value.long (512 : Int64))]) (rest := [(Value.ref aB), (Value.ref a1)]) (lenOf own_pd7 rfl) rfl (by show 2 * 0 + _ ≤ _; exact Nat.le_of_eq rfl) (hb hby d5_60) (fun _ _ => ⟨rfl, e7, (by decide : 0 + 0 ≤ _), (by decide : 0 + 0 ≤ _)⟩)
  dsimp only [Pt.U, Pt.locs, Pt.cells, Pt.slots] at X8 l8 y8 z8 st8 hQ8
  subst l8 y8 z8
  refine own_Go.by st8 ?_
  obtain ⟨rfl, N8q, e8⟩ := hQ8
  have N8 := Fr.app N7 N8q
  refine own_Go.by (fun tq kq => XS.l2i X8.here hx rfl (hb hby d5_63) rfl kq) ?_
  show own_Go _ _ _ _ (T8.setTop (mkF m 64 #[sR a1, sI (300 : Int32), sJ (307 : Int64), .second] [(Value.int (512 : Int32)), (Value.ref aB), (Value.ref a1)]))
  obtain ⟨_, _, ⟨T9, L9, k9, n9⟩, -, X9, ⟨Lc9, hQ9, l9, y9, z9⟩, st9⟩ := Jvm.LawKit.callS X8 hx (y := (⟨"java/util/Arrays", "copyOf", "([BI)[B"⟩ : MethodName)) hown (mvT hZ (hw _ (List.mem_of_getElem? (i := 60) rfl))) (mvT hZ (hw _ (List.mem_of_getElem? (i := 61) rfl))) (mvT hZ (hw _ (List.mem_of_getElem? (i := 62) rfl))) (mvT hZ (hw _ (List.mem_of_getElem? (i := 63) rfl))) (by decide) (backOf (W := 1) (rm9_256_512 l Z a0 hw [] aB kB vs h0 n0 O0 H3) hZ (hw _ (List.mem_of_getElem? (i := 63) rfl)) (hw _ (List.mem_of_getElem? (i := 62) rfl)) (by decide) (by decide)) (g := (mkF m 64 #[sR a1, sI (300 : Int32), sJ (307 : Int64), .second] [(Value.int (512 : Int32)), (Value.ref aB), (Value.ref a1)])) rfl (by rw [hml]; rfl) (argsL := [(Value.ref aB), (Value.int (512 : Int32))]) (rest := [(Value.ref a1)]) (lenOf own_pd3 rfl) rfl (by show 2 * 0 + _ ≤ _; exact Nat.le_of_eq rfl) (hb hby d5_64) (fun _ _ => ⟨rfl, e8, (by decide : 0 + 1 ≤ _), (by decide : 0 + 512 ≤ _)⟩)
  dsimp only [Pt.U, Pt.locs, Pt.cells, Pt.slots] at X9 l9 y9 z9 st9 hQ9
  subst l9 y9 z9
  refine own_Go.by st9 ?_
  obtain ⟨b_9, k2_9, rfl, N9q, K9q, p9_0, p9_1, p9_2⟩ := hQ9
  have N9 := Fr.app N8 N9q
  have O10 := O0.keep K9q all0
  have K10 := K0.trans K9q all0
  have g11 : n0 ≤ b_9 := Nat.le_trans (own_old_le O0) p9_0
  have z11 : h0.size ≤ b_9 := Nat.le_trans K0.1 p9_0
  show own_Go _ _ _ _ (T9.setTop (mkF m 67 #[sR a1, sI (300 : Int32), sJ (307 : Int64), .second] [(Value.ref b_9), (Value.ref a1)]))
  have c12 := (H1.keep K9q nin0)
  have c13 := (H0.keep K9q)
  obtain ⟨T14, h14, X14, e14, W14, st14⟩ := putF X9 hx hZ hown (host := "") (Or.inl (hw _ (List.mem_of_getElem? (i := 15) rfl))) Via.refl rfl c12 c13 (Or.inl (hw _ (List.mem_of_getElem? (i := 16) rfl))) (hw _ (List.mem_of_getElem? (i := 7) rfl)) (ty := (.array .byte)) (by decide) rfl rfl (g := (mkF m 67 #[sR a1, sI (300 : Int32), sJ (307 : Int64), .second] [(Value.ref b_9), (Value.ref a1)])) rfl rfl (hb hby d5_67)
  refine own_Go.by st14 ?_
  have N14 := Fr.snoc X14 N9 H4
  have O15 := O10.wr W14 H4
  have K15 := K10.wr W14 (Or.inl (List.mem_of_getElem? (i := 0) rfl))
  have F14 := c12.same W14
  show own_Go _ _ _ _ (T14.setTop (mkF m 70 #[sR a1, sI (300 : Int32), sJ (307 : Int64), .second] []))
  have c16 := (c13.wr W14)
  have c17 := ((H2.keep K9q nin0).other W14 (Or.inr (slot_ne (Or.inl (hw _ (List.mem_of_getElem? (i := 39) rfl))) (Or.inl (hw _ (List.mem_of_getElem? (i := 16) rfl))) (by decide) (t := .int) (t' := (.array .byte)) (by decide) (by decide))))
  have c18 := (p9_2.other W14 (Ne.symm (Nat.ne_of_lt (Nat.lt_of_lt_of_le H0.lt p9_0))))
  obtain ⟨fs, hr, hrun, hended, hW, hsame⟩ := X14.leave (v := none) (fun _ => rfl)
  refine own_Go.fin (X14.returnOut hx Bd.returns (hb hby d5_70) hr) ⟨hrun, hended, _, _, rfl, ?_, ⟨_, rfl⟩, hW, hsame.mono (by decide) (by decide)⟩
  show Q5_g7 Z a1 aB kB vs h0 n0 _ T14.heap _
  rw [e14]
  exact ⟨b_9, k2_9, rfl, N14, K15, z11, c16, F14, c17, c18⟩

theorem own_ef_5_g8 (m : MethodId) (a1 : Addr) : entryFrame m #[(Value.ref a1), (Value.int (300 : Int32))] 4 = mkF m 0 #[sR a1, sI (300 : Int32), .unset, .unset] [] := by first | (simp [entryFrame, mkF, argsToLocals, Value.category]; done) | rfl
def Q5_g8 (Z : State) (a1 : Addr) (aB : Addr) (kB : ClassId) (vs : List Value) (h0 : Heap) (n0 : Nat) (v : Option Value) (h : Heap) (L : List Loc) : Prop := ∃ (b : Addr), ∃ (k2 : ClassId), v = none ∧ Fr n0 L ∧ Keep h0 h [a1] ∧ (h0.size ≤ b) ∧ (Exa Z h a1 "com/example/ebbtide/ebbtide/core/Encoder") ∧ (Fld Z h a1 "com/example/ebbtide/ebbtide/core/Encoder" "bytes" "[B" (Value.ref b)) ∧ (Fld Z h a1 "com/example/ebbtide/ebbtide/core/Encoder" "length" "I" (Value.int (8 : Int32))) ∧ (Arv Z h b k2 .byte (512 : Int32) (own_cp vs 256 ++ List.replicate 256 (Value.int (0 : Int32))) (Value.int (0 : Int32)))
set_option maxRecDepth 65536 in
set_option maxHeartbeats 40000000 in
theorem rm5_g8 (l : Launch) (Z : State) (a0 : Array Value) (hw : ∀ d ∈ tables_1, d.before a0 Z = true) (ws : List Jvm.Cond) (a1 : Addr) (aB : Addr) (kB : ClassId) (vs : List Value) (h0 : Heap) (n0 : Nat) (O0 : Old Z n0 h0) (H0 : Exa Z h0 a1 "com/example/ebbtide/ebbtide/core/Encoder") (H1 : Fld Z h0 a1 "com/example/ebbtide/ebbtide/core/Encoder" "bytes" "[B" (Value.ref aB)) (H2 : Fld Z h0 a1 "com/example/ebbtide/ebbtide/core/Encoder" "length" "I" (Value.int (8 : Int32))) (H3 : Arv Z h0 aB kB .byte (256 : Int32) vs (Value.int (0 : Int32))) (H4 : n0 ≤ a1) :
    MetFree l (⟨"com/example/ebbtide/ebbtide/core/Encoder", "ensure", "(I)V"⟩ : MethodName) (head1 (Jvm.Cond.code (⟨"com/example/ebbtide/ebbtide/core/Encoder", "ensure", "(I)V"⟩ : MethodName) prog_10_method_10_code 4 none :: ws) ({ frames := 2, cells := 1, slots := 512, locals := 33 } : Room)) (fun a U => a = #[(Value.ref a1), (Value.int (300 : Int32))] ∧ Z.Warmed39 U.vm ∧ U.heap = h0) (fun _ _ _ _ _ => True) (fun _ U o U' => ∃ v L, o = .returned v ∧ Q5_g8 Z a1 aB kB vs h0 n0 v U'.heap L ∧ FrameEnd U o U' L ({ frames := 2, cells := 1, slots := 512, locals := 33 } : Room).cells ({ frames := 2, cells := 1, slots := 512, locals := 33 } : Room).slots) := by
  refine MetFree.of_bodySF (plainFor_of_name own_pn_com_example_ebbtide_ebbtide_core_Encoder) hisR ?_
  intro p e s m args below meth c s₁ Bd hml0 hP hK
  obtain ⟨rfl, hZ, hh⟩ := hP
  have hx := Bd.exec
  have hby := Bd.bytes
  have hml : c.maxLocals = 4 := hml0
  have hown : s.vm.findClass "com/example/ebbtide/ebbtide/core/Encoder" = some m.cls := findClass_of_methodNamed Bd.named
  have hnm := (name_of_methodNamed Bd.named Bd.method).1
  have X0 : Stand p l e ({ frames := 2, cells := 1, slots := 512, locals := 33 } : Room) s m #[(Value.ref a1), (Value.int (300 : Int32))] below meth c s₁ [] 0 0 := Stand.of_body Bd
  have e0 : s₁.heap = h0 := by rw [← hh, Bd.state]; rfl
  have N0 := Fr.nil n0
  have K0 := Keep.refl h0 [a1]
  show own_Go _ _ _ _ (s₁.setTop (entryFrame m #[(Value.ref a1), (Value.int (300 : Int32))] 4))
  refine own_Go.by (fun tq kq => castTop (own_ef_5_g8 m a1) kq) ?_
  show own_Go _ _ _ _ (s₁.setTop (mkF m 0 #[sR a1, sI (300 : Int32), .unset, .unset] []))
  refine own_Go.by (fun tq kq => XS.aloadN X0.here hx rfl (hb hby d5_0) rfl rfl kq) ?_
  show own_Go _ _ _ _ (s₁.setTop (mkF m 1 #[sR a1, sI (300 : Int32), .unset, .unset] [(Value.ref a1)]))
  obtain ⟨T1, X1, e1, st1⟩ := getF X0 hx hZ hown (host := "") (Or.inl (hw _ (List.mem_of_getElem? (i := 38) rfl))) Via.refl e0 H2 (g := (mkF m 1 #[sR a1, sI (300 : Int32), .unset, .unset] [(Value.ref a1)])) rfl rfl (hb hby d5_1)
  refine own_Go.by st1 ?_
  refine own_Go.by (fun tq kq => XS.i2l X1.here hx rfl (hb hby d5_4) rfl kq) ?_
  refine own_Go.by (fun tq kq => XS.iloadN X1.here hx rfl (hb hby d5_5) rfl kq) ?_
  refine own_Go.by (fun tq kq => XS.i2l X1.here hx rfl (hb hby d5_6) rfl kq) ?_
  show own_Go _ _ _ _ (T1.setTop (mkF m 7 #[sR a1, sI (300 : Int32), .unset, .unset] [(Value.long ((300 : Int32).toInt64)), (Value.long ((8 : Int32).toInt64))]))
  refine own_Go.by (fun tq kq => XS.ladd X1.here hx rfl (hb hby d5_7) rfl kq) ?_
  show own_Go _ _ _ _ (T1.setTop (mkF m 8 #[sR a1, sI (300 : Int32), .unset, .unset] [(Value.long (308 : Int64))]))
  refine own_Go.by (fun tq kq => XS.lstoreN X1.here hx rfl (hb hby d5_8) rfl (l' := #[sR a1, sI (300 : Int32), sJ (308 : Int64), .second]) rfl kq) ?_
  refine own_Go.by (fun tq kq => XS.lloadN X1.here hx rfl (hb hby d5_9) rfl kq) ?_
  show own_Go _ _ _ _ (T1.setTop (mkF m 10 #[sR a1, sI (300 : Int32), sJ (308 : Int64), .second] [(Value.long (308 : Int64))]))
  refine own_Go.by (fun tq kq => X1.ldc2Long hx hown (mvT hZ (hw _ (List.mem_of_getElem? (i := 40) rfl))) (g := (mkF m 10 #[sR a1, sI (300 : Int32), sJ (308 : Int64), .second] [(Value.long (308 : Int64))])) rfl (hb hby d5_10) _ kq) ?_
  show own_Go _ _ _ _ (T1.setTop (mkF m 13 #[sR a1, sI (300 : Int32), sJ (308 : Int64), .second] [(Value.long (2147483639 : Int64)), (Value.long (308 : Int64))]))
  refine own_Go.by (fun tq kq => XS.lcmp X1.here hx rfl (hb hby d5_13) rfl kq) ?_
  show own_Go _ _ _ _ (T1.setTop (mkF m 14 #[sR a1, sI (300 : Int32), sJ (308 : Int64), .second] [(Value.int (lcmpW (308 : Int64) (2147483639 : Int64)))]))
  refine own_Go.by (fun tq kq => XS.ifYes X1.here hx rfl (pc0 := 14) (pc' := 27) rfl (hb hby d5_14) rfl ((if0 _ _).trans (flt (mt (lw_gt (308 : Int64) (2147483639 : Int64)).mp (by decide : ¬ ((2147483639 : Int64) < (308 : Int64))))).2.2.2) (by decide) (by decide) kq) ?_
  refine own_Go.by (fun tq kq => XS.lloadN X1.here hx rfl (hb hby d5_27) rfl kq) ?_
  refine own_Go.by (fun tq kq => XS.aloadN X1.here hx rfl (hb hby d5_28) rfl rfl kq) ?_
  show own_Go _ _ _ _ (T1.setTop (mkF m 29 #[sR a1, sI (300 : Int32), sJ (308 : Int64), .second] [(Value.ref a1), (Value.long (308 : Int64))]))
  obtain ⟨T2, X2, e2, st2⟩ := getF X1 hx hZ hown (host := "") (Or.inl (hw _ (List.mem_of_getElem? (i := 15) rfl))) Via.refl e1 H1 (g := (mkF m 29 #[sR a1, sI (300 : Int32), sJ (308 : Int64), .second] [(Value.ref a1), (Value.long (308 : Int64))])) rfl rfl (hb hby d5_29)
  refine own_Go.by st2 ?_
  show own_Go _ _ _ _ (T2.setTop (mkF m 32 #[sR a1, sI (300 : Int32), sJ (308 : Int64), .second] [(Value.ref aB), (Value.long (308 : Int64))]))
  obtain ⟨cl3, Ar3, q3, S3, M3, Hh3, G3⟩ := id H3
  refine own_Go.by (fun tq kq => X2.arraylength hx (by rw [e2]; exact Ar3.1) (State.isArrayOf_alike hZ.alike Ar3.2.1) (g := (mkF m 32 #[sR a1, sI (300 : Int32), sJ (308 : Int64), .second] [(Value.ref aB), (Value.long (308 : Int64))])) rfl rfl (hb hby d5_32) _ kq) ?_
  rw [len_of S3 M3]
  refine own_Go.by (fun tq kq => XS.i2l X2.here hx rfl (hb hby d5_33) rfl kq) ?_
  show own_Go _ _ _ _ (T2.setTop (mkF m 34 #[sR a1, sI (300 : Int32), sJ (308 : Int64), .second] [(Value.long (256 : Int64)), (Value.long (308 : Int64))]))
  refine own_Go.by (fun tq kq => XS.lcmp X2.here hx rfl (hb hby d5_34) rfl kq) ?_
  show own_Go _ _ _ _ (T2.setTop (mkF m 35 #[sR a1, sI (300 : Int32), sJ (308 : Int64), .second] [(Value.int (lcmpW (308 : Int64) (256 : Int64)))]))
  refine own_Go.by (fun tq kq => XS.ifNo X2.here hx rfl (hb hby d5_35) rfl ((if0 _ _).trans (tlt ((lw_gt (308 : Int64) (256 : Int64)).mpr (by decide : (256 : Int64) < (308 : Int64)))).2.2.2) kq) ?_
  refine own_Go.by (fun tq kq => XS.aloadN X2.here hx rfl (hb hby d5_38) rfl rfl kq) ?_
  refine own_Go.by (fun tq kq => XS.aloadN X2.here hx rfl (hb hby d5_39) rfl rfl kq) ?_
  show own_Go _ _ _ _ (T2.setTop (mkF m 40 #[sR a1, sI (300 : Int32), sJ (308 : Int64), .second] [(Value.ref a1), (Value.ref a1)]))
  obtain ⟨T4, X4, e4, st4⟩ := getF X2 hx hZ hown (host := "") (Or.inl (hw _ (List.mem_of_getElem? (i := 15) rfl))) Via.refl e2 H1 (g := (mkF m 40 #[sR a1, sI (300 : Int32), sJ (308 : Int64), .second] [(Value.ref a1), (Value.ref a1)])) rfl rfl (hb hby d5_40)
  refine own_Go.by st4 ?_
  show own_Go _ _ _ _ (T4.setTop (mkF m 43 #[sR a1, sI (300 : Int32), sJ (308 : Int64), .second] [(Value.ref aB), (Value.ref a1)]))
  refine own_Go.by (fun tq kq => X4.ldc2Long hx hown (mvT hZ (hw _ (List.mem_of_getElem? (i := 40) rfl))) (g := (mkF m 43 #[sR a1, sI (300 : Int32), sJ (308 : Int64), .second] [(Value.ref aB), (Value.ref a1)])) rfl (hb hby d5_43) _ kq) ?_
  show own_Go _ _ _ _ (T4.setTop (mkF m 46 #[sR a1, sI (300 : Int32), sJ (308 : Int64), .second] [(Value.long (2147483639 : Int64)), (Value.ref aB), (Value.ref a1)]))
  refine own_Go.by (fun tq kq => X4.ldc2Long hx hown (mvT hZ (hw _ (List.mem_of_getElem? (i := 83) rfl))) (g := (mkF m 46 #[sR a1, sI (300 : Int32), sJ (308 : Int64), .second] [(Value.long (2147483639 : Int64)), (Value.ref aB), (Value.ref a1)])) rfl (hb hby d5_46) _ kq) ?_
  refine own_Go.by (fun tq kq => XS.aloadN X4.here hx rfl (hb hby d5_49) rfl rfl kq) ?_
  show own_Go _ _ _ _ (T4.setTop (mkF m 50 #[sR a1, sI (300 : Int32), sJ (308 : Int64), .second] [(Value.ref a1), (Value.long (2 : Int64)), (Value.long (2147483639 : Int64)), (Value.ref aB), (Value.ref a1)]))
  obtain ⟨T5, X5, e5, st5⟩ := getF X4 hx hZ hown (host := "") (Or.inl (hw _ (List.mem_of_getElem? (i := 15) rfl))) Via.refl e4 H1 (g := (mkF m 50 #[sR a1, sI (300 : Int32), sJ (308 : Int64), .second] [(Value.ref a1), (Value.long (2 : Int64)), (Value.long (2147483639 : Int64)), (Value.ref aB), (Value.ref a1)])) rfl rfl (hb hby d5_50)
  refine own_Go.by st5 ?_
  show own_Go _ _ _ _ (T5.setTop (mkF m 53 #[sR a1, sI (300 : Int32), sJ (308 : Int64), .second] [(Value.ref aB), (Value.long (2 : Int64)), (Value.long (2147483639 : Int64)), (Value.ref aB), (Value.ref a1)]))
  obtain ⟨cl6, Ar6, q6, S6, M6, Hh6, G6⟩ := id H3
  refine own_Go.by (fun tq kq => X5.arraylength hx (by rw [e5]; exact Ar6.1) (State.isArrayOf_alike hZ.alike Ar6.2.1) (g := (mkF m 53 #[sR a1, sI (300 : Int32), sJ (308 : Int64), .second] [(Value.ref aB), (Value.long (2 : Int64)), (Value.long (2147483639 : Int64)), (Value.ref aB), (Value.ref a1)])) rfl rfl (hb hby d5_53) _ kq) ?_
  rw [len_of S6 M6]
  refine own_Go.by (fun tq kq => XS.i2l X5.here hx rfl (hb hby d5_54) rfl kq) ?_
  show own_Go _ _ _ _ (T5.setTop (mkF m 55 #[sR a1, sI (300 : Int32), sJ (308 : Int64), .second] [(Value.long (256 : Int64)), (Value.long (2 : Int64)), (Value.long (2147483639 : Int64)), (Value.ref aB), (Value.ref a1)]))
  refine own_Go.by (fun tq kq => XS.lmul X5.here hx rfl (hb hby d5_55) rfl kq) ?_
  refine own_Go.by (fun tq kq => XS.lloadN X5.here hx rfl (hb hby d5_56) rfl kq) ?_
  show own_Go _ _ _ _ (T5.setTop (mkF m 57 #[sR a1, sI (300 : Int32), sJ (308 : Int64), .second] [(Value.long (308 : Int64)), (Value.long (512 : Int64)), (Value.long (2147483639 : Int64)), (Value.ref aB), (Value.ref a1)]))
  obtain ⟨_, _, ⟨T7, L7, k7, n7⟩, -, X7, ⟨Lc7, hQ7, l7, y7, z7⟩, st7⟩ := Jvm.LawKit.callS X5 hx (y := (⟨"java/lang/Math", "max", "(JJ)J"⟩ : MethodName)) hown (mvT hZ (hw _ (List.mem_of_getElem? (i := 84) rfl))) (mvT hZ (hw _ (List.mem_of_getElem? (i := 85) rfl))) (mvT hZ (hw _ (List.mem_of_getElem? (i := 66) rfl))) (mvT hZ (hw _ (List.mem_of_getElem? (i := 86) rfl))) (by decide) (backOf (W := 4) (rm13 l Z a0 hw [] (512 : Int64) (308 : Int64) h0 n0 O0 ) hZ (hw _ (List.mem_of_getElem? (i := 86) rfl)) (hw _ (List.mem_of_getElem? (i := 66) rfl)) (by decide) (by decide)) (g := (mkF m 57 #[sR a1, sI (300 : Int32), sJ (308 : Int64), .second] [(Value.long (308 : Int64)), (Value.long (512 : Int64)), (Value.long (2147483639 : Int64)), (Value.ref aB), (Value.ref a1)])) rfl (by rw [hml]; rfl) (argsL := [(Value.long (512 : Int64)), (Value.long (308 : Int64))]) (rest := [(Value.long (2147483639 : Int64)), (Value.ref aB), (Value.ref a1)]) (lenOf own_pd7 rfl) rfl (by show 2 * 0 + _ ≤ _; exact Nat.le_of_eq rfl) (hb hby d5_57) (fun _ _ => ⟨rfl, e5, (by decide : 0 + 0 ≤ _), (by decide : 0 + 0 ≤ _)⟩)
  dsimp only [Pt.U, Pt.locs, Pt.cells, Pt.slots] at X7 l7 y7 z7 st7 hQ7
  subst l7 y7 z7
  refine own_Go.by st7 ?_
  obtain ⟨rfl, N7q, e7⟩ := hQ7
  have N7 := Fr.app N0 N7q
  show own_Go _ _ _ _ (T7.setTop (mkF m 60 #[sR a1, sI (300 : Int32), sJ (308 : Int64), .second] [(Value.long (512 : Int64)), (Value.long (2147483639 : Int64)), (Value.ref aB), (Value.ref a1)]))
  obtain ⟨_, _, ⟨T8, L8, k8, n8⟩, -, X8, ⟨Lc8, hQ8, l8, y8, z8⟩, st8⟩ := Jvm.LawKit.callS X7 hx (y := (⟨"java/lang/Math", "min", "(JJ)J"⟩ : MethodName)) hown (mvT hZ (hw _ (List.mem_of_getElem? (i := 87) rfl))) (mvT hZ (hw _ (List.mem_of_getElem? (i := 88) rfl))) (mvT hZ (hw _ (List.mem_of_getElem? (i := 66) rfl))) (mvT hZ (hw _ (List.mem_of_getElem? (i := 89) rfl))) (by decide) (backOf (W := 2) (rm14 l Z a0 hw [] (2147483639 : Int64) (512 : Int64) h0 n0 O0 ) hZ (hw _ (List.mem_of_getElem? (i := 89) rfl)) (hw _ (List.mem_of_getElem? (i := 66) rfl)) (by decide) (by decide)) (g := (mkF m 60 #[sR a1, sI (300 : Int32), sJ (308 : Int64), .second] [(Value.long (512 : Int64)), (Value.long (2147483639 : Int64)), (Value.ref aB), (Value.ref a1)])) rfl (by rw [hml]; rfl) (argsL := [(Value.long (2147483639 : Int64)), (Value.long (512 : Int64))]) (rest := [(Value.ref aB), (Value.ref a1)]) (lenOf own_pd7 rfl) rfl (by show 2 * 0 + _ ≤ _; exact Nat.le_of_eq rfl) (hb hby d5_60) (fun _ _ => ⟨rfl, e7, (by decide : 0 + 0 ≤ _), (by decide : 0 + 0 ≤ _)⟩)
  dsimp only [Pt.U, Pt.locs, Pt.cells, Pt.slots] at X8 l8 y8 z8 st8 hQ8
  subst l8 y8 z8
  refine own_Go.by st8 ?_
  obtain ⟨rfl, N8q, e8⟩ := hQ8
  have N8 := Fr.app N7 N8q
  refine own_Go.by (fun tq kq => XS.l2i X8.here hx rfl (hb hby d5_63) rfl kq) ?_
  show own_Go _ _ _ _ (T8.setTop (mkF m 64 #[sR a1, sI (300 : Int32), sJ (308 : Int64), .second] [(Value.int (512 : Int32)), (Value.ref aB), (Value.ref a1)]))
  obtain ⟨_, _, ⟨T9, L9, k9, n9⟩, -, X9, ⟨Lc9, hQ9, l9, y9, z9⟩, st9⟩ := Jvm.LawKit.callS X8 hx (y := (⟨"java/util/Arrays", "copyOf", "([BI)[B"⟩ : MethodName)) hown (mvT hZ (hw _ (List.mem_of_getElem? (i := 60) rfl))) (mvT hZ (hw _ (List.mem_of_getElem? (i := 61) rfl))) (mvT hZ (hw _ (List.mem_of_getElem? (i := 62) rfl))) (mvT hZ (hw _ (List.mem_of_getElem? (i := 63) rfl))) (by decide) (backOf (W := 1) (rm9_256_512 l Z a0 hw [] aB kB vs h0 n0 O0 H3) hZ (hw _ (List.mem_of_getElem? (i := 63) rfl)) (hw _ (List.mem_of_getElem? (i := 62) rfl)) (by decide) (by decide)) (g := (mkF m 64 #[sR a1, sI (300 : Int32), sJ (308 : Int64), .second] [(Value.int (512 : Int32)), (Value.ref aB), (Value.ref a1)])) rfl (by rw [hml]; rfl) (argsL := [(Value.ref aB), (Value.int (512 : Int32))]) (rest := [(Value.ref a1)]) (lenOf own_pd3 rfl) rfl (by show 2 * 0 + _ ≤ _; exact Nat.le_of_eq rfl) (hb hby d5_64) (fun _ _ => ⟨rfl, e8, (by decide : 0 + 1 ≤ _), (by decide : 0 + 512 ≤ _)⟩)
  dsimp only [Pt.U, Pt.locs, Pt.cells, Pt.slots] at X9 l9 y9 z9 st9 hQ9
  subst l9 y9 z9
  refine own_Go.by st9 ?_
  obtain ⟨b_9, k2_9, rfl, N9q, K9q, p9_0, p9_1, p9_2⟩ := hQ9
  have N9 := Fr.app N8 N9q
  have O10 := O0.keep K9q all0
  have K10 := K0.trans K9q all0
  have g11 : n0 ≤ b_9 := Nat.le_trans (own_old_le O0) p9_0
  have z11 : h0.size ≤ b_9 := Nat.le_trans K0.1 p9_0
  show own_Go _ _ _ _ (T9.setTop (mkF m 67 #[sR a1, sI (300 : Int32), sJ (308 : Int64), .second] [(Value.ref b_9), (Value.ref a1)]))
  have c12 := (H1.keep K9q nin0)
  have c13 := (H0.keep K9q)
  obtain ⟨T14, h14, X14, e14, W14, st14⟩ := putF X9 hx hZ hown (host := "") (Or.inl (hw _ (List.mem_of_getElem? (i := 15) rfl))) Via.refl rfl c12 c13 (Or.inl (hw _ (List.mem_of_getElem? (i := 16) rfl))) (hw _ (List.mem_of_getElem? (i := 7) rfl)) (ty := (.array .byte)) (by decide) rfl rfl (g := (mkF m 67 #[sR a1, sI (300 : Int32), sJ (308 : Int64), .second] [(Value.ref b_9), (Value.ref a1)])) rfl rfl (hb hby d5_67)
  refine own_Go.by st14 ?_
  have N14 := Fr.snoc X14 N9 H4
  have O15 := O10.wr W14 H4
  have K15 := K10.wr W14 (Or.inl (List.mem_of_getElem? (i := 0) rfl))
  have F14 := c12.same W14
  show own_Go _ _ _ _ (T14.setTop (mkF m 70 #[sR a1, sI (300 : Int32), sJ (308 : Int64), .second] []))
  have c16 := (c13.wr W14)
  have c17 := ((H2.keep K9q nin0).other W14 (Or.inr (slot_ne (Or.inl (hw _ (List.mem_of_getElem? (i := 39) rfl))) (Or.inl (hw _ (List.mem_of_getElem? (i := 16) rfl))) (by decide) (t := .int) (t' := (.array .byte)) (by decide) (by decide))))
  have c18 := (p9_2.other W14 (Ne.symm (Nat.ne_of_lt (Nat.lt_of_lt_of_le H0.lt p9_0))))
  obtain ⟨fs, hr, hrun, hended, hW, hsame⟩ := X14.leave (v := none) (fun _ => rfl)
  refine own_Go.fin (X14.returnOut hx Bd.returns (hb hby d5_70) hr) ⟨hrun, hended, _, _, rfl, ?_, ⟨_, rfl⟩, hW, hsame.mono (by decide) (by decide)⟩
  show Q5_g8 Z a1 aB kB vs h0 n0 _ T14.heap _
  rw [e14]
  exact ⟨b_9, k2_9, rfl, N14, K15, z11, c16, F14, c17, c18⟩

theorem own_ef_5_g9 (m : MethodId) (a1 : Addr) : entryFrame m #[(Value.ref a1), (Value.int (300 : Int32))] 4 = mkF m 0 #[sR a1, sI (300 : Int32), .unset, .unset] [] := by first | (simp [entryFrame, mkF, argsToLocals, Value.category]; done) | rfl
def Q5_g9 (Z : State) (a1 : Addr) (aB : Addr) (kB : ClassId) (vs : List Value) (h0 : Heap) (n0 : Nat) (v : Option Value) (h : Heap) (L : List Loc) : Prop := ∃ (b : Addr), ∃ (k2 : ClassId), v = none ∧ Fr n0 L ∧ Keep h0 h [a1] ∧ (h0.size ≤ b) ∧ (Exa Z h a1 "com/example/ebbtide/ebbtide/core/Encoder") ∧ (Fld Z h a1 "com/example/ebbtide/ebbtide/core/Encoder" "bytes" "[B" (Value.ref b)) ∧ (Fld Z h a1 "com/example/ebbtide/ebbtide/core/Encoder" "length" "I" (Value.int (9 : Int32))) ∧ (Arv Z h b k2 .byte (512 : Int32) (own_cp vs 256 ++ List.replicate 256 (Value.int (0 : Int32))) (Value.int (0 : Int32)))
set_option maxRecDepth 65536 in
set_option maxHeartbeats 40000000 in
theorem rm5_g9 (l : Launch) (Z : State) (a0 : Array Value) (hw : ∀ d ∈ tables_1, d.before a0 Z = true) (ws : List Jvm.Cond) (a1 : Addr) (aB : Addr) (kB : ClassId) (vs : List Value) (h0 : Heap) (n0 : Nat) (O0 : Old Z n0 h0) (H0 : Exa Z h0 a1 "com/example/ebbtide/ebbtide/core/Encoder") (H1 : Fld Z h0 a1 "com/example/ebbtide/ebbtide/core/Encoder" "bytes" "[B" (Value.ref aB)) (H2 : Fld Z h0 a1 "com/example/ebbtide/ebbtide/core/Encoder" "length" "I" (Value.int (9 : Int32))) (H3 : Arv Z h0 aB kB .byte (256 : Int32) vs (Value.int (0 : Int32))) (H4 : n0 ≤ a1) :
    MetFree l (⟨"com/example/ebbtide/ebbtide/core/Encoder", "ensure", "(I)V"⟩ : MethodName) (head1 (Jvm.Cond.code (⟨"com/example/ebbtide/ebbtide/core/Encoder", "ensure", "(I)V"⟩ : MethodName) prog_10_method_10_code 4 none :: ws) ({ frames := 2, cells := 1, slots := 512, locals := 33 } : Room)) (fun a U => a = #[(Value.ref a1), (Value.int (300 : Int32))] ∧ Z.Warmed39 U.vm ∧ U.heap = h0) (fun _ _ _ _ _ => True) (fun _ U o U' => ∃ v L, o = .returned v ∧ Q5_g9 Z a1 aB kB vs h0 n0 v U'.heap L ∧ FrameEnd U o U' L ({ frames := 2, cells := 1, slots := 512, locals := 33 } : Room).cells ({ frames := 2, cells := 1, slots := 512, locals := 33 } : Room).slots) := by
  refine MetFree.of_bodySF (plainFor_of_name own_pn_com_example_ebbtide_ebbtide_core_Encoder) hisR ?_
  intro p e s m args below meth c s₁ Bd hml0 hP hK
  obtain ⟨rfl, hZ, hh⟩ := hP
  have hx := Bd.exec
  have hby := Bd.bytes
  have hml : c.maxLocals = 4 := hml0
  have hown : s.vm.findClass "com/example/ebbtide/ebbtide/core/Encoder" = some m.cls := findClass_of_methodNamed Bd.named
  have hnm := (name_of_methodNamed Bd.named Bd.method).1
  have X0 : Stand p l e ({ frames := 2, cells := 1, slots := 512, locals := 33 } : Room) s m #[(Value.ref a1), (Value.int (300 : Int32))] below meth c s₁ [] 0 0 := Stand.of_body Bd
  have e0 : s₁.heap = h0 := by rw [← hh, Bd.state]; rfl
  have N0 := Fr.nil n0
  have K0 := Keep.refl h0 [a1]
  show own_Go _ _ _ _ (s₁.setTop (entryFrame m #[(Value.ref a1), (Value.int (300 : Int32))] 4))
  refine own_Go.by (fun tq kq => castTop (own_ef_5_g9 m a1) kq) ?_
  show own_Go _ _ _ _ (s₁.setTop (mkF m 0 #[sR a1, sI (300 : Int32), .unset, .unset] []))
  refine own_Go.by (fun tq kq => XS.aloadN X0.here hx rfl (hb hby d5_0) rfl rfl kq) ?_
  show own_Go _ _ _ _ (s₁.setTop (mkF m 1 #[sR a1, sI (300 : Int32), .unset, .unset] [(Value.ref a1)]))
  obtain ⟨T1, X1, e1, st1⟩ := getF X0 hx hZ hown (host := "") (Or.inl (hw _ (List.mem_of_getElem? (i := 38) rfl))) Via.refl e0 H2 (g := (mkF m 1 #[sR a1, sI (300 : Int32), .unset, .unset] [(Value.ref a1)])) rfl rfl (hb hby d5_1)
  refine own_Go.by st1 ?_
  refine own_Go.by (fun tq kq => XS.i2l X1.here hx rfl (hb hby d5_4) rfl kq) ?_
  refine own_Go.by (fun tq kq => XS.iloadN X1.here hx rfl (hb hby d5_5) rfl kq) ?_
  refine own_Go.by (fun tq kq => XS.i2l X1.here hx rfl (hb hby d5_6) rfl kq) ?_
  show own_Go _ _ _ _ (T1.setTop (mkF m 7 #[sR a1, sI (300 : Int32), .unset, .unset] [(Value.long ((300 : Int32).toInt64)), (Value.long ((9 : Int32).toInt64))]))
  refine own_Go.by (fun tq kq => XS.ladd X1.here hx rfl (hb hby d5_7) rfl kq) ?_
  show own_Go _ _ _ _ (T1.setTop (mkF m 8 #[sR a1, sI (300 : Int32), .unset, .unset] [(Value.long (309 : Int64))]))
  refine own_Go.by (fun tq kq => XS.lstoreN X1.here hx rfl (hb hby d5_8) rfl (l' := #[sR a1, sI (300 : Int32), sJ (309 : Int64), .second]) rfl kq) ?_
  refine own_Go.by (fun tq kq => XS.lloadN X1.here hx rfl (hb hby d5_9) rfl kq) ?_
  show own_Go _ _ _ _ (T1.setTop (mkF m 10 #[sR a1, sI (300 : Int32), sJ (309 : Int64), .second] [(Value.long (309 : Int64))]))
  refine own_Go.by (fun tq kq => X1.ldc2Long hx hown (mvT hZ (hw _ (List.mem_of_getElem? (i := 40) rfl))) (g := (mkF m 10 #[sR a1, sI (300 : Int32), sJ (309 : Int64), .second] [(Value.long (309 : Int64))])) rfl (hb hby d5_10) _ kq) ?_
  show own_Go _ _ _ _ (T1.setTop (mkF m 13 #[sR a1, sI (300 : Int32), sJ (309 : Int64), .second] [(Value.long (2147483639 : Int64)), (Value.long (309 : Int64))]))
  refine own_Go.by (fun tq kq => XS.lcmp X1.here hx rfl (hb hby d5_13) rfl kq) ?_
  show own_Go _ _ _ _ (T1.setTop (mkF m 14 #[sR a1, sI (300 : Int32), sJ (309 : Int64), .second] [(Value.int (lcmpW (309 : Int64) (2147483639 : Int64)))]))
  refine own_Go.by (fun tq kq => XS.ifYes X1.here hx rfl (pc0 := 14) (pc' := 27) rfl (hb hby d5_14) rfl ((if0 _ _).trans (flt (mt (lw_gt (309 : Int64) (2147483639 : Int64)).mp (by decide : ¬ ((2147483639 : Int64) < (309 : Int64))))).2.2.2) (by decide) (by decide) kq) ?_
  refine own_Go.by (fun tq kq => XS.lloadN X1.here hx rfl (hb hby d5_27) rfl kq) ?_
  refine own_Go.by (fun tq kq => XS.aloadN X1.here hx rfl (hb hby d5_28) rfl rfl kq) ?_
  show own_Go _ _ _ _ (T1.setTop (mkF m 29 #[sR a1, sI (300 : Int32), sJ (309 : Int64), .second] [(Value.ref a1), (Value.long (309 : Int64))]))
  obtain ⟨T2, X2, e2, st2⟩ := getF X1 hx hZ hown (host := "") (Or.inl (hw _ (List.mem_of_getElem? (i := 15) rfl))) Via.refl e1 H1 (g := (mkF m 29 #[sR a1, sI (300 : Int32), sJ (309 : Int64), .second] [(Value.ref a1), (Value.long (309 : Int64))])) rfl rfl (hb hby d5_29)
  refine own_Go.by st2 ?_
  show own_Go _ _ _ _ (T2.setTop (mkF m 32 #[sR a1, sI (300 : Int32), sJ (309 : Int64), .second] [(Value.ref aB), (Value.long (309 : Int64))]))
  obtain ⟨cl3, Ar3, q3, S3, M3, Hh3, G3⟩ := id H3
  refine own_Go.by (fun tq kq => X2.arraylength hx (by rw [e2]; exact Ar3.1) (State.isArrayOf_alike hZ.alike Ar3.2.1) (g := (mkF m 32 #[sR a1, sI (300 : Int32), sJ (309 : Int64), .second] [(Value.ref aB), (Value.long (309 : Int64))])) rfl rfl (hb hby d5_32) _ kq) ?_
  rw [len_of S3 M3]
  refine own_Go.by (fun tq kq => XS.i2l X2.here hx rfl (hb hby d5_33) rfl kq) ?_
  show own_Go _ _ _ _ (T2.setTop (mkF m 34 #[sR a1, sI (300 : Int32), sJ (309 : Int64), .second] [(Value.long (256 : Int64)), (Value.long (309 : Int64))]))
  refine own_Go.by (fun tq kq => XS.lcmp X2.here hx rfl (hb hby d5_34) rfl kq) ?_
  show own_Go _ _ _ _ (T2.setTop (mkF m 35 #[sR a1, sI (300 : Int32), sJ (309 : Int64), .second] [(Value.int (lcmpW (309 : Int64) (256 : Int64)))]))
  refine own_Go.by (fun tq kq => XS.ifNo X2.here hx rfl (hb hby d5_35) rfl ((if0 _ _).trans (tlt ((lw_gt (309 : Int64) (256 : Int64)).mpr (by decide : (256 : Int64) < (309 : Int64)))).2.2.2) kq) ?_
  refine own_Go.by (fun tq kq => XS.aloadN X2.here hx rfl (hb hby d5_38) rfl rfl kq) ?_
  refine own_Go.by (fun tq kq => XS.aloadN X2.here hx rfl (hb hby d5_39) rfl rfl kq) ?_
  show own_Go _ _ _ _ (T2.setTop (mkF m 40 #[sR a1, sI (300 : Int32), sJ (309 : Int64), .second] [(Value.ref a1), (Value.ref a1)]))
  obtain ⟨T4, X4, e4, st4⟩ := getF X2 hx hZ hown (host := "") (Or.inl (hw _ (List.mem_of_getElem? (i := 15) rfl))) Via.refl e2 H1 (g := (mkF m 40 #[sR a1, sI (300 : Int32), sJ (309 : Int64), .second] [(Value.ref a1), (Value.ref a1)])) rfl rfl (hb hby d5_40)
  refine own_Go.by st4 ?_
  show own_Go _ _ _ _ (T4.setTop (mkF m 43 #[sR a1, sI (300 : Int32), sJ (309 : Int64), .second] [(Value.ref aB), (Value.ref a1)]))
  refine own_Go.by (fun tq kq => X4.ldc2Long hx hown (mvT hZ (hw _ (List.mem_of_getElem? (i := 40) rfl))) (g := (mkF m 43 #[sR a1, sI (300 : Int32), sJ (309 : Int64), .second] [(Value.ref aB), (Value.ref a1)])) rfl (hb hby d5_43) _ kq) ?_
  show own_Go _ _ _ _ (T4.setTop (mkF m 46 #[sR a1, sI (300 : Int32), sJ (309 : Int64), .second] [(Value.long (2147483639 : Int64)), (Value.ref aB), (Value.ref a1)]))
  refine own_Go.by (fun tq kq => X4.ldc2Long hx hown (mvT hZ (hw _ (List.mem_of_getElem? (i := 83) rfl))) (g := (mkF m 46 #[sR a1, sI (300 : Int32), sJ (309 : Int64), .second] [(Value.long (2147483639 : Int64)), (Value.ref aB), (Value.ref a1)])) rfl (hb hby d5_46) _ kq) ?_
  refine own_Go.by (fun tq kq => XS.aloadN X4.here hx rfl (hb hby d5_49) rfl rfl kq) ?_
  show own_Go _ _ _ _ (T4.setTop (mkF m 50 #[sR a1, sI (300 : Int32), sJ (309 : Int64), .second] [(Value.ref a1), (Value.long (2 : Int64)), (Value.long (2147483639 : Int64)), (Value.ref aB), (Value.ref a1)]))
  obtain ⟨T5, X5, e5, st5⟩ := getF X4 hx hZ hown (host := "") (Or.inl (hw _ (List.mem_of_getElem? (i := 15) rfl))) Via.refl e4 H1 (g := (mkF m 50 #[sR a1, sI (300 : Int32), sJ (309 : Int64), .second] [(Value.ref a1), (Value.long (2 : Int64)), (Value.long (2147483639 : Int64)), (Value.ref aB), (Value.ref a1)])) rfl rfl (hb hby d5_50)
  refine own_Go.by st5 ?_
  show own_Go _ _ _ _ (T5.setTop (mkF m 53 #[sR a1, sI (300 : Int32), sJ (309 : Int64), .second] [(Value.ref aB), (Value.long (2 : Int64)), (Value.long (2147483639 : Int64)), (Value.ref aB), (Value.ref a1)]))
  obtain ⟨cl6, Ar6, q6, S6, M6, Hh6, G6⟩ := id H3
  refine own_Go.by (fun tq kq => X5.arraylength hx (by rw [e5]; exact Ar6.1) (State.isArrayOf_alike hZ.alike Ar6.2.1) (g := (mkF m 53 #[sR a1, sI (300 : Int32), sJ (309 : Int64), .second] [(Value.ref aB), (Value.long (2 : Int64)), (Value.long (2147483639 : Int64)), (Value.ref aB), (Value.ref a1)])) rfl rfl (hb hby d5_53) _ kq) ?_
  rw [len_of S6 M6]
  refine own_Go.by (fun tq kq => XS.i2l X5.here hx rfl (hb hby d5_54) rfl kq) ?_
  show own_Go _ _ _ _ (T5.setTop (mkF m 55 #[sR a1, sI (300 : Int32), sJ (309 : Int64), .second] [(Value.long (256 : Int64)), (Value.long (2 : Int64)), (Value.long (2147483639 : Int64)), (Value.ref aB), (Value.ref a1)]))
  refine own_Go.by (fun tq kq => XS.lmul X5.here hx rfl (hb hby d5_55) rfl kq) ?_
  refine own_Go.by (fun tq kq => XS.lloadN X5.here hx rfl (hb hby d5_56) rfl kq) ?_
  show own_Go _ _ _ _ (T5.setTop (mkF m 57 #[sR a1, sI (300 : Int32), sJ (309 : Int64), .second] [(Value.long (309 : Int64)), (Value.long (512 : Int64)), (Value.long (2147483639 : Int64)), (Value.ref aB), (Value.ref a1)]))
  obtain ⟨_, _, ⟨T7, L7, k7, n7⟩, -, X7, ⟨Lc7, hQ7, l7, y7, z7⟩, st7⟩ := Jvm.LawKit.callS X5 hx (y := (⟨"java/lang/Math", "max", "(JJ)J"⟩ : MethodName)) hown (mvT hZ (hw _ (List.mem_of_getElem? (i := 84) rfl))) (mvT hZ (hw _ (List.mem_of_getElem? (i := 85) rfl))) (mvT hZ (hw _ (List.mem_of_getElem? (i := 66) rfl))) (mvT hZ (hw _ (List.mem_of_getElem? (i := 86) rfl))) (by decide) (backOf (W := 4) (rm13 l Z a0 hw [] (512 : Int64) (309 : Int64) h0 n0 O0 ) hZ (hw _ (List.mem_of_getElem? (i := 86) rfl)) (hw _ (List.mem_of_getElem? (i := 66) rfl)) (by decide) (by decide)) (g := (mkF m 57 #[sR a1, sI (300 : Int32), sJ (309 : Int64), .second] [(Value.long (309 : Int64)), (Value.long (512 : Int64)), (Value.long (2147483639 : Int64)), (Value.ref aB), (Value.ref a1)])) rfl (by rw [hml]; rfl) (argsL := [(Value.long (512 : Int64)), (Value.long (309 : Int64))]) (rest := [(Value.long (2147483639 : Int64)), (Value.ref aB), (Value.ref a1)]) (lenOf own_pd7 rfl) rfl (by show 2 * 0 + _ ≤ _; exact Nat.le_of_eq rfl) (hb hby d5_57) (fun _ _ => ⟨rfl, e5, (by decide : 0 + 0 ≤ _), (by decide : 0 + 0 ≤ _)⟩)
  dsimp only [Pt.U, Pt.locs, Pt.cells, Pt.slots] at X7 l7 y7 z7 st7 hQ7
  subst l7 y7 z7
  refine own_Go.by st7 ?_
  obtain ⟨rfl, N7q, e7⟩ := hQ7
  have N7 := Fr.app N0 N7q
  show own_Go _ _ _ _ (T7.setTop (mkF m 60 #[sR a1, sI (300 : Int32), sJ (309 : Int64), .second] [(Value.long (512 : Int64)), (Value.long (2147483639 : Int64)), (Value.ref aB), (Value.ref a1)]))
  obtain ⟨_, _, ⟨T8, L8, k8, n8⟩, -, X8, ⟨Lc8, hQ8, l8, y8, z8⟩, st8⟩ := Jvm.LawKit.callS X7 hx (y := (⟨"java/lang/Math", "min", "(JJ)J"⟩ : MethodName)) hown (mvT hZ (hw _ (List.mem_of_getElem? (i := 87) rfl))) (mvT hZ (hw _ (List.mem_of_getElem? (i := 88) rfl))) (mvT hZ (hw _ (List.mem_of_getElem? (i := 66) rfl))) (mvT hZ (hw _ (List.mem_of_getElem? (i := 89) rfl))) (by decide) (backOf (W := 2) (rm14 l Z a0 hw [] (2147483639 : Int64) (512 : Int64) h0 n0 O0 ) hZ (hw _ (List.mem_of_getElem? (i := 89) rfl)) (hw _ (List.mem_of_getElem? (i := 66) rfl)) (by decide) (by decide)) (g := (mkF m 60 #[sR a1, sI (300 : Int32), sJ (309 : Int64), .second] [(Value.long (512 : Int64)), (Value.long (2147483639 : Int64)), (Value.ref aB), (Value.ref a1)])) rfl (by rw [hml]; rfl) (argsL := [(Value.long (2147483639 : Int64)), (Value.long (512 : Int64))]) (rest := [(Value.ref aB), (Value.ref a1)]) (lenOf own_pd7 rfl) rfl (by show 2 * 0 + _ ≤ _; exact Nat.le_of_eq rfl) (hb hby d5_60) (fun _ _ => ⟨rfl, e7, (by decide : 0 + 0 ≤ _), (by decide : 0 + 0 ≤ _)⟩)
  dsimp only [Pt.U, Pt.locs, Pt.cells, Pt.slots] at X8 l8 y8 z8 st8 hQ8
  subst l8 y8 z8
  refine own_Go.by st8 ?_
  obtain ⟨rfl, N8q, e8⟩ := hQ8
  have N8 := Fr.app N7 N8q
  refine own_Go.by (fun tq kq => XS.l2i X8.here hx rfl (hb hby d5_63) rfl kq) ?_
  show own_Go _ _ _ _ (T8.setTop (mkF m 64 #[sR a1, sI (300 : Int32), sJ (309 : Int64), .second] [(Value.int (512 : Int32)), (Value.ref aB), (Value.ref a1)]))
  obtain ⟨_, _, ⟨T9, L9, k9, n9⟩, -, X9, ⟨Lc9, hQ9, l9, y9, z9⟩, st9⟩ := Jvm.LawKit.callS X8 hx (y := (⟨"java/util/Arrays", "copyOf", "([BI)[B"⟩ : MethodName)) hown (mvT hZ (hw _ (List.mem_of_getElem? (i := 60) rfl))) (mvT hZ (hw _ (List.mem_of_getElem? (i := 61) rfl))) (mvT hZ (hw _ (List.mem_of_getElem? (i := 62) rfl))) (mvT hZ (hw _ (List.mem_of_getElem? (i := 63) rfl))) (by decide) (backOf (W := 1) (rm9_256_512 l Z a0 hw [] aB kB vs h0 n0 O0 H3) hZ (hw _ (List.mem_of_getElem? (i := 63) rfl)) (hw _ (List.mem_of_getElem? (i := 62) rfl)) (by decide) (by decide)) (g := (mkF m 64 #[sR a1, sI (300 : Int32), sJ (309 : Int64), .second] [(Value.int (512 : Int32)), (Value.ref aB), (Value.ref a1)])) rfl (by rw [hml]; rfl) (argsL := [(Value.ref aB), (Value.int (512 : Int32))]) (rest := [(Value.ref a1)]) (lenOf own_pd3 rfl) rfl (by show 2 * 0 + _ ≤ _; exact Nat.le_of_eq rfl) (hb hby d5_64) (fun _ _ => ⟨rfl, e8, (by decide : 0 + 1 ≤ _), (by decide : 0 + 512 ≤ _)⟩)
  dsimp only [Pt.U, Pt.locs, Pt.cells, Pt.slots] at X9 l9 y9 z9 st9 hQ9
  subst l9 y9 z9
  refine own_Go.by st9 ?_
  obtain ⟨b_9, k2_9, rfl, N9q, K9q, p9_0, p9_1, p9_2⟩ := hQ9
  have N9 := Fr.app N8 N9q
  have O10 := O0.keep K9q all0
  have K10 := K0.trans K9q all0
  have g11 : n0 ≤ b_9 := Nat.le_trans (own_old_le O0) p9_0
  have z11 : h0.size ≤ b_9 := Nat.le_trans K0.1 p9_0
  show own_Go _ _ _ _ (T9.setTop (mkF m 67 #[sR a1, sI (300 : Int32), sJ (309 : Int64), .second] [(Value.ref b_9), (Value.ref a1)]))
  have c12 := (H1.keep K9q nin0)
  have c13 := (H0.keep K9q)
  obtain ⟨T14, h14, X14, e14, W14, st14⟩ := putF X9 hx hZ hown (host := "") (Or.inl (hw _ (List.mem_of_getElem? (i := 15) rfl))) Via.refl rfl c12 c13 (Or.inl (hw _ (List.mem_of_getElem? (i := 16) rfl))) (hw _ (List.mem_of_getElem? (i := 7) rfl)) (ty := (.array .byte)) (by decide) rfl rfl (g := (mkF m 67 #[sR a1, sI (300 : Int32), sJ (309 : Int64), .second] [(Value.ref b_9), (Value.ref a1)])) rfl rfl (hb hby d5_67)
  refine own_Go.by st14 ?_
  have N14 := Fr.snoc X14 N9 H4
  have O15 := O10.wr W14 H4
  have K15 := K10.wr W14 (Or.inl (List.mem_of_getElem? (i := 0) rfl))
  have F14 := c12.same W14
  show own_Go _ _ _ _ (T14.setTop (mkF m 70 #[sR a1, sI (300 : Int32), sJ (309 : Int64), .second] []))
  have c16 := (c13.wr W14)
  have c17 := ((H2.keep K9q nin0).other W14 (Or.inr (slot_ne (Or.inl (hw _ (List.mem_of_getElem? (i := 39) rfl))) (Or.inl (hw _ (List.mem_of_getElem? (i := 16) rfl))) (by decide) (t := .int) (t' := (.array .byte)) (by decide) (by decide))))
  have c18 := (p9_2.other W14 (Ne.symm (Nat.ne_of_lt (Nat.lt_of_lt_of_le H0.lt p9_0))))
  obtain ⟨fs, hr, hrun, hended, hW, hsame⟩ := X14.leave (v := none) (fun _ => rfl)
  refine own_Go.fin (X14.returnOut hx Bd.returns (hb hby d5_70) hr) ⟨hrun, hended, _, _, rfl, ?_, ⟨_, rfl⟩, hW, hsame.mono (by decide) (by decide)⟩
  show Q5_g9 Z a1 aB kB vs h0 n0 _ T14.heap _
  rw [e14]
  exact ⟨b_9, k2_9, rfl, N14, K15, z11, c16, F14, c17, c18⟩

theorem d12_0 : decode prog_10_method_7_code 0 = .ok (.aload_n 1, 1) := by decide +kernel
theorem d12_1 : decode prog_10_method_7_code 1 = .ok (.ldc 89, 2) := by decide +kernel
theorem d12_3 : decode prog_10_method_7_code 3 = .ok (.invokestatic 17, 3) := by decide +kernel
theorem d12_6 : decode prog_10_method_7_code 6 = .ok (.pop, 1) := by decide +kernel
theorem d12_7 : decode prog_10_method_7_code 7 = .ok (.aload_n 0, 1) := by decide +kernel
theorem d12_8 : decode prog_10_method_7_code 8 = .ok (.aload_n 1, 1) := by decide +kernel
theorem d12_9 : decode prog_10_method_7_code 9 = .ok (.arraylength, 1) := by decide +kernel
theorem d12_10 : decode prog_10_method_7_code 10 = .ok (.invokevirtual 75, 3) := by decide +kernel
theorem d12_13 : decode prog_10_method_7_code 13 = .ok (.aload_n 1, 1) := by decide +kernel
theorem d12_14 : decode prog_10_method_7_code 14 = .ok (.iconst 0, 1) := by decide +kernel
theorem d12_15 : decode prog_10_method_7_code 15 = .ok (.aload_n 0, 1) := by decide +kernel
theorem d12_16 : decode prog_10_method_7_code 16 = .ok (.getfield 9, 3) := by decide +kernel
theorem d12_19 : decode prog_10_method_7_code 19 = .ok (.aload_n 0, 1) := by decide +kernel
theorem d12_20 : decode prog_10_method_7_code 20 = .ok (.getfield 79, 3) := by decide +kernel
theorem d12_23 : decode prog_10_method_7_code 23 = .ok (.aload_n 1, 1) := by decide +kernel
theorem d12_24 : decode prog_10_method_7_code 24 = .ok (.arraylength, 1) := by decide +kernel
theorem d12_25 : decode prog_10_method_7_code 25 = .ok (.invokestatic 83, 3) := by decide +kernel
theorem d12_28 : decode prog_10_method_7_code 28 = .ok (.aload_n 0, 1) := by decide +kernel
theorem d12_29 : decode prog_10_method_7_code 29 = .ok (.dup, 1) := by decide +kernel
theorem d12_30 : decode prog_10_method_7_code 30 = .ok (.getfield 79, 3) := by decide +kernel
theorem d12_33 : decode prog_10_method_7_code 33 = .ok (.aload_n 1, 1) := by decide +kernel
theorem d12_34 : decode prog_10_method_7_code 34 = .ok (.arraylength, 1) := by decide +kernel
theorem d12_35 : decode prog_10_method_7_code 35 = .ok (.iadd, 1) := by decide +kernel
theorem d12_36 : decode prog_10_method_7_code 36 = .ok (.putfield 79, 3) := by decide +kernel
theorem d12_39 : decode prog_10_method_7_code 39 = .ok (.return_, 1) := by decide +kernel
theorem own_ef_12_7 (m : MethodId) (a1 : Addr) (a2 : Addr) : entryFrame m #[(Value.ref a1), (Value.ref a2)] 2 = mkF m 0 #[sR a1, sR a2] [] := by first | (simp [entryFrame, mkF, argsToLocals, Value.category]; done) | rfl
def Q12_7 (Z : State) (a1 : Addr) (aB : Addr) (kB : ClassId) (vs : List Value) (a2 : Addr) (k3 : ClassId) (us : List Value) (h0 : Heap) (n0 : Nat) (v : Option Value) (h : Heap) (L : List Loc) : Prop := ∃ (b : Addr), ∃ (k2 : ClassId), v = none ∧ Fr n0 L ∧ Keep h0 h [a1] ∧ (h0.size ≤ b) ∧ (Exa Z h a1 "com/example/ebbtide/ebbtide/core/Encoder") ∧ (Fld Z h a1 "com/example/ebbtide/ebbtide/core/Encoder" "bytes" "[B" (Value.ref b)) ∧ (Fld Z h a1 "com/example/ebbtide/ebbtide/core/Encoder" "length" "I" (Value.int (307 : Int32))) ∧ (Arv Z h b k2 .byte (512 : Int32) (((own_cp vs 256 ++ List.replicate 256 (Value.int (0 : Int32)))).take (7 : Int32).toNatClampNeg ++ ((List.range (300 : Int32).toNatClampNeg).map fun i => (us).getD ((0 : Int32).toNatClampNeg + i) (Value.int (0 : Int32))) ++ ((own_cp vs 256 ++ List.replicate 256 (Value.int (0 : Int32)))).drop ((7 : Int32).toNatClampNeg + (300 : Int32).toNatClampNeg)) (Value.int (0 : Int32)))
set_option maxRecDepth 65536 in
set_option maxHeartbeats 40000000 in
theorem rm12_7 (l : Launch) (Z : State) (a0 : Array Value) (hw : ∀ d ∈ tables_1, d.before a0 Z = true) (ws : List Jvm.Cond) (a1 : Addr) (aB : Addr) (kB : ClassId) (vs : List Value) (a2 : Addr) (k3 : ClassId) (us : List Value) (h0 : Heap) (n0 : Nat) (O0 : Old Z n0 h0) (H0 : Exa Z h0 a1 "com/example/ebbtide/ebbtide/core/Encoder") (H1 : Fld Z h0 a1 "com/example/ebbtide/ebbtide/core/Encoder" "bytes" "[B" (Value.ref aB)) (H2 : Fld Z h0 a1 "com/example/ebbtide/ebbtide/core/Encoder" "length" "I" (Value.int (7 : Int32))) (H3 : Arv Z h0 aB kB .byte (256 : Int32) vs (Value.int (0 : Int32))) (H4 : n0 ≤ a1) (H5 : Arv Z h0 a2 k3 .byte (300 : Int32) us (Value.int (0 : Int32))) (H6 : a2 ≠ a1) :
    MetFree l (⟨"com/example/ebbtide/ebbtide/core/Encoder", "bytes", "([B)V"⟩ : MethodName) (head1 (Jvm.Cond.code (⟨"com/example/ebbtide/ebbtide/core/Encoder", "bytes", "([B)V"⟩ : MethodName) prog_10_method_7_code 2 none :: ws) ({ frames := 3, cells := 3, slots := 568, locals := 48 } : Room)) (fun a U => a = #[(Value.ref a1), (Value.ref a2)] ∧ Z.Warmed39 U.vm ∧ U.heap = h0) (fun _ _ _ _ _ => True) (fun _ U o U' => ∃ v L, o = .returned v ∧ Q12_7 Z a1 aB kB vs a2 k3 us h0 n0 v U'.heap L ∧ ReturnedEndW U o U' L ({ frames := 3, cells := 3, slots := 568, locals := 48 } : Room).cells ({ frames := 3, cells := 3, slots := 568, locals := 48 } : Room).slots) := by
  refine MetFree.of_bodySF (plainFor_of_name own_pn_com_example_ebbtide_ebbtide_core_Encoder) hisR ?_
  intro p e s m args below meth c s₁ Bd hml0 hP hK
  obtain ⟨rfl, hZ, hh⟩ := hP
  have hx := Bd.exec
  have hby := Bd.bytes
  have hml : c.maxLocals = 2 := hml0
  have hown : s.vm.findClass "com/example/ebbtide/ebbtide/core/Encoder" = some m.cls := findClass_of_methodNamed Bd.named
  have hnm := (name_of_methodNamed Bd.named Bd.method).1
  have X0 : Stand p l e ({ frames := 3, cells := 3, slots := 568, locals := 48 } : Room) s m #[(Value.ref a1), (Value.ref a2)] below meth c s₁ [] 0 0 := Stand.of_body Bd
  have e0 : s₁.heap = h0 := by rw [← hh, Bd.state]; rfl
  have hS0 : s.Since s.vm 0 := (State.WarmedH.refl s).since 0
  have N0 := Fr.nil n0
  have K0 := Keep.refl h0 [a1]
  show own_Go _ _ _ _ (s₁.setTop (entryFrame m #[(Value.ref a1), (Value.ref a2)] 2))
  refine own_Go.by (fun tq kq => castTop (own_ef_12_7 m a1 a2) kq) ?_
  show own_Go _ _ _ _ (s₁.setTop (mkF m 0 #[sR a1, sR a2] []))
  refine own_Go.by (fun tq kq => XS.aloadN X0.here hx rfl (hb hby d12_0) rfl rfl kq) ?_
  show own_Go _ _ _ _ (s₁.setTop (mkF m 1 #[sR a1, sR a2] [(Value.ref a2)]))
  obtain ⟨sa1, T1, h1, k1, X1, e1, E1, hS1, hk1, hZ1, hown1, st1⟩ := ldcS (s := s) (vm0 := s.vm) X0 hx hZ hown (hw _ (List.mem_of_getElem? (i := 82) rfl)) (fun d hd => hw d (own_wS d hd)) e0 hS0 (Nat.zero_le _) (g := (mkF m 1 #[sR a1, sR a2] [(Value.ref a2)])) rfl (hb hby d12_1) (n := 52) (by decide) (by decide) (by decide) (by decide)
  refine own_Go.by st1 ?_
  have O2 := O0.ext E1
  have K2 := K0.ext E1
  show own_Go _ _ _ _ (T1.setTop (mkF m 3 #[sR a1, sR a2] [(Value.ref sa1), (Value.ref a2)]))
  obtain ⟨_, _, ⟨T3, L3, k3, n3⟩, -, X3, ⟨Lc3, hQ3, l3, y3, z3⟩, st3⟩ := Jvm.LawKit.callS X1 hx (y := (⟨"java/util/Objects", "requireNonNull", "(Ljava/lang/Object;Ljava/lang/String;)Ljava/lang/Object;"⟩ : MethodName)) hown1 (mvT hZ1 (hw _ (List.mem_of_getElem? (i := 24) rfl))) (mvT hZ1 (hw _ (List.mem_of_getElem? (i := 25) rfl))) (mvT hZ1 (hw _ (List.mem_of_getElem? (i := 26) rfl))) (mvT hZ1 (hw _ (List.mem_of_getElem? (i := 27) rfl))) (by decide) (backOf (W := 0) (rm3 l Z a0 hw [] a2 sa1 h1 n0 O2 ) hZ1 (hw _ (List.mem_of_getElem? (i := 27) rfl)) (hw _ (List.mem_of_getElem? (i := 26) rfl)) (by decide) (by decide)) (g := (mkF m 3 #[sR a1, sR a2] [(Value.ref sa1), (Value.ref a2)])) rfl (by rw [hml]; rfl) (argsL := [(Value.ref a2), (Value.ref sa1)]) (rest := []) (lenOf own_pd4 rfl) rfl (by show 2 * 0 + _ ≤ _; exact Nat.le_of_eq rfl) (hb hby d12_3) (fun _ _ => ⟨rfl, e1, (by decide : 2 + 0 ≤ _), (by decide : 56 + 0 ≤ _)⟩)
  dsimp only [Pt.U, Pt.locs, Pt.cells, Pt.slots] at X3 l3 y3 z3 st3 hQ3
  subst l3 y3 z3
  refine own_Go.by st3 ?_
  obtain ⟨rfl, N3q, e3⟩ := hQ3
  have N3 := Fr.app N0 N3q
  show own_Go _ _ _ _ (T3.setTop (mkF m 6 #[sR a1, sR a2] [(Value.ref a2)]))
  refine own_Go.by (fun tq kq => XS.pop X3.here hx rfl (hb hby d12_6) rfl rfl kq) ?_
  refine own_Go.by (fun tq kq => XS.aloadN X3.here hx rfl (hb hby d12_7) rfl rfl kq) ?_
  refine own_Go.by (fun tq kq => XS.aloadN X3.here hx rfl (hb hby d12_8) rfl rfl kq) ?_
  show own_Go _ _ _ _ (T3.setTop (mkF m 9 #[sR a1, sR a2] [(Value.ref a2), (Value.ref a1)]))
  have c4 := (H5.ext E1)
  obtain ⟨cl5, Ar5, q5, S5, M5, Hh5, G5⟩ := id c4
  refine own_Go.by (fun tq kq => X3.arraylength hx (by rw [e3]; exact Ar5.1) (State.isArrayOf_alike hZ1.alike Ar5.2.1) (g := (mkF m 9 #[sR a1, sR a2] [(Value.ref a2), (Value.ref a1)])) rfl rfl (hb hby d12_9) _ kq) ?_
  rw [len_of S5 M5]
  show own_Go _ _ _ _ (T3.setTop (mkF m 10 #[sR a1, sR a2] [(Value.int (300 : Int32)), (Value.ref a1)]))
  have c7 := (H0.ext E1)
  have c8 := (H1.ext E1)
  have c9 := (H2.ext E1)
  have c10 := (H3.ext E1)
  obtain ⟨cq6, q6, q6'⟩ := c7.cell
  obtain ⟨_, _, ⟨T6, L6, k6, n6⟩, -, X6, ⟨Lc6, hQ6, l6, y6, z6⟩, st6⟩ := X3.privateBack hx (y := (⟨"com/example/ebbtide/ebbtide/core/Encoder", "ensure", "(I)V"⟩ : MethodName)) hown1 (mvT hZ1 (hw _ (List.mem_of_getElem? (i := 34) rfl))) (mvT hZ1 (hw _ (List.mem_of_getElem? (i := 35) rfl))) (own_privsel (mvT hZ1 (hw _ (List.mem_of_getElem? (i := 7) rfl)) (args := #[])) (mvP hZ1 (hw _ (List.mem_of_getElem? (i := 36) rfl)) (args := #[])) (mvT hZ1 (hw _ (List.mem_of_getElem? (i := 35) rfl))) (by decide)) (Cond.privateMethod_at (mvP hZ1 (hw _ (List.mem_of_getElem? (i := 36) rfl)) (args := #[]))) (mvT hZ1 (hw _ (List.mem_of_getElem? (i := 37) rfl))) (by decide) (backOf (W := 0) (rm5_g7 l Z a0 hw [] a1 aB kB vs h1 n0 O2 c7 c8 c9 c10 H4) hZ1 (hw _ (List.mem_of_getElem? (i := 37) rfl)) (hw _ (List.mem_of_getElem? (i := 8) rfl)) (by decide) (by decide)) (g := (mkF m 10 #[sR a1, sR a2] [(Value.int (300 : Int32)), (Value.ref a1)])) rfl (by rw [hml]; rfl) (Steps.refl _) (a := a1) (by rw [e3]; exact q6) q6' (argsL := [(Value.int (300 : Int32))]) (rest := []) (lenOf own_pd0 rfl) rfl (by show 2 * 0 + _ ≤ _; exact Nat.le_of_eq rfl) (hb hby d12_10) (fun _ _ => ⟨rfl, e3, (by decide : 2 + 1 ≤ _), (by decide : 56 + 512 ≤ _)⟩)
  dsimp only [Pt.U, Pt.locs, Pt.cells, Pt.slots] at X6 l6 y6 z6 st6 hQ6
  subst l6 y6 z6
  refine own_Go.by (fun tq kq => st6.trans kq) ?_
  obtain ⟨b_6, k2_6, rfl, N6q, K6q, p6_0, p6_1, p6_2, p6_3, p6_4⟩ := hQ6
  have N6 := Fr.app N3 N6q
  have O11 := O2.keep K6q (allS H4 all0)
  have K11 := K2.trans K6q (allS (Or.inl (List.mem_of_getElem? (i := 0) rfl)) all0)
  have hk_11 := Nat.le_trans hk1 K6q.1
  have g12 : n0 ≤ b_6 := Nat.le_trans (own_old_le O2) p6_0
  have z12 : h0.size ≤ b_6 := Nat.le_trans K2.1 p6_0
  refine own_Go.by (fun tq kq => XS.aloadN X6.here hx rfl (hb hby d12_13) rfl rfl kq) ?_
  refine own_Go.by (fun tq kq => XS.iconst X6.here hx rfl (hb hby d12_14) kq) ?_
  refine own_Go.by (fun tq kq => XS.aloadN X6.here hx rfl (hb hby d12_15) rfl rfl kq) ?_
  show own_Go _ _ _ _ (T6.setTop (mkF m 16 #[sR a1, sR a2] [(Value.ref a1), (Value.int (0 : Int32)), (Value.ref a2)]))
  obtain ⟨T13, X13, e13, st13⟩ := getF X6 hx hZ1 hown1 (host := "") (Or.inl (hw _ (List.mem_of_getElem? (i := 15) rfl))) Via.refl rfl p6_2 (g := (mkF m 16 #[sR a1, sR a2] [(Value.ref a1), (Value.int (0 : Int32)), (Value.ref a2)])) rfl rfl (hb hby d12_16)
  refine own_Go.by st13 ?_
  refine own_Go.by (fun tq kq => XS.aloadN X13.here hx rfl (hb hby d12_19) rfl rfl kq) ?_
  show own_Go _ _ _ _ (T13.setTop (mkF m 20 #[sR a1, sR a2] [(Value.ref a1), (Value.ref b_6), (Value.int (0 : Int32)), (Value.ref a2)]))
  obtain ⟨T14, X14, e14, st14⟩ := getF X13 hx hZ1 hown1 (host := "") (Or.inl (hw _ (List.mem_of_getElem? (i := 38) rfl))) Via.refl e13 p6_3 (g := (mkF m 20 #[sR a1, sR a2] [(Value.ref a1), (Value.ref b_6), (Value.int (0 : Int32)), (Value.ref a2)])) rfl rfl (hb hby d12_20)
  refine own_Go.by st14 ?_
  refine own_Go.by (fun tq kq => XS.aloadN X14.here hx rfl (hb hby d12_23) rfl rfl kq) ?_
  show own_Go _ _ _ _ (T14.setTop (mkF m 24 #[sR a1, sR a2] [(Value.ref a2), (Value.int (7 : Int32)), (Value.ref b_6), (Value.int (0 : Int32)), (Value.ref a2)]))
  have c15 := (c4.keep K6q (ninS H6 nin0))
  obtain ⟨cl16, Ar16, q16, S16, M16, Hh16, G16⟩ := id c15
  refine own_Go.by (fun tq kq => X14.arraylength hx (by rw [e14]; exact Ar16.1) (State.isArrayOf_alike hZ1.alike Ar16.2.1) (g := (mkF m 24 #[sR a1, sR a2] [(Value.ref a2), (Value.int (7 : Int32)), (Value.ref b_6), (Value.int (0 : Int32)), (Value.ref a2)])) rfl rfl (hb hby d12_24) _ kq) ?_
  rw [len_of S16 M16]
  show own_Go _ _ _ _ (T14.setTop (mkF m 25 #[sR a1, sR a2] [(Value.int (300 : Int32)), (Value.int (7 : Int32)), (Value.ref b_6), (Value.int (0 : Int32)), (Value.ref a2)]))
  obtain ⟨T17, h17, Lc17, X17, e17, N17, K17q, V17, st17⟩ := cpA X14 hx hZ1 hown1 (hw _ (List.mem_of_getElem? (i := 90) rfl)) (hw _ (List.mem_of_getElem? (i := 71) rfl)) (hw _ (List.mem_of_getElem? (i := 69) rfl)) (hw _ (List.mem_of_getElem? (i := 70) rfl)) e14 c15 p6_4 (us := ((List.range (300 : Int32).toNatClampNeg).map fun i => (us).getD ((0 : Int32).toNatClampNeg + i) (Value.int (0 : Int32)))) (Or.inl ⟨rfl, rfl⟩) (by decide : ¬ ((0 : Int32) < (0 : Int32))) (by decide : ¬ ((7 : Int32) < (0 : Int32))) (by decide : ¬ ((300 : Int32) < (0 : Int32))) (by decide : (0 : Int32).toNatClampNeg + (300 : Int32).toNatClampNeg ≤ (300 : Int32).toNatClampNeg) (by decide : (7 : Int32).toNatClampNeg + (300 : Int32).toNatClampNeg ≤ (512 : Int32).toNatClampNeg) rfl (by simp [own_cp]) N6 g12 (g := (mkF m 25 #[sR a1, sR a2] [(Value.int (300 : Int32)), (Value.int (7 : Int32)), (Value.ref b_6), (Value.int (0 : Int32)), (Value.ref a2)])) rfl (by rw [hml]; rfl) rfl (hb hby d12_25) (by decide) (W := 0) (by show 2 * 0 + _ ≤ _; exact Nat.le_of_eq rfl) (by decide)
  refine own_Go.by st17 ?_
  have O18 := O11.keep K17q (allS g12 all0)
  have K18 := K11.trans K17q (allS (Or.inr z12) all0)
  have hk_18 := Nat.le_trans hk_11 K17q.1
  refine own_Go.by (fun tq kq => XS.aloadN X17.here hx rfl (hb hby d12_28) rfl rfl kq) ?_
  refine own_Go.by (fun tq kq => XS.dup X17.here hx rfl (hb hby d12_29) rfl rfl kq) ?_
  show own_Go _ _ _ _ (T17.setTop (mkF m 30 #[sR a1, sR a2] [(Value.ref a1), (Value.ref a1)]))
  have c19 := (p6_3.keep K17q (ninS (Nat.ne_of_lt (Nat.lt_of_lt_of_le H0.lt (Nat.le_trans E1.1 p6_0))) nin0))
  obtain ⟨T20, X20, e20, st20⟩ := getF X17 hx hZ1 hown1 (host := "") (Or.inl (hw _ (List.mem_of_getElem? (i := 38) rfl))) Via.refl e17 c19 (g := (mkF m 30 #[sR a1, sR a2] [(Value.ref a1), (Value.ref a1)])) rfl rfl (hb hby d12_30)
  refine own_Go.by st20 ?_
  refine own_Go.by (fun tq kq => XS.aloadN X20.here hx rfl (hb hby d12_33) rfl rfl kq) ?_
  show own_Go _ _ _ _ (T20.setTop (mkF m 34 #[sR a1, sR a2] [(Value.ref a2), (Value.int (7 : Int32)), (Value.ref a1)]))
  have c21 := (c15.keep K17q (ninS (Nat.ne_of_lt (Nat.lt_of_lt_of_le H5.lt (Nat.le_trans E1.1 p6_0))) nin0))
  obtain ⟨cl22, Ar22, q22, S22, M22, Hh22, G22⟩ := id c21
  refine own_Go.by (fun tq kq => X20.arraylength hx (by rw [e20]; exact Ar22.1) (State.isArrayOf_alike hZ1.alike Ar22.2.1) (g := (mkF m 34 #[sR a1, sR a2] [(Value.ref a2), (Value.int (7 : Int32)), (Value.ref a1)])) rfl rfl (hb hby d12_34) _ kq) ?_
  rw [len_of S22 M22]
  refine own_Go.by (fun tq kq => XS.iadd X20.here hx rfl (hb hby d12_35) rfl kq) ?_
  show own_Go _ _ _ _ (T20.setTop (mkF m 36 #[sR a1, sR a2] [(Value.int (307 : Int32)), (Value.ref a1)]))
  have c23 := (p6_1.keep K17q)
  obtain ⟨T24, h24, X24, e24, W24, st24⟩ := putF X20 hx hZ1 hown1 (host := "") (Or.inl (hw _ (List.mem_of_getElem? (i := 38) rfl))) Via.refl e20 c19 c23 (Or.inl (hw _ (List.mem_of_getElem? (i := 39) rfl))) (hw _ (List.mem_of_getElem? (i := 7) rfl)) (ty := .int) (by decide) rfl rfl (g := (mkF m 36 #[sR a1, sR a2] [(Value.int (307 : Int32)), (Value.ref a1)])) rfl rfl (hb hby d12_36)
  refine own_Go.by st24 ?_
  have N24 := Fr.snoc X24 N17 H4
  have O25 := O18.wr W24 H4
  have K25 := K18.wr W24 (Or.inl (List.mem_of_getElem? (i := 0) rfl))
  have hk_25 := Nat.le_trans hk_18 (Keep.of_wr W24).1
  have F24 := c19.same W24
  show own_Go _ _ _ _ (T24.setTop (mkF m 39 #[sR a1, sR a2] []))
  have c26 := (c23.wr W24)
  have c27 := ((p6_2.keep K17q (ninS (Nat.ne_of_lt (Nat.lt_of_lt_of_le H0.lt (Nat.le_trans E1.1 p6_0))) nin0)).other W24 (Or.inr (slot_ne (Or.inl (hw _ (List.mem_of_getElem? (i := 16) rfl))) (Or.inl (hw _ (List.mem_of_getElem? (i := 39) rfl))) (by decide) (t := (.array .byte)) (t' := .int) (by decide) (by decide))))
  have c28 := (V17.other W24 (Ne.symm (Nat.ne_of_lt (Nat.lt_of_lt_of_le H0.lt (Nat.le_trans E1.1 p6_0)))))
  obtain ⟨fs, hr, hrun, hended, hRE⟩ := Stand.leaveW (s := s) (vm₁ := T1.vm) X24 hS1 (by rw [e24]; exact hk_25) (v := none) (fun _ => rfl)
  refine own_Go.fin (X24.returnOut hx Bd.returns (hb hby d12_39) hr) ⟨hrun, hended, _, _, rfl, ?_, own_rew hRE (by decide) (by decide)⟩
  show Q12_7 Z a1 aB kB vs a2 k3 us h0 n0 _ T24.heap _
  rw [e24]
  exact ⟨b_6, k2_6, rfl, N24, K25, z12, c26, c27, F24, c28⟩

theorem own_ef_12_8 (m : MethodId) (a1 : Addr) (a2 : Addr) : entryFrame m #[(Value.ref a1), (Value.ref a2)] 2 = mkF m 0 #[sR a1, sR a2] [] := by first | (simp [entryFrame, mkF, argsToLocals, Value.category]; done) | rfl
def Q12_8 (Z : State) (a1 : Addr) (aB : Addr) (kB : ClassId) (vs : List Value) (a2 : Addr) (k3 : ClassId) (us : List Value) (h0 : Heap) (n0 : Nat) (v : Option Value) (h : Heap) (L : List Loc) : Prop := ∃ (b : Addr), ∃ (k2 : ClassId), v = none ∧ Fr n0 L ∧ Keep h0 h [a1] ∧ (h0.size ≤ b) ∧ (Exa Z h a1 "com/example/ebbtide/ebbtide/core/Encoder") ∧ (Fld Z h a1 "com/example/ebbtide/ebbtide/core/Encoder" "bytes" "[B" (Value.ref b)) ∧ (Fld Z h a1 "com/example/ebbtide/ebbtide/core/Encoder" "length" "I" (Value.int (308 : Int32))) ∧ (Arv Z h b k2 .byte (512 : Int32) (((own_cp vs 256 ++ List.replicate 256 (Value.int (0 : Int32)))).take (8 : Int32).toNatClampNeg ++ ((List.range (300 : Int32).toNatClampNeg).map fun i => (us).getD ((0 : Int32).toNatClampNeg + i) (Value.int (0 : Int32))) ++ ((own_cp vs 256 ++ List.replicate 256 (Value.int (0 : Int32)))).drop ((8 : Int32).toNatClampNeg + (300 : Int32).toNatClampNeg)) (Value.int (0 : Int32)))
set_option maxRecDepth 65536 in
set_option maxHeartbeats 40000000 in
theorem rm12_8 (l : Launch) (Z : State) (a0 : Array Value) (hw : ∀ d ∈ tables_1, d.before a0 Z = true) (ws : List Jvm.Cond) (a1 : Addr) (aB : Addr) (kB : ClassId) (vs : List Value) (a2 : Addr) (k3 : ClassId) (us : List Value) (h0 : Heap) (n0 : Nat) (O0 : Old Z n0 h0) (H0 : Exa Z h0 a1 "com/example/ebbtide/ebbtide/core/Encoder") (H1 : Fld Z h0 a1 "com/example/ebbtide/ebbtide/core/Encoder" "bytes" "[B" (Value.ref aB)) (H2 : Fld Z h0 a1 "com/example/ebbtide/ebbtide/core/Encoder" "length" "I" (Value.int (8 : Int32))) (H3 : Arv Z h0 aB kB .byte (256 : Int32) vs (Value.int (0 : Int32))) (H4 : n0 ≤ a1) (H5 : Arv Z h0 a2 k3 .byte (300 : Int32) us (Value.int (0 : Int32))) (H6 : a2 ≠ a1) :
    MetFree l (⟨"com/example/ebbtide/ebbtide/core/Encoder", "bytes", "([B)V"⟩ : MethodName) (head1 (Jvm.Cond.code (⟨"com/example/ebbtide/ebbtide/core/Encoder", "bytes", "([B)V"⟩ : MethodName) prog_10_method_7_code 2 none :: ws) ({ frames := 3, cells := 3, slots := 568, locals := 48 } : Room)) (fun a U => a = #[(Value.ref a1), (Value.ref a2)] ∧ Z.Warmed39 U.vm ∧ U.heap = h0) (fun _ _ _ _ _ => True) (fun _ U o U' => ∃ v L, o = .returned v ∧ Q12_8 Z a1 aB kB vs a2 k3 us h0 n0 v U'.heap L ∧ ReturnedEndW U o U' L ({ frames := 3, cells := 3, slots := 568, locals := 48 } : Room).cells ({ frames := 3, cells := 3, slots := 568, locals := 48 } : Room).slots) := by
  refine MetFree.of_bodySF (plainFor_of_name own_pn_com_example_ebbtide_ebbtide_core_Encoder) hisR ?_
  intro p e s m args below meth c s₁ Bd hml0 hP hK
  obtain ⟨rfl, hZ, hh⟩ := hP
  have hx := Bd.exec
  have hby := Bd.bytes
  have hml : c.maxLocals = 2 := hml0
  have hown : s.vm.findClass "com/example/ebbtide/ebbtide/core/Encoder" = some m.cls := findClass_of_methodNamed Bd.named
  have hnm := (name_of_methodNamed Bd.named Bd.method).1
  have X0 : Stand p l e ({ frames := 3, cells := 3, slots := 568, locals := 48 } : Room) s m #[(Value.ref a1), (Value.ref a2)] below meth c s₁ [] 0 0 := Stand.of_body Bd
  have e0 : s₁.heap = h0 := by rw [← hh, Bd.state]; rfl
  have hS0 : s.Since s.vm 0 := (State.WarmedH.refl s).since 0
  have N0 := Fr.nil n0
  have K0 := Keep.refl h0 [a1]
  show own_Go _ _ _ _ (s₁.setTop (entryFrame m #[(Value.ref a1), (Value.ref a2)] 2))
  refine own_Go.by (fun tq kq => castTop (own_ef_12_8 m a1 a2) kq) ?_
  show own_Go _ _ _ _ (s₁.setTop (mkF m 0 #[sR a1, sR a2] []))
  refine own_Go.by (fun tq kq => XS.aloadN X0.here hx rfl (hb hby d12_0) rfl rfl kq) ?_
  show own_Go _ _ _ _ (s₁.setTop (mkF m 1 #[sR a1, sR a2] [(Value.ref a2)]))
  obtain ⟨sa1, T1, h1, k1, X1, e1, E1, hS1, hk1, hZ1, hown1, st1⟩ := ldcS (s := s) (vm0 := s.vm) X0 hx hZ hown (hw _ (List.mem_of_getElem? (i := 82) rfl)) (fun d hd => hw d (own_wS d hd)) e0 hS0 (Nat.zero_le _) (g := (mkF m 1 #[sR a1, sR a2] [(Value.ref a2)])) rfl (hb hby d12_1) (n := 52) (by decide) (by decide) (by decide) (by decide)
  refine own_Go.by st1 ?_
  have O2 := O0.ext E1
  have K2 := K0.ext E1
  show own_Go _ _ _ _ (T1.setTop (mkF m 3 #[sR a1, sR a2] [(Value.ref sa1), (Value.ref a2)]))
  obtain ⟨_, _, ⟨T3, L3, k3, n3⟩, -, X3, ⟨Lc3, hQ3, l3, y3, z3⟩, st3⟩ := Jvm.LawKit.callS X1 hx (y := (⟨"java/util/Objects", "requireNonNull", "(Ljava/lang/Object;Ljava/lang/String;)Ljava/lang/Object;"⟩ : MethodName)) hown1 (mvT hZ1 (hw _ (List.mem_of_getElem? (i := 24) rfl))) (mvT hZ1 (hw _ (List.mem_of_getElem? (i := 25) rfl))) (mvT hZ1 (hw _ (List.mem_of_getElem? (i := 26) rfl))) (mvT hZ1 (hw _ (List.mem_of_getElem? (i := 27) rfl))) (by decide) (backOf (W := 0) (rm3 l Z a0 hw [] a2 sa1 h1 n0 O2 ) hZ1 (hw _ (List.mem_of_getElem? (i := 27) rfl)) (hw _ (List.mem_of_getElem? (i := 26) rfl)) (by decide) (by decide)) (g := (mkF m 3 #[sR a1, sR a2] [(Value.ref sa1), (Value.ref a2)])) rfl (by rw [hml]; rfl) (argsL := [(Value.ref a2), (Value.ref sa1)]) (rest := []) (lenOf own_pd4 rfl) rfl (by show 2 * 0 + _ ≤ _; exact Nat.le_of_eq rfl) (hb hby d12_3) (fun _ _ => ⟨rfl, e1, (by decide : 2 + 0 ≤ _), (by decide : 56 + 0 ≤ _)⟩)
  dsimp only [Pt.U, Pt.locs, Pt.cells, Pt.slots] at X3 l3 y3 z3 st3 hQ3
  subst l3 y3 z3
  refine own_Go.by st3 ?_
  obtain ⟨rfl, N3q, e3⟩ := hQ3
  have N3 := Fr.app N0 N3q
  show own_Go _ _ _ _ (T3.setTop (mkF m 6 #[sR a1, sR a2] [(Value.ref a2)]))
  refine own_Go.by (fun tq kq => XS.pop X3.here hx rfl (hb hby d12_6) rfl rfl kq) ?_
  refine own_Go.by (fun tq kq => XS.aloadN X3.here hx rfl (hb hby d12_7) rfl rfl kq) ?_
  refine own_Go.by (fun tq kq => XS.aloadN X3.here hx rfl (hb hby d12_8) rfl rfl kq) ?_
  show own_Go _ _ _ _ (T3.setTop (mkF m 9 #[sR a1, sR a2] [(Value.ref a2), (Value.ref a1)]))
  have c4 := (H5.ext E1)
  obtain ⟨cl5, Ar5, q5, S5, M5, Hh5, G5⟩ := id c4
  refine own_Go.by (fun tq kq => X3.arraylength hx (by rw [e3]; exact Ar5.1) (State.isArrayOf_alike hZ1.alike Ar5.2.1) (g := (mkF m 9 #[sR a1, sR a2] [(Value.ref a2), (Value.ref a1)])) rfl rfl (hb hby d12_9) _ kq) ?_
  rw [len_of S5 M5]
  show own_Go _ _ _ _ (T3.setTop (mkF m 10 #[sR a1, sR a2] [(Value.int (300 : Int32)), (Value.ref a1)]))
  have c7 := (H0.ext E1)
  have c8 := (H1.ext E1)
  have c9 := (H2.ext E1)
  have c10 := (H3.ext E1)
  obtain ⟨cq6, q6, q6'⟩ := c7.cell
  obtain ⟨_, _, ⟨T6, L6, k6, n6⟩, -, X6, ⟨Lc6, hQ6, l6, y6, z6⟩, st6⟩ := X3.privateBack hx (y := (⟨"com/example/ebbtide/ebbtide/core/Encoder", "ensure", "(I)V"⟩ : MethodName)) hown1 (mvT hZ1 (hw _ (List.mem_of_getElem? (i := 34) rfl))) (mvT hZ1 (hw _ (List.mem_of_getElem? (i := 35) rfl))) (own_privsel (mvT hZ1 (hw _ (List.mem_of_getElem? (i := 7) rfl)) (args := #[])) (mvP hZ1 (hw _ (List.mem_of_getElem? (i := 36) rfl)) (args := #[])) (mvT hZ1 (hw _ (List.mem_of_getElem? (i := 35) rfl))) (by decide)) (Cond.privateMethod_at (mvP hZ1 (hw _ (List.mem_of_getElem? (i := 36) rfl)) (args := #[]))) (mvT hZ1 (hw _ (List.mem_of_getElem? (i := 37) rfl))) (by decide) (backOf (W := 0) (rm5_g8 l Z a0 hw [] a1 aB kB vs h1 n0 O2 c7 c8 c9 c10 H4) hZ1 (hw _ (List.mem_of_getElem? (i := 37) rfl)) (hw _ (List.mem_of_getElem? (i := 8) rfl)) (by decide) (by decide)) (g := (mkF m 10 #[sR a1, sR a2] [(Value.int (300 : Int32)), (Value.ref a1)])) rfl (by rw [hml]; rfl) (Steps.refl _) (a := a1) (by rw [e3]; exact q6) q6' (argsL := [(Value.int (300 : Int32))]) (rest := []) (lenOf own_pd0 rfl) rfl (by show 2 * 0 + _ ≤ _; exact Nat.le_of_eq rfl) (hb hby d12_10) (fun _ _ => ⟨rfl, e3, (by decide : 2 + 1 ≤ _), (by decide : 56 + 512 ≤ _)⟩)
  dsimp only [Pt.U, Pt.locs, Pt.cells, Pt.slots] at X6 l6 y6 z6 st6 hQ6
  subst l6 y6 z6
  refine own_Go.by (fun tq kq => st6.trans kq) ?_
  obtain ⟨b_6, k2_6, rfl, N6q, K6q, p6_0, p6_1, p6_2, p6_3, p6_4⟩ := hQ6
  have N6 := Fr.app N3 N6q
  have O11 := O2.keep K6q (allS H4 all0)
  have K11 := K2.trans K6q (allS (Or.inl (List.mem_of_getElem? (i := 0) rfl)) all0)
  have hk_11 := Nat.le_trans hk1 K6q.1
  have g12 : n0 ≤ b_6 := Nat.le_trans (own_old_le O2) p6_0
  have z12 : h0.size ≤ b_6 := Nat.le_trans K2.1 p6_0
  refine own_Go.by (fun tq kq => XS.aloadN X6.here hx rfl (hb hby d12_13) rfl rfl kq) ?_
  refine own_Go.by (fun tq kq => XS.iconst X6.here hx rfl (hb hby d12_14) kq) ?_
  refine own_Go.by (fun tq kq => XS.aloadN X6.here hx rfl (hb hby d12_15) rfl rfl kq) ?_
  show own_Go _ _ _ _ (T6.setTop (mkF m 16 #[sR a1, sR a2] [(Value.ref a1), (Value.int (0 : Int32)), (Value.ref a2)]))
  obtain ⟨T13, X13, e13, st13⟩ := getF X6 hx hZ1 hown1 (host := "") (Or.inl (hw _ (List.mem_of_getElem? (i := 15) rfl))) Via.refl rfl p6_2 (g := (mkF m 16 #[sR a1, sR a2] [(Value.ref a1), (Value.int (0 : Int32)), (Value.ref a2)])) rfl rfl (hb hby d12_16)
  refine own_Go.by st13 ?_
  refine own_Go.by (fun tq kq => XS.aloadN X13.here hx rfl (hb hby d12_19) rfl rfl kq) ?_
  show own_Go _ _ _ _ (T13.setTop (mkF m 20 #[sR a1, sR a2] [(Value.ref a1), (Value.ref b_6), (Value.int (0 : Int32)), (Value.ref a2)]))
  obtain ⟨T14, X14, e14, st14⟩ := getF X13 hx hZ1 hown1 (host := "") (Or.inl (hw _ (List.mem_of_getElem? (i := 38) rfl))) Via.refl e13 p6_3 (g := (mkF m 20 #[sR a1, sR a2] [(Value.ref a1), (Value.ref b_6), (Value.int (0 : Int32)), (Value.ref a2)])) rfl rfl (hb hby d12_20)
  refine own_Go.by st14 ?_
  refine own_Go.by (fun tq kq => XS.aloadN X14.here hx rfl (hb hby d12_23) rfl rfl kq) ?_
  show own_Go _ _ _ _ (T14.setTop (mkF m 24 #[sR a1, sR a2] [(Value.ref a2), (Value.int (8 : Int32)), (Value.ref b_6), (Value.int (0 : Int32)), (Value.ref a2)]))
  have c15 := (c4.keep K6q (ninS H6 nin0))
  obtain ⟨cl16, Ar16, q16, S16, M16, Hh16, G16⟩ := id c15
  refine own_Go.by (fun tq kq => X14.arraylength hx (by rw [e14]; exact Ar16.1) (State.isArrayOf_alike hZ1.alike Ar16.2.1) (g := (mkF m 24 #[sR a1, sR a2] [(Value.ref a2), (Value.int (8 : Int32)), (Value.ref b_6), (Value.int (0 : Int32)), (Value.ref a2)])) rfl rfl (hb hby d12_24) _ kq) ?_
  rw [len_of S16 M16]
  show own_Go _ _ _ _ (T14.setTop (mkF m 25 #[sR a1, sR a2] [(Value.int (300 : Int32)), (Value.int (8 : Int32)), (Value.ref b_6), (Value.int (0 : Int32)), (Value.ref a2)]))
  obtain ⟨T17, h17, Lc17, X17, e17, N17, K17q, V17, st17⟩ := cpA X14 hx hZ1 hown1 (hw _ (List.mem_of_getElem? (i := 90) rfl)) (hw _ (List.mem_of_getElem? (i := 71) rfl)) (hw _ (List.mem_of_getElem? (i := 69) rfl)) (hw _ (List.mem_of_getElem? (i := 70) rfl)) e14 c15 p6_4 (us := ((List.range (300 : Int32).toNatClampNeg).map fun i => (us).getD ((0 : Int32).toNatClampNeg + i) (Value.int (0 : Int32)))) (Or.inl ⟨rfl, rfl⟩) (by decide : ¬ ((0 : Int32) < (0 : Int32))) (by decide : ¬ ((8 : Int32) < (0 : Int32))) (by decide : ¬ ((300 : Int32) < (0 : Int32))) (by decide : (0 : Int32).toNatClampNeg + (300 : Int32).toNatClampNeg ≤ (300 : Int32).toNatClampNeg) (by decide : (8 : Int32).toNatClampNeg + (300 : Int32).toNatClampNeg ≤ (512 : Int32).toNatClampNeg) rfl (by simp [own_cp]) N6 g12 (g := (mkF m 25 #[sR a1, sR a2] [(Value.int (300 : Int32)), (Value.int (8 : Int32)), (Value.ref b_6), (Value.int (0 : Int32)), (Value.ref a2)])) rfl (by rw [hml]; rfl) rfl (hb hby d12_25) (by decide) (W := 0) (by show 2 * 0 + _ ≤ _; exact Nat.le_of_eq rfl) (by decide)
  refine own_Go.by st17 ?_
  have O18 := O11.keep K17q (allS g12 all0)
  have K18 := K11.trans K17q (allS (Or.inr z12) all0)
  have hk_18 := Nat.le_trans hk_11 K17q.1
  refine own_Go.by (fun tq kq => XS.aloadN X17.here hx rfl (hb hby d12_28) rfl rfl kq) ?_
  refine own_Go.by (fun tq kq => XS.dup X17.here hx rfl (hb hby d12_29) rfl rfl kq) ?_
  show own_Go _ _ _ _ (T17.setTop (mkF m 30 #[sR a1, sR a2] [(Value.ref a1), (Value.ref a1)]))
  have c19 := (p6_3.keep K17q (ninS (Nat.ne_of_lt (Nat.lt_of_lt_of_le H0.lt (Nat.le_trans E1.1 p6_0))) nin0))
  obtain ⟨T20, X20, e20, st20⟩ := getF X17 hx hZ1 hown1 (host := "") (Or.inl (hw _ (List.mem_of_getElem? (i := 38) rfl))) Via.refl e17 c19 (g := (mkF m 30 #[sR a1, sR a2] [(Value.ref a1), (Value.ref a1)])) rfl rfl (hb hby d12_30)
  refine own_Go.by st20 ?_
  refine own_Go.by (fun tq kq => XS.aloadN X20.here hx rfl (hb hby d12_33) rfl rfl kq) ?_
  show own_Go _ _ _ _ (T20.setTop (mkF m 34 #[sR a1, sR a2] [(Value.ref a2), (Value.int (8 : Int32)), (Value.ref a1)]))
  have c21 := (c15.keep K17q (ninS (Nat.ne_of_lt (Nat.lt_of_lt_of_le H5.lt (Nat.le_trans E1.1 p6_0))) nin0))
  obtain ⟨cl22, Ar22, q22, S22, M22, Hh22, G22⟩ := id c21
  refine own_Go.by (fun tq kq => X20.arraylength hx (by rw [e20]; exact Ar22.1) (State.isArrayOf_alike hZ1.alike Ar22.2.1) (g := (mkF m 34 #[sR a1, sR a2] [(Value.ref a2), (Value.int (8 : Int32)), (Value.ref a1)])) rfl rfl (hb hby d12_34) _ kq) ?_
  rw [len_of S22 M22]
  refine own_Go.by (fun tq kq => XS.iadd X20.here hx rfl (hb hby d12_35) rfl kq) ?_
  show own_Go _ _ _ _ (T20.setTop (mkF m 36 #[sR a1, sR a2] [(Value.int (308 : Int32)), (Value.ref a1)]))
  have c23 := (p6_1.keep K17q)
  obtain ⟨T24, h24, X24, e24, W24, st24⟩ := putF X20 hx hZ1 hown1 (host := "") (Or.inl (hw _ (List.mem_of_getElem? (i := 38) rfl))) Via.refl e20 c19 c23 (Or.inl (hw _ (List.mem_of_getElem? (i := 39) rfl))) (hw _ (List.mem_of_getElem? (i := 7) rfl)) (ty := .int) (by decide) rfl rfl (g := (mkF m 36 #[sR a1, sR a2] [(Value.int (308 : Int32)), (Value.ref a1)])) rfl rfl (hb hby d12_36)
  refine own_Go.by st24 ?_
  have N24 := Fr.snoc X24 N17 H4
  have O25 := O18.wr W24 H4
  have K25 := K18.wr W24 (Or.inl (List.mem_of_getElem? (i := 0) rfl))
  have hk_25 := Nat.le_trans hk_18 (Keep.of_wr W24).1
  have F24 := c19.same W24
  show own_Go _ _ _ _ (T24.setTop (mkF m 39 #[sR a1, sR a2] []))
  have c26 := (c23.wr W24)
  have c27 := ((p6_2.keep K17q (ninS (Nat.ne_of_lt (Nat.lt_of_lt_of_le H0.lt (Nat.le_trans E1.1 p6_0))) nin0)).other W24 (Or.inr (slot_ne (Or.inl (hw _ (List.mem_of_getElem? (i := 16) rfl))) (Or.inl (hw _ (List.mem_of_getElem? (i := 39) rfl))) (by decide) (t := (.array .byte)) (t' := .int) (by decide) (by decide))))
  have c28 := (V17.other W24 (Ne.symm (Nat.ne_of_lt (Nat.lt_of_lt_of_le H0.lt (Nat.le_trans E1.1 p6_0)))))
  obtain ⟨fs, hr, hrun, hended, hRE⟩ := Stand.leaveW (s := s) (vm₁ := T1.vm) X24 hS1 (by rw [e24]; exact hk_25) (v := none) (fun _ => rfl)
  refine own_Go.fin (X24.returnOut hx Bd.returns (hb hby d12_39) hr) ⟨hrun, hended, _, _, rfl, ?_, own_rew hRE (by decide) (by decide)⟩
  show Q12_8 Z a1 aB kB vs a2 k3 us h0 n0 _ T24.heap _
  rw [e24]
  exact ⟨b_6, k2_6, rfl, N24, K25, z12, c26, c27, F24, c28⟩

theorem own_ef_12_9 (m : MethodId) (a1 : Addr) (a2 : Addr) : entryFrame m #[(Value.ref a1), (Value.ref a2)] 2 = mkF m 0 #[sR a1, sR a2] [] := by first | (simp [entryFrame, mkF, argsToLocals, Value.category]; done) | rfl
def Q12_9 (Z : State) (a1 : Addr) (aB : Addr) (kB : ClassId) (vs : List Value) (a2 : Addr) (k3 : ClassId) (us : List Value) (h0 : Heap) (n0 : Nat) (v : Option Value) (h : Heap) (L : List Loc) : Prop := ∃ (b : Addr), ∃ (k2 : ClassId), v = none ∧ Fr n0 L ∧ Keep h0 h [a1] ∧ (h0.size ≤ b) ∧ (Exa Z h a1 "com/example/ebbtide/ebbtide/core/Encoder") ∧ (Fld Z h a1 "com/example/ebbtide/ebbtide/core/Encoder" "bytes" "[B" (Value.ref b)) ∧ (Fld Z h a1 "com/example/ebbtide/ebbtide/core/Encoder" "length" "I" (Value.int (309 : Int32))) ∧ (Arv Z h b k2 .byte (512 : Int32) (((own_cp vs 256 ++ List.replicate 256 (Value.int (0 : Int32)))).take (9 : Int32).toNatClampNeg ++ ((List.range (300 : Int32).toNatClampNeg).map fun i => (us).getD ((0 : Int32).toNatClampNeg + i) (Value.int (0 : Int32))) ++ ((own_cp vs 256 ++ List.replicate 256 (Value.int (0 : Int32)))).drop ((9 : Int32).toNatClampNeg + (300 : Int32).toNatClampNeg)) (Value.int (0 : Int32)))
set_option maxRecDepth 65536 in
set_option maxHeartbeats 40000000 in
theorem rm12_9 (l : Launch) (Z : State) (a0 : Array Value) (hw : ∀ d ∈ tables_1, d.before a0 Z = true) (ws : List Jvm.Cond) (a1 : Addr) (aB : Addr) (kB : ClassId) (vs : List Value) (a2 : Addr) (k3 : ClassId) (us : List Value) (h0 : Heap) (n0 : Nat) (O0 : Old Z n0 h0) (H0 : Exa Z h0 a1 "com/example/ebbtide/ebbtide/core/Encoder") (H1 : Fld Z h0 a1 "com/example/ebbtide/ebbtide/core/Encoder" "bytes" "[B" (Value.ref aB)) (H2 : Fld Z h0 a1 "com/example/ebbtide/ebbtide/core/Encoder" "length" "I" (Value.int (9 : Int32))) (H3 : Arv Z h0 aB kB .byte (256 : Int32) vs (Value.int (0 : Int32))) (H4 : n0 ≤ a1) (H5 : Arv Z h0 a2 k3 .byte (300 : Int32) us (Value.int (0 : Int32))) (H6 : a2 ≠ a1) :
    MetFree l (⟨"com/example/ebbtide/ebbtide/core/Encoder", "bytes", "([B)V"⟩ : MethodName) (head1 (Jvm.Cond.code (⟨"com/example/ebbtide/ebbtide/core/Encoder", "bytes", "([B)V"⟩ : MethodName) prog_10_method_7_code 2 none :: ws) ({ frames := 3, cells := 3, slots := 568, locals := 48 } : Room)) (fun a U => a = #[(Value.ref a1), (Value.ref a2)] ∧ Z.Warmed39 U.vm ∧ U.heap = h0) (fun _ _ _ _ _ => True) (fun _ U o U' => ∃ v L, o = .returned v ∧ Q12_9 Z a1 aB kB vs a2 k3 us h0 n0 v U'.heap L ∧ ReturnedEndW U o U' L ({ frames := 3, cells := 3, slots := 568, locals := 48 } : Room).cells ({ frames := 3, cells := 3, slots := 568, locals := 48 } : Room).slots) := by
  refine MetFree.of_bodySF (plainFor_of_name own_pn_com_example_ebbtide_ebbtide_core_Encoder) hisR ?_
  intro p e s m args below meth c s₁ Bd hml0 hP hK
  obtain ⟨rfl, hZ, hh⟩ := hP
  have hx := Bd.exec
  have hby := Bd.bytes
  have hml : c.maxLocals = 2 := hml0
  have hown : s.vm.findClass "com/example/ebbtide/ebbtide/core/Encoder" = some m.cls := findClass_of_methodNamed Bd.named
  have hnm := (name_of_methodNamed Bd.named Bd.method).1
  have X0 : Stand p l e ({ frames := 3, cells := 3, slots := 568, locals := 48 } : Room) s m #[(Value.ref a1), (Value.ref a2)] below meth c s₁ [] 0 0 := Stand.of_body Bd
  have e0 : s₁.heap = h0 := by rw [← hh, Bd.state]; rfl
  have hS0 : s.Since s.vm 0 := (State.WarmedH.refl s).since 0
  have N0 := Fr.nil n0
  have K0 := Keep.refl h0 [a1]
  show own_Go _ _ _ _ (s₁.setTop (entryFrame m #[(Value.ref a1), (Value.ref a2)] 2))
  refine own_Go.by (fun tq kq => castTop (own_ef_12_9 m a1 a2) kq) ?_
  show own_Go _ _ _ _ (s₁.setTop (mkF m 0 #[sR a1, sR a2] []))
  refine own_Go.by (fun tq kq => XS.aloadN X0.here hx rfl (hb hby d12_0) rfl rfl kq) ?_
  show own_Go _ _ _ _ (s₁.setTop (mkF m 1 #[sR a1, sR a2] [(Value.ref a2)]))
  obtain ⟨sa1, T1, h1, k1, X1, e1, E1, hS1, hk1, hZ1, hown1, st1⟩ := ldcS (s := s) (vm0 := s.vm) X0 hx hZ hown (hw _ (List.mem_of_getElem? (i := 82) rfl)) (fun d hd => hw d (own_wS d hd)) e0 hS0 (Nat.zero_le _) (g := (mkF m 1 #[sR a1, sR a2] [(Value.ref a2)])) rfl (hb hby d12_1) (n := 52) (by decide) (by decide) (by decide) (by decide)
  refine own_Go.by st1 ?_
  have O2 := O0.ext E1
  have K2 := K0.ext E1
  show own_Go _ _ _ _ (T1.setTop (mkF m 3 #[sR a1, sR a2] [(Value.ref sa1), (Value.ref a2)]))
  obtain ⟨_, _, ⟨T3, L3, k3, n3⟩, -, X3, ⟨Lc3, hQ3, l3, y3, z3⟩, st3⟩ := Jvm.LawKit.callS X1 hx (y := (⟨"java/util/Objects", "requireNonNull", "(Ljava/lang/Object;Ljava/lang/String;)Ljava/lang/Object;"⟩ : MethodName)) hown1 (mvT hZ1 (hw _ (List.mem_of_getElem? (i := 24) rfl))) (mvT hZ1 (hw _ (List.mem_of_getElem? (i := 25) rfl))) (mvT hZ1 (hw _ (List.mem_of_getElem? (i := 26) rfl))) (mvT hZ1 (hw _ (List.mem_of_getElem? (i := 27) rfl))) (by decide) (backOf (W := 0) (rm3 l Z a0 hw [] a2 sa1 h1 n0 O2 ) hZ1 (hw _ (List.mem_of_getElem? (i := 27) rfl)) (hw _ (List.mem_of_getElem? (i := 26) rfl)) (by decide) (by decide)) (g := (mkF m 3 #[sR a1, sR a2] [(Value.ref sa1), (Value.ref a2)])) rfl (by rw [hml]; rfl) (argsL := [(Value.ref a2), (Value.ref sa1)]) (rest := []) (lenOf own_pd4 rfl) rfl (by show 2 * 0 + _ ≤ _; exact Nat.le_of_eq rfl) (hb hby d12_3) (fun _ _ => ⟨rfl, e1, (by decide : 2 + 0 ≤ _), (by decide : 56 + 0 ≤ _)⟩)
  dsimp only [Pt.U, Pt.locs, Pt.cells, Pt.slots] at X3 l3 y3 z3 st3 hQ3
  subst l3 y3 z3
  refine own_Go.by st3 ?_
  obtain ⟨rfl, N3q, e3⟩ := hQ3
  have N3 := Fr.app N0 N3q
  show own_Go _ _ _ _ (T3.setTop (mkF m 6 #[sR a1, sR a2] [(Value.ref a2)]))
  refine own_Go.by (fun tq kq => XS.pop X3.here hx rfl (hb hby d12_6) rfl rfl kq) ?_
  refine own_Go.by (fun tq kq => XS.aloadN X3.here hx rfl (hb hby d12_7) rfl rfl kq) ?_
  refine own_Go.by (fun tq kq => XS.aloadN X3.here hx rfl (hb hby d12_8) rfl rfl kq) ?_
  show own_Go _ _ _ _ (T3.setTop (mkF m 9 #[sR a1, sR a2] [(Value.ref a2), (Value.ref a1)]))
  have c4 := (H5.ext E1)
  obtain ⟨cl5, Ar5, q5, S5, M5, Hh5, G5⟩ := id c4
  refine own_Go.by (fun tq kq => X3.arraylength hx (by rw [e3]; exact Ar5.1) (State.isArrayOf_alike hZ1.alike Ar5.2.1) (g := (mkF m 9 #[sR a1, sR a2] [(Value.ref a2), (Value.ref a1)])) rfl rfl (hb hby d12_9) _ kq) ?_
  rw [len_of S5 M5]
  show own_Go _ _ _ _ (T3.setTop (mkF m 10 #[sR a1, sR a2] [(Value.int (300 : Int32)), (Value.ref a1)]))
  have c7 := (H0.ext E1)
  have c8 := (H1.ext E1)
  have c9 := (H2.ext E1)
  have c10 := (H3.ext E1)
  obtain ⟨cq6, q6, q6'⟩ := c7.cell
  obtain ⟨_, _, ⟨T6, L6, k6, n6⟩, -, X6, ⟨Lc6, hQ6, l6, y6, z6⟩, st6⟩ := X3.privateBack hx (y := (⟨"com/example/ebbtide/ebbtide/core/Encoder", "ensure", "(I)V"⟩ : MethodName)) hown1 (mvT hZ1 (hw _ (List.mem_of_getElem? (i := 34) rfl))) (mvT hZ1 (hw _ (List.mem_of_getElem? (i := 35) rfl))) (own_privsel (mvT hZ1 (hw _ (List.mem_of_getElem? (i := 7) rfl)) (args := #[])) (mvP hZ1 (hw _ (List.mem_of_getElem? (i := 36) rfl)) (args := #[])) (mvT hZ1 (hw _ (List.mem_of_getElem? (i := 35) rfl))) (by decide)) (Cond.privateMethod_at (mvP hZ1 (hw _ (List.mem_of_getElem? (i := 36) rfl)) (args := #[]))) (mvT hZ1 (hw _ (List.mem_of_getElem? (i := 37) rfl))) (by decide) (backOf (W := 0) (rm5_g9 l Z a0 hw [] a1 aB kB vs h1 n0 O2 c7 c8 c9 c10 H4) hZ1 (hw _ (List.mem_of_getElem? (i := 37) rfl)) (hw _ (List.mem_of_getElem? (i := 8) rfl)) (by decide) (by decide)) (g := (mkF m 10 #[sR a1, sR a2] [(Value.int (300 : Int32)), (Value.ref a1)])) rfl (by rw [hml]; rfl) (Steps.refl _) (a := a1) (by rw [e3]; exact q6) q6' (argsL := [(Value.int (300 : Int32))]) (rest := []) (lenOf own_pd0 rfl) rfl (by show 2 * 0 + _ ≤ _; exact Nat.le_of_eq rfl) (hb hby d12_10) (fun _ _ => ⟨rfl, e3, (by decide : 2 + 1 ≤ _), (by decide : 56 + 512 ≤ _)⟩)
  dsimp only [Pt.U, Pt.locs, Pt.cells, Pt.slots] at X6 l6 y6 z6 st6 hQ6
  subst l6 y6 z6
  refine own_Go.by (fun tq kq => st6.trans kq) ?_
  obtain ⟨b_6, k2_6, rfl, N6q, K6q, p6_0, p6_1, p6_2, p6_3, p6_4⟩ := hQ6
  have N6 := Fr.app N3 N6q
  have O11 := O2.keep K6q (allS H4 all0)
  have K11 := K2.trans K6q (allS (Or.inl (List.mem_of_getElem? (i := 0) rfl)) all0)
  have hk_11 := Nat.le_trans hk1 K6q.1
  have g12 : n0 ≤ b_6 := Nat.le_trans (own_old_le O2) p6_0
  have z12 : h0.size ≤ b_6 := Nat.le_trans K2.1 p6_0
  refine own_Go.by (fun tq kq => XS.aloadN X6.here hx rfl (hb hby d12_13) rfl rfl kq) ?_
  refine own_Go.by (fun tq kq => XS.iconst X6.here hx rfl (hb hby d12_14) kq) ?_
  refine own_Go.by (fun tq kq => XS.aloadN X6.here hx rfl (hb hby d12_15) rfl rfl kq) ?_
  show own_Go _ _ _ _ (T6.setTop (mkF m 16 #[sR a1, sR a2] [(Value.ref a1), (Value.int (0 : Int32)), (Value.ref a2)]))
  obtain ⟨T13, X13, e13, st13⟩ := getF X6 hx hZ1 hown1 (host := "") (Or.inl (hw _ (List.mem_of_getElem? (i := 15) rfl))) Via.refl rfl p6_2 (g := (mkF m 16 #[sR a1, sR a2] [(Value.ref a1), (Value.int (0 : Int32)), (Value.ref a2)])) rfl rfl (hb hby d12_16)
  refine own_Go.by st13 ?_
  refine own_Go.by (fun tq kq => XS.aloadN X13.here hx rfl (hb hby d12_19) rfl rfl kq) ?_
  show own_Go _ _ _ _ (T13.setTop (mkF m 20 #[sR a1, sR a2] [(Value.ref a1), (Value.ref b_6), (Value.int (0 : Int32)), (Value.ref a2)]))
  obtain ⟨T14, X14, e14, st14⟩ := getF X13 hx hZ1 hown1 (host := "") (Or.inl (hw _ (List.mem_of_getElem? (i := 38) rfl))) Via.refl e13 p6_3 (g := (mkF m 20 #[sR a1, sR a2] [(Value.ref a1), (Value.ref b_6), (Value.int (0 : Int32)), (Value.ref a2)])) rfl rfl (hb hby d12_20)
  refine own_Go.by st14 ?_
  refine own_Go.by (fun tq kq => XS.aloadN X14.here hx rfl (hb hby d12_23) rfl rfl kq) ?_
  show own_Go _ _ _ _ (T14.setTop (mkF m 24 #[sR a1, sR a2] [(Value.ref a2), (Value.int (9 : Int32)), (Value.ref b_6), (Value.int (0 : Int32)), (Value.ref a2)]))
  have c15 := (c4.keep K6q (ninS H6 nin0))
  obtain ⟨cl16, Ar16, q16, S16, M16, Hh16, G16⟩ := id c15
  refine own_Go.by (fun tq kq => X14.arraylength hx (by rw [e14]; exact Ar16.1) (State.isArrayOf_alike hZ1.alike Ar16.2.1) (g := (mkF m 24 #[sR a1, sR a2] [(Value.ref a2), (Value.int (9 : Int32)), (Value.ref b_6), (Value.int (0 : Int32)), (Value.ref a2)])) rfl rfl (hb hby d12_24) _ kq) ?_
  rw [len_of S16 M16]
  show own_Go _ _ _ _ (T14.setTop (mkF m 25 #[sR a1, sR a2] [(Value.int (300 : Int32)), (Value.int (9 : Int32)), (Value.ref b_6), (Value.int (0 : Int32)), (Value.ref a2)]))
  obtain ⟨T17, h17, Lc17, X17, e17, N17, K17q, V17, st17⟩ := cpA X14 hx hZ1 hown1 (hw _ (List.mem_of_getElem? (i := 90) rfl)) (hw _ (List.mem_of_getElem? (i := 71) rfl)) (hw _ (List.mem_of_getElem? (i := 69) rfl)) (hw _ (List.mem_of_getElem? (i := 70) rfl)) e14 c15 p6_4 (us := ((List.range (300 : Int32).toNatClampNeg).map fun i => (us).getD ((0 : Int32).toNatClampNeg + i) (Value.int (0 : Int32)))) (Or.inl ⟨rfl, rfl⟩) (by decide : ¬ ((0 : Int32) < (0 : Int32))) (by decide : ¬ ((9 : Int32) < (0 : Int32))) (by decide : ¬ ((300 : Int32) < (0 : Int32))) (by decide : (0 : Int32).toNatClampNeg + (300 : Int32).toNatClampNeg ≤ (300 : Int32).toNatClampNeg) (by decide : (9 : Int32).toNatClampNeg + (300 : Int32).toNatClampNeg ≤ (512 : Int32).toNatClampNeg) rfl (by simp [own_cp]) N6 g12 (g := (mkF m 25 #[sR a1, sR a2] [(Value.int (300 : Int32)), (Value.int (9 : Int32)), (Value.ref b_6), (Value.int (0 : Int32)), (Value.ref a2)])) rfl (by rw [hml]; rfl) rfl (hb hby d12_25) (by decide) (W := 0) (by show 2 * 0 + _ ≤ _; exact Nat.le_of_eq rfl) (by decide)
  refine own_Go.by st17 ?_
  have O18 := O11.keep K17q (allS g12 all0)
  have K18 := K11.trans K17q (allS (Or.inr z12) all0)
  have hk_18 := Nat.le_trans hk_11 K17q.1
  refine own_Go.by (fun tq kq => XS.aloadN X17.here hx rfl (hb hby d12_28) rfl rfl kq) ?_
  refine own_Go.by (fun tq kq => XS.dup X17.here hx rfl (hb hby d12_29) rfl rfl kq) ?_
  show own_Go _ _ _ _ (T17.setTop (mkF m 30 #[sR a1, sR a2] [(Value.ref a1), (Value.ref a1)]))
  have c19 := (p6_3.keep K17q (ninS (Nat.ne_of_lt (Nat.lt_of_lt_of_le H0.lt (Nat.le_trans E1.1 p6_0))) nin0))
  obtain ⟨T20, X20, e20, st20⟩ := getF X17 hx hZ1 hown1 (host := "") (Or.inl (hw _ (List.mem_of_getElem? (i := 38) rfl))) Via.refl e17 c19 (g := (mkF m 30 #[sR a1, sR a2] [(Value.ref a1), (Value.ref a1)])) rfl rfl (hb hby d12_30)
  refine own_Go.by st20 ?_
  refine own_Go.by (fun tq kq => XS.aloadN X20.here hx rfl (hb hby d12_33) rfl rfl kq) ?_
  show own_Go _ _ _ _ (T20.setTop (mkF m 34 #[sR a1, sR a2] [(Value.ref a2), (Value.int (9 : Int32)), (Value.ref a1)]))
  have c21 := (c15.keep K17q (ninS (Nat.ne_of_lt (Nat.lt_of_lt_of_le H5.lt (Nat.le_trans E1.1 p6_0))) nin0))
  obtain ⟨cl22, Ar22, q22, S22, M22, Hh22, G22⟩ := id c21
  refine own_Go.by (fun tq kq => X20.arraylength hx (by rw [e20]; exact Ar22.1) (State.isArrayOf_alike hZ1.alike Ar22.2.1) (g := (mkF m 34 #[sR a1, sR a2] [(Value.ref a2), (Value.int (9 : Int32)), (Value.ref a1)])) rfl rfl (hb hby d12_34) _ kq) ?_
  rw [len_of S22 M22]
  refine own_Go.by (fun tq kq => XS.iadd X20.here hx rfl (hb hby d12_35) rfl kq) ?_
  show own_Go _ _ _ _ (T20.setTop (mkF m 36 #[sR a1, sR a2] [(Value.int (309 : Int32)), (Value.ref a1)]))
  have c23 := (p6_1.keep K17q)
  obtain ⟨T24, h24, X24, e24, W24, st24⟩ := putF X20 hx hZ1 hown1 (host := "") (Or.inl (hw _ (List.mem_of_getElem? (i := 38) rfl))) Via.refl e20 c19 c23 (Or.inl (hw _ (List.mem_of_getElem? (i := 39) rfl))) (hw _ (List.mem_of_getElem? (i := 7) rfl)) (ty := .int) (by decide) rfl rfl (g := (mkF m 36 #[sR a1, sR a2] [(Value.int (309 : Int32)), (Value.ref a1)])) rfl rfl (hb hby d12_36)
  refine own_Go.by st24 ?_
  have N24 := Fr.snoc X24 N17 H4
  have O25 := O18.wr W24 H4
  have K25 := K18.wr W24 (Or.inl (List.mem_of_getElem? (i := 0) rfl))
  have hk_25 := Nat.le_trans hk_18 (Keep.of_wr W24).1
  have F24 := c19.same W24
  show own_Go _ _ _ _ (T24.setTop (mkF m 39 #[sR a1, sR a2] []))
  have c26 := (c23.wr W24)
  have c27 := ((p6_2.keep K17q (ninS (Nat.ne_of_lt (Nat.lt_of_lt_of_le H0.lt (Nat.le_trans E1.1 p6_0))) nin0)).other W24 (Or.inr (slot_ne (Or.inl (hw _ (List.mem_of_getElem? (i := 16) rfl))) (Or.inl (hw _ (List.mem_of_getElem? (i := 39) rfl))) (by decide) (t := (.array .byte)) (t' := .int) (by decide) (by decide))))
  have c28 := (V17.other W24 (Ne.symm (Nat.ne_of_lt (Nat.lt_of_lt_of_le H0.lt (Nat.le_trans E1.1 p6_0)))))
  obtain ⟨fs, hr, hrun, hended, hRE⟩ := Stand.leaveW (s := s) (vm₁ := T1.vm) X24 hS1 (by rw [e24]; exact hk_25) (v := none) (fun _ => rfl)
  refine own_Go.fin (X24.returnOut hx Bd.returns (hb hby d12_39) hr) ⟨hrun, hended, _, _, rfl, ?_, own_rew hRE (by decide) (by decide)⟩
  show Q12_9 Z a1 aB kB vs a2 k3 us h0 n0 _ T24.heap _
  rw [e24]
  exact ⟨b_6, k2_6, rfl, N24, K25, z12, c26, c27, F24, c28⟩

theorem own_v21 {a vv : Int32} (h : (a &&& (2097151 : Int32)) = vv) : 0 ≤ vv.toInt ∧ vv.toInt < 2097152 := by
  have q := c_and a (2097151 : Int32) (by decide)
  rw [h] at q
  have e : (2097151 : Int32).toInt = 2097151 := rfl
  omega
theorem own_and128 (n : Nat) (h : n < 2 ^ 64) : n &&& (2 ^ 64 - 128) = n / 128 * 128 := by
  apply Nat.eq_of_testBit_eq
  intro i
  rw [show (2 ^ 64 - 128 : Nat) = (2 ^ 57 - 1) * 2 ^ 7 from by decide, show n / 128 * 128 = (n / 2 ^ 7) * 2 ^ 7 from rfl, Nat.testBit_and, Nat.testBit_mul_two_pow, Nat.testBit_mul_two_pow, Nat.testBit_two_pow_sub_one, Nat.testBit_div_two_pow]
  by_cases q : 7 ≤ i
  · simp only [q, decide_true, Bool.true_and]
    rw [show i - 7 + 7 = i from by omega]
    by_cases r : i - 7 < 57
    · simp [r]
    · have : n.testBit i = false := Nat.testBit_lt_two_pow (Nat.lt_of_lt_of_le h (Nat.pow_le_pow_right (by decide) (by omega)))
      simp [this]
  · simp [q]
theorem own_nat64 {x : Int64} (h0 : 0 ≤ x.toInt) : x.toInt = (x.toBitVec.toNat : Int) := by
  have q : x.toInt = x.toBitVec.toInt := rfl
  rw [BitVec.toInt_eq_toNat_cond] at q
  have r := x.toBitVec.isLt
  split at q <;> omega
theorem own_m128 {x : Int64} (h0 : 0 ≤ x.toInt) : (x &&& (-128 : Int64)) = (0 : Int64) ↔ x.toInt < 128 := by
  have e := own_nat64 h0
  have a : (x &&& (-128 : Int64)).toBitVec.toNat = x.toBitVec.toNat / 128 * 128 := by
    rw [Int64.toBitVec_and, BitVec.toNat_and, show ((-128 : Int64).toBitVec.toNat) = 2 ^ 64 - 128 from by decide]
    exact own_and128 _ x.toBitVec.isLt
  constructor
  · intro h
    rw [h] at a
    have z : (0 : Int64).toBitVec.toNat = 0 := rfl
    omega
  · intro h
    apply Int64.toBitVec_inj.mp
    apply BitVec.eq_of_toNat_eq
    rw [a]
    have z : (0 : Int64).toBitVec.toNat = 0 := rfl
    omega
theorem own_sh7 {x : Int64} (h0 : 0 ≤ x.toInt) : ((x.toUInt64 >>> ((7 : Int32) &&& 0x3f).toInt64.toUInt64).toInt64).toInt = x.toInt / 128 := by
  have q := c_lushr x (7 : Int32) 7 (by decide) (by decide)
  rw [q]
  have r := rng64 x
  omega
theorem own_lo {y : Int64} {w : Int32} (h : y.toInt32 = w) : ((((y &&& (127 : Int64)) ||| (128 : Int64)).toInt32).toInt8.toInt32) = (((w &&& (127 : Int32)) ||| (128 : Int32)).toInt8.toInt32) := by
  rw [Int64.toInt32_or, Int64.toInt32_and, h]; rfl
theorem own_s7 {vv : Int32} (h : 0 ≤ vv.toInt ∧ vv.toInt < 2097152) : (((vv.toInt64).toUInt64 >>> ((7 : Int32) &&& 0x3f).toInt64.toUInt64).toInt64).toInt32 = ((vv.toUInt32 >>> ((7 : Int32) &&& 31).toUInt32).toInt32) := by
  have a := own_sh7 (x := vv.toInt64) (by rw [c_i2l]; exact h.1)
  rw [c_i2l] at a
  have b := c_l2i (((vv.toInt64).toUInt64 >>> ((7 : Int32) &&& 0x3f).toInt64.toUInt64).toInt64)
  have c := c_iushr vv (7 : Int32) 7 (by decide) (by decide)
  have d := rng32 ((((vv.toInt64).toUInt64 >>> ((7 : Int32) &&& 0x3f).toInt64.toUInt64).toInt64).toInt32)
  apply Int32.toInt_inj.mp
  omega
theorem own_s14 {vv : Int32} (h : 0 ≤ vv.toInt ∧ vv.toInt < 2097152) : (((((vv.toInt64).toUInt64 >>> ((7 : Int32) &&& 0x3f).toInt64.toUInt64).toInt64).toUInt64 >>> ((7 : Int32) &&& 0x3f).toInt64.toUInt64).toInt64).toInt32 = ((vv.toUInt32 >>> ((14 : Int32) &&& 31).toUInt32).toInt32) := by
  have a := own_sh7 (x := vv.toInt64) (by rw [c_i2l]; exact h.1)
  rw [c_i2l] at a
  have a2 := own_sh7 (x := (((vv.toInt64).toUInt64 >>> ((7 : Int32) &&& 0x3f).toInt64.toUInt64).toInt64)) (by omega)
  have b := c_l2i (((((vv.toInt64).toUInt64 >>> ((7 : Int32) &&& 0x3f).toInt64.toUInt64).toInt64).toUInt64 >>> ((7 : Int32) &&& 0x3f).toInt64.toUInt64).toInt64)
  have c := c_iushr vv (14 : Int32) 14 (by decide) (by decide)
  have d := rng32 ((((((vv.toInt64).toUInt64 >>> ((7 : Int32) &&& 0x3f).toInt64.toUInt64).toInt64).toUInt64 >>> ((7 : Int32) &&& 0x3f).toInt64.toUInt64).toInt64).toInt32)
  apply Int32.toInt_inj.mp
  omega
theorem own_cd {aK aW aD aF : Addr} {cd : Int32} (h : (aK = aW ∧ cd = (1 : Int32)) ∨ (aK = aD ∧ cd = (2 : Int32)) ∨ (aK = aF ∧ cd = (3 : Int32))) : ((cd.toInt64) &&& (-128 : Int64)) = (0 : Int64) ∧ (((cd.toInt64).toInt32).toInt8.toInt32) = cd := by
  rcases h with ⟨-, rfl⟩ | ⟨-, rfl⟩ | ⟨-, rfl⟩ <;> decide
theorem own_kind {Z : State} {aK aW aD aF : Addr} {cd : Int32} (h : (aK = aW ∧ cd = (1 : Int32)) ∨ (aK = aD ∧ cd = (2 : Int32)) ∨ (aK = aF ∧ cd = (3 : Int32))) (EW : Exa Z Z.heap aW "com/example/ebbtide/ebbtide/core/SummaryKind") (ED : Exa Z Z.heap aD "com/example/ebbtide/ebbtide/core/SummaryKind") (EF : Exa Z Z.heap aF "com/example/ebbtide/ebbtide/core/SummaryKind") (FW : Fld Z Z.heap aW "com/example/ebbtide/ebbtide/core/SummaryKind" "code" "I" (.int (1 : Int32))) (FD : Fld Z Z.heap aD "com/example/ebbtide/ebbtide/core/SummaryKind" "code" "I" (.int (2 : Int32))) (FF : Fld Z Z.heap aF "com/example/ebbtide/ebbtide/core/SummaryKind" "code" "I" (.int (3 : Int32))) : Exa Z Z.heap aK "com/example/ebbtide/ebbtide/core/SummaryKind" ∧ Fld Z Z.heap aK "com/example/ebbtide/ebbtide/core/SummaryKind" "code" "I" (.int cd) := by
  rcases h with ⟨rfl, rfl⟩ | ⟨rfl, rfl⟩ | ⟨rfl, rfl⟩
  · exact ⟨EW, FW⟩
  · exact ⟨ED, FD⟩
  · exact ⟨EF, FF⟩

theorem own_e64 (vv : Int32) : (vv.toInt64).toInt32 = vv := by simp
theorem own_e0 (vv : Int32) : (((vv.toInt64).toInt32).toInt8.toInt32) = (vv.toInt8.toInt32) := by rw [own_e64]

theorem own_pd8 : parseMethodDescriptor "(Lcom/example/ebbtide/ebbtide/core/SummaryKind;)V" = some ⟨[(.object "com/example/ebbtide/ebbtide/core/SummaryKind")], none⟩ := by decide +kernel
theorem own_pd9 : parseMethodDescriptor "()[B" = some ⟨[], some (.array .byte)⟩ := by decide +kernel
theorem own_pd10 : parseMethodDescriptor "([BI)Z" = some ⟨[(.array .byte), .int], some .boolean⟩ := by decide +kernel
theorem own_pd11 : parseMethodDescriptor "([B)V" = some ⟨[(.array .byte)], none⟩ := by decide +kernel
theorem own_ef_0 (m : MethodId) (p1 : Int32) (p2 : Int32) (p3 : Int32) (p4 : Int32) : entryFrame m #[(Value.int p1), (Value.int p2), (Value.int p3), (Value.int p4)] maxLocals = mkF m 0 #[sI p1, sI p2, sI p3, sI p4, .unset, .unset, .unset, .unset, .unset, .unset, .unset, .unset, .unset, .unset, .unset, .unset, .unset, .unset, .unset] [] := by first | (simp [entryFrame, mkF, argsToLocals, Value.category, maxLocals]; done) | rfl
def Q0 (Z : State) (p1 : Int32) (p2 : Int32) (p3 : Int32) (p4 : Int32) (aW : Addr) (aD : Addr) (aF : Addr) (aM : Addr) (kM : ClassId) (h0 : Heap) (n0 : Nat) (v : Option Value) (h : Heap) (L : List Loc) : Prop := v = some (Value.int (1 : Int32)) ∧ Fr n0 L ∧ Keep h0 h []
set_option maxRecDepth 65536 in
set_option maxHeartbeats 40000000 in
theorem rm0 (l : Launch) (Z : State) (a0 : Array Value) (hw : ∀ d ∈ tables_1, d.before a0 Z = true) (ws : List Jvm.Cond) (p1 : Int32) (p2 : Int32) (p3 : Int32) (p4 : Int32) (aW : Addr) (aD : Addr) (aF : Addr) (aM : Addr) (kM : ClassId) (h0 : Heap) (n0 : Nat) (O0 : Old Z n0 h0) (H0 : Sta Z Z.heap "com/example/ebbtide/ebbtide/core/SummaryKind" "WINDOW" "Lcom/example/ebbtide/ebbtide/core/SummaryKind;" (Value.ref aW)) (H1 : Sta Z Z.heap "com/example/ebbtide/ebbtide/core/SummaryKind" "DISTINCT" "Lcom/example/ebbtide/ebbtide/core/SummaryKind;" (Value.ref aD)) (H2 : Sta Z Z.heap "com/example/ebbtide/ebbtide/core/SummaryKind" "FILTER" "Lcom/example/ebbtide/ebbtide/core/SummaryKind;" (Value.ref aF)) (H3 : Exa Z Z.heap aW "com/example/ebbtide/ebbtide/core/SummaryKind") (H4 : Exa Z Z.heap aD "com/example/ebbtide/ebbtide/core/SummaryKind") (H5 : Exa Z Z.heap aF "com/example/ebbtide/ebbtide/core/SummaryKind") (H6 : Fld Z Z.heap aW "com/example/ebbtide/ebbtide/core/SummaryKind" "code" "I" (Value.int (1 : Int32))) (H7 : Fld Z Z.heap aD "com/example/ebbtide/ebbtide/core/SummaryKind" "code" "I" (Value.int (2 : Int32))) (H8 : Fld Z Z.heap aF "com/example/ebbtide/ebbtide/core/SummaryKind" "code" "I" (Value.int (3 : Int32))) (H9 : Sta Z Z.heap "com/example/ebbtide/ebbtide/core/Encoder" "MAGIC" "[B" (Value.ref aM)) (H10 : Arv Z Z.heap aM kM .byte (4 : Int32) [(Value.int (69 : Int32)), (Value.int (66 : Int32)), (Value.int (66 : Int32)), (Value.int (84 : Int32))] (Value.int (0 : Int32))) :
    MetFree l x (head1 (Jvm.Cond.code x code maxLocals ret :: ws) room_1) (fun a U => a = #[(Value.int p1), (Value.int p2), (Value.int p3), (Value.int p4)] ∧ Z.Warmed39 U.vm ∧ U.heap = h0) (fun _ _ _ _ _ => True) (fun _ U o U' => ∃ v L, o = .returned v ∧ Q0 Z p1 p2 p3 p4 aW aD aF aM kM h0 n0 v U'.heap L ∧ ReturnedEndW U o U' L room_1.cells room_1.slots) := by
  refine MetFree.of_bodySF (plainFor_of_name own_pn_com_example_ebbtide_ebbtide_core_EncoderToByteArrayPinLaw) hisR ?_
  intro p e s m args below meth c s₁ Bd hml0 hP hK
  obtain ⟨rfl, hZ, hh⟩ := hP
  have hx := Bd.exec
  have hby := Bd.bytes
  have hml : c.maxLocals = 19 := hml0
  have hown : s.vm.findClass "com/example/ebbtide/ebbtide/core/EncoderToByteArrayPinLaw" = some m.cls := findClass_of_methodNamed Bd.named
  have hnm := (name_of_methodNamed Bd.named Bd.method).1
  have X0 : Stand p l e room_1 s m #[(Value.int p1), (Value.int p2), (Value.int p3), (Value.int p4)] below meth c s₁ [] 0 0 := Stand.of_body Bd
  have e0 : s₁.heap = h0 := by rw [← hh, Bd.state]; rfl
  have hS0 : s.Since s.vm 0 := (State.WarmedH.refl s).since 0
  have N0 := Fr.nil n0
  have K0 : Keep h0 h0 [] := Keep.refl h0 []
  show own_Go _ _ _ _ (s₁.setTop (entryFrame m #[(Value.int p1), (Value.int p2), (Value.int p3), (Value.int p4)] maxLocals))
  refine own_Go.by (fun tq kq => castTop (own_ef_0 m p1 p2 p3 p4) kq) ?_
  show own_Go _ _ _ _ (s₁.setTop (mkF m 0 #[sI p1, sI p2, sI p3, sI p4, .unset, .unset, .unset, .unset, .unset, .unset, .unset, .unset, .unset, .unset, .unset, .unset, .unset, .unset, .unset] []))
  refine own_Go.by (fun tq kq => XS.iloadN X0.here hx rfl (hb hby at_0) rfl kq) ?_
  show own_Go _ _ _ _ (s₁.setTop (mkF m 1 #[sI p1, sI p2, sI p3, sI p4, .unset, .unset, .unset, .unset, .unset, .unset, .unset, .unset, .unset, .unset, .unset, .unset, .unset, .unset, .unset] [(Value.int p1)]))
  refine own_Go.by (fun tq kq => X0.ldcInt hx hown (mvT hZ (hw _ (List.mem_of_getElem? (i := 0) rfl))) (g := (mkF m 1 #[sI p1, sI p2, sI p3, sI p4, .unset, .unset, .unset, .unset, .unset, .unset, .unset, .unset, .unset, .unset, .unset, .unset, .unset, .unset, .unset] [(Value.int p1)])) rfl (hb hby at_1) _ kq) ?_
  refine own_Go.by (fun tq kq => XS.iand X0.here hx rfl (hb hby at_3) rfl kq) ?_
  refine own_Go.by (fun tq kq => XS.iconst X0.here hx rfl (hb hby at_4) kq) ?_
  show own_Go _ _ _ _ (s₁.setTop (mkF m 5 #[sI p1, sI p2, sI p3, sI p4, .unset, .unset, .unset, .unset, .unset, .unset, .unset, .unset, .unset, .unset, .unset, .unset, .unset, .unset, .unset] [(Value.int (3 : Int32)), (Value.int (p1 &&& (2147483647 : Int32)))]))
  refine own_Go.by (fun tq kq => iremM (g := (mkF m 5 #[sI p1, sI p2, sI p3, sI p4, .unset, .unset, .unset, .unset, .unset, .unset, .unset, .unset, .unset, .unset, .unset, .unset, .unset, .unset, .unset] [(Value.int (3 : Int32)), (Value.int (p1 &&& (2147483647 : Int32)))])) X0 hx rfl (hb hby at_5) rfl (by decide) kq) ?_
  show own_Go _ _ _ _ (s₁.setTop (mkF m 6 #[sI p1, sI p2, sI p3, sI p4, .unset, .unset, .unset, .unset, .unset, .unset, .unset, .unset, .unset, .unset, .unset, .unset, .unset, .unset, .unset] [(Value.int ((p1 &&& (2147483647 : Int32)) % (3 : Int32)))]))
  refine own_Go.by (fun tq kq => XS.istore X0.here hx rfl (hb hby at_6) rfl (l' := #[sI p1, sI p2, sI p3, sI p4, sI ((p1 &&& (2147483647 : Int32)) % (3 : Int32)), .unset, .unset, .unset, .unset, .unset, .unset, .unset, .unset, .unset, .unset, .unset, .unset, .unset, .unset]) rfl kq) ?_
  show own_Go _ _ _ _ (s₁.setTop (mkF m 8 #[sI p1, sI p2, sI p3, sI p4, sI ((p1 &&& (2147483647 : Int32)) % (3 : Int32)), .unset, .unset, .unset, .unset, .unset, .unset, .unset, .unset, .unset, .unset, .unset, .unset, .unset, .unset] []))
  generalize hv_sel : ((p1 &&& (2147483647 : Int32)) % (3 : Int32)) = sel
  refine own_merge (α := State × Addr × Int32) (P := fun zz => Stand p l e room_1 s m #[(Value.int p1), (Value.int p2), (Value.int p3), (Value.int p4)] below meth c zz.1 [] 0 0 ∧ zz.1.heap = h0 ∧ ((zz.2.1 = aW ∧ zz.2.2 = (1 : Int32)) ∨ (zz.2.1 = aD ∧ zz.2.2 = (2 : Int32)) ∨ (zz.2.1 = aF ∧ zz.2.2 = (3 : Int32)))) (F := fun zz => zz.1.setTop (mkF m 49 #[sI p1, sI p2, sI p3, sI p4, sI sel, .val (Value.ref zz.2.1), .val (Value.int zz.2.2), .unset, .unset, .unset, .unset, .unset, .unset, .unset, .unset, .unset, .unset, .unset, .unset] [])) ?_ ?_
  ·
    rintro ⟨T1, aK, cd⟩ ⟨X1, e1, h_aK_cd⟩
    dsimp only at X1 e1 h_aK_cd
    have hkind := own_kind h_aK_cd H3 H4 H5 H6 H7 H8
    refine own_Go.by (fun tq kq => XS.iloadN X1.here hx rfl (hb hby at_49) rfl kq) ?_
    show own_Go _ _ _ _ (T1.setTop (mkF m 50 #[sI p1, sI p2, sI p3, sI p4, sI sel, sR aK, sI cd, .unset, .unset, .unset, .unset, .unset, .unset, .unset, .unset, .unset, .unset, .unset, .unset] [(Value.int p2)]))
    refine own_Go.by (fun tq kq => X1.ldcInt hx hown (mvT hZ (hw _ (List.mem_of_getElem? (i := 4) rfl))) (g := (mkF m 50 #[sI p1, sI p2, sI p3, sI p4, sI sel, sR aK, sI cd, .unset, .unset, .unset, .unset, .unset, .unset, .unset, .unset, .unset, .unset, .unset, .unset] [(Value.int p2)])) rfl (hb hby at_50) _ kq) ?_
    refine own_Go.by (fun tq kq => XS.iand X1.here hx rfl (hb hby at_52) rfl kq) ?_
    show own_Go _ _ _ _ (T1.setTop (mkF m 53 #[sI p1, sI p2, sI p3, sI p4, sI sel, sR aK, sI cd, .unset, .unset, .unset, .unset, .unset, .unset, .unset, .unset, .unset, .unset, .unset, .unset] [(Value.int (p2 &&& (2097151 : Int32)))]))
    refine own_Go.by (fun tq kq => XS.istore X1.here hx rfl (hb hby at_53) rfl (l' := #[sI p1, sI p2, sI p3, sI p4, sI sel, sR aK, sI cd, sI (p2 &&& (2097151 : Int32)), .unset, .unset, .unset, .unset, .unset, .unset, .unset, .unset, .unset, .unset, .unset]) rfl kq) ?_
    show own_Go _ _ _ _ (T1.setTop (mkF m 55 #[sI p1, sI p2, sI p3, sI p4, sI sel, sR aK, sI cd, sI (p2 &&& (2097151 : Int32)), .unset, .unset, .unset, .unset, .unset, .unset, .unset, .unset, .unset, .unset, .unset] []))
    generalize hv_vv : (p2 &&& (2097151 : Int32)) = vv
    refine own_Go.by (fun tq kq => XS.iloadN X1.here hx rfl (hb hby at_55) rfl kq) ?_
    refine own_Go.by (fun tq kq => XS.iconst X1.here hx rfl (hb hby at_56) kq) ?_
    refine own_Go.by (fun tq kq => XS.iand X1.here hx rfl (hb hby at_57) rfl kq) ?_
    show own_Go _ _ _ _ (T1.setTop (mkF m 58 #[sI p1, sI p2, sI p3, sI p4, sI sel, sR aK, sI cd, sI vv, .unset, .unset, .unset, .unset, .unset, .unset, .unset, .unset, .unset, .unset, .unset] [(Value.int (p4 &&& (1 : Int32)))]))
    by_cases hc58_2 : (p4 &&& (1 : Int32)) = (0 : Int32)
    ·
      refine own_Go.by (fun tq kq => XS.ifYes X1.here hx rfl (pc0 := 58) (pc' := 65) rfl (hb hby at_58) rfl ((if0 _ _).trans (teq hc58_2).1) (by decide) (by decide) kq) ?_
      refine own_Go.by (fun tq kq => XS.iconst X1.here hx rfl (hb hby at_65) kq) ?_
      refine own_Go.by (fun tq kq => XS.istore X1.here hx rfl (hb hby at_66) rfl (l' := #[sI p1, sI p2, sI p3, sI p4, sI sel, sR aK, sI cd, sI vv, sI (0 : Int32), .unset, .unset, .unset, .unset, .unset, .unset, .unset, .unset, .unset, .unset]) rfl kq) ?_
      refine own_Go.by (fun tq kq => XS.sipush X1.here hx rfl (hb hby at_68) kq) ?_
      show own_Go _ _ _ _ (T1.setTop (mkF m 71 #[sI p1, sI p2, sI p3, sI p4, sI sel, sR aK, sI cd, sI vv, sI (0 : Int32), .unset, .unset, .unset, .unset, .unset, .unset, .unset, .unset, .unset, .unset] [(Value.int (300 : Int32))]))
      obtain ⟨T3, h3, k3, X3, e3, E3, A3, Ea3, st3⟩ := newPE X1 hx hZ (hw _ (List.mem_of_getElem? (i := 5) rfl)) e1 (g := (mkF m 71 #[sI p1, sI p2, sI p3, sI p4, sI sel, sR aK, sI cd, sI vv, sI (0 : Int32), .unset, .unset, .unset, .unset, .unset, .unset, .unset, .unset, .unset, .unset] [(Value.int (300 : Int32))])) rfl (hb hby at_71) rfl (by decide : ¬ ((300 : Int32) < (0 : Int32))) (cap := 300) (by decide : (300 : Int32).toNatClampNeg ≤ 300) (by decide) (by decide) (by decide) (ad := "[B") rfl
      obtain ⟨ob3, y3⟩ : ∃ z, z = h0.size := ⟨_, rfl⟩
      rw [← y3] at A3 Ea3 st3
      refine own_Go.by st3 ?_
      have O4 := O0.ext E3
      have K4 := K0.ext E3
      have g5 : n0 ≤ ob3 := Nat.le_trans (own_old_le O0) (Nat.le_of_eq y3.symm)
      have z5 : h0.size ≤ ob3 := Nat.le_trans K0.1 (Nat.le_of_eq y3.symm)
      have V3 : Arv Z h3 ob3 k3 .byte (300 : Int32) (List.replicate 300 (Value.int (0 : Int32))) (Value.int (0 : Int32)) := (Arv.new A3 (by decide : ¬ ((300 : Int32) < (0 : Int32)))).pad (pad_rep [] (Value.int (0 : Int32)) 300)
      refine own_Go.by (fun tq kq => XS.astore X3.here hx rfl (hb hby at_73) rfl rfl (l' := #[sI p1, sI p2, sI p3, sI p4, sI sel, sR aK, sI cd, sI vv, sI (0 : Int32), sR ob3, .unset, .unset, .unset, .unset, .unset, .unset, .unset, .unset, .unset]) rfl kq) ?_
      refine own_Go.by (fun tq kq => XS.aload X3.here hx rfl (hb hby at_75) rfl rfl kq) ?_
      refine own_Go.by (fun tq kq => XS.iconst X3.here hx rfl (hb hby at_77) kq) ?_
      show own_Go _ _ _ _ (T3.setTop (mkF m 78 #[sI p1, sI p2, sI p3, sI p4, sI sel, sR aK, sI cd, sI vv, sI (0 : Int32), sR ob3, .unset, .unset, .unset, .unset, .unset, .unset, .unset, .unset, .unset] [(Value.int (0 : Int32)), (Value.ref ob3)]))
      refine own_Go.by (fun tq kq => XS.iloadN X3.here hx rfl (hb hby at_78) rfl kq) ?_
      refine own_Go.by (fun tq kq => XS.i2b X3.here hx rfl (hb hby at_79) rfl kq) ?_
      show own_Go _ _ _ _ (T3.setTop (mkF m 80 #[sI p1, sI p2, sI p3, sI p4, sI sel, sR aK, sI cd, sI vv, sI (0 : Int32), sR ob3, .unset, .unset, .unset, .unset, .unset, .unset, .unset, .unset, .unset] [(Value.int (p3.toInt8.toInt32)), (Value.int (0 : Int32)), (Value.ref ob3)]))
      obtain ⟨cl6, Ar6, q6, S6, M6, Hh6, G6⟩ := id V3
      obtain ⟨T7, h7, X7, e7, W7, st7⟩ := stB X3 hx hZ e3 Ar6 (j := (0 : Int32)) (inb_of S6 ⟨(by decide : ¬ ((0 : Int32) < (0 : Int32))), (by decide : (0 : Int32) < (300 : Int32))⟩) (g := (mkF m 80 #[sI p1, sI p2, sI p3, sI p4, sI sel, sR aK, sI cd, sI vv, sI (0 : Int32), sR ob3, .unset, .unset, .unset, .unset, .unset, .unset, .unset, .unset, .unset] [(Value.int (p3.toInt8.toInt32)), (Value.int (0 : Int32)), (Value.ref ob3)])) rfl rfl (hb hby at_80)
      refine own_Go.by st7 ?_
      have N7 := Fr.snoc X7 N0 g5
      have O8 := O4.wr W7 g5
      have K8 := K4.wr W7 (Or.inr z5)
      rw [show nar .byte (p3.toInt8.toInt32) = (p3.toInt8.toInt32) from own_b8 _] at W7
      have V7 : Arv Z h7 ob3 k3 .byte (300 : Int32) ((List.replicate 300 (Value.int (0 : Int32))).set 0 (Value.int (p3.toInt8.toInt32))) (Value.int (0 : Int32)) := Arv.set Ar6 q6 S6 M6 Hh6 G6 (own_fitB (own_b8 _)) W7 0 (rfl) (Nat.le_of_ble_eq_true rfl)
      refine own_Go.by (fun tq kq => XS.aload X7.here hx rfl (hb hby at_81) rfl rfl kq) ?_
      refine own_Go.by (fun tq kq => XS.sipush X7.here hx rfl (hb hby at_83) kq) ?_
      refine own_Go.by (fun tq kq => XS.iloadN X7.here hx rfl (hb hby at_86) rfl kq) ?_
      show own_Go _ _ _ _ (T7.setTop (mkF m 87 #[sI p1, sI p2, sI p3, sI p4, sI sel, sR aK, sI cd, sI vv, sI (0 : Int32), sR ob3, .unset, .unset, .unset, .unset, .unset, .unset, .unset, .unset, .unset] [(Value.int p3), (Value.int (299 : Int32)), (Value.ref ob3)]))
      refine own_Go.by (fun tq kq => XS.bipush X7.here hx rfl (hb hby at_87) kq) ?_
      refine own_Go.by (fun tq kq => XS.ishr X7.here hx rfl (hb hby at_89) rfl kq) ?_
      refine own_Go.by (fun tq kq => XS.i2b X7.here hx rfl (hb hby at_90) rfl kq) ?_
      show own_Go _ _ _ _ (T7.setTop (mkF m 91 #[sI p1, sI p2, sI p3, sI p4, sI sel, sR aK, sI cd, sI vv, sI (0 : Int32), sR ob3, .unset, .unset, .unset, .unset, .unset, .unset, .unset, .unset, .unset] [(Value.int ((p3 >>> ((8 : Int32) &&& 31)).toInt8.toInt32)), (Value.int (299 : Int32)), (Value.ref ob3)]))
      obtain ⟨cl9, Ar9, q9, S9, M9, Hh9, G9⟩ := id V7
      obtain ⟨T10, h10, X10, e10, W10, st10⟩ := stB X7 hx hZ e7 Ar9 (j := (299 : Int32)) (inb_of S9 ⟨(by decide : ¬ ((299 : Int32) < (0 : Int32))), (by decide : (299 : Int32) < (300 : Int32))⟩) (g := (mkF m 91 #[sI p1, sI p2, sI p3, sI p4, sI sel, sR aK, sI cd, sI vv, sI (0 : Int32), sR ob3, .unset, .unset, .unset, .unset, .unset, .unset, .unset, .unset, .unset] [(Value.int ((p3 >>> ((8 : Int32) &&& 31)).toInt8.toInt32)), (Value.int (299 : Int32)), (Value.ref ob3)])) rfl rfl (hb hby at_91)
      refine own_Go.by st10 ?_
      have N10 := Fr.snoc X10 N7 g5
      have O11 := O8.wr W10 g5
      have K11 := K8.wr W10 (Or.inr z5)
      rw [show nar .byte ((p3 >>> ((8 : Int32) &&& 31)).toInt8.toInt32) = ((p3 >>> ((8 : Int32) &&& 31)).toInt8.toInt32) from own_b8 _] at W10
      have V10 : Arv Z h10 ob3 k3 .byte (300 : Int32) (((List.replicate 300 (Value.int (0 : Int32))).set 0 (Value.int (p3.toInt8.toInt32))).set 299 (Value.int ((p3 >>> ((8 : Int32) &&& 31)).toInt8.toInt32))) (Value.int (0 : Int32)) := Arv.set Ar9 q9 S9 M9 Hh9 G9 (own_fitB (own_b8 _)) W10 299 (rfl) (Nat.le_of_ble_eq_true rfl)
      show own_Go _ _ _ _ (T10.setTop (mkF m 92 #[sI p1, sI p2, sI p3, sI p4, sI sel, sR aK, sI cd, sI vv, sI (0 : Int32), sR ob3, .unset, .unset, .unset, .unset, .unset, .unset, .unset, .unset, .unset] []))
      obtain ⟨T12, h12, X12, e12, E12, A12, D12, -, st12⟩ := newO X10 hx hZ hown (hw _ (List.mem_of_getElem? (i := 6) rfl)) (hw _ (List.mem_of_getElem? (i := 7) rfl)) (hw _ (List.mem_of_getElem? (i := 8) rfl)) e10 (g := (mkF m 92 #[sI p1, sI p2, sI p3, sI p4, sI sel, sR aK, sI cd, sI vv, sI (0 : Int32), sR ob3, .unset, .unset, .unset, .unset, .unset, .unset, .unset, .unset, .unset] [])) rfl (hb hby at_92) (by decide) (by decide)
      obtain ⟨ob12, y12⟩ : ∃ z, z = h10.size := ⟨_, rfl⟩
      rw [← y12] at A12 D12 st12
      refine own_Go.by st12 ?_
      have O13 := O11.ext E12
      have K13 := K11.ext E12
      have g14 : n0 ≤ ob12 := Nat.le_trans (own_old_le O11) (Nat.le_of_eq y12.symm)
      have z14 : h0.size ≤ ob12 := Nat.le_trans K11.1 (Nat.le_of_eq y12.symm)
      have F12_bytes : Fld Z h12 ob12 "com/example/ebbtide/ebbtide/core/Encoder" "bytes" "[B" .null := D12 (Or.inl (hw _ (List.mem_of_getElem? (i := 16) rfl))) (ty := (.array .byte)) (by decide)
      have F12_length : Fld Z h12 ob12 "com/example/ebbtide/ebbtide/core/Encoder" "length" "I" (Value.int (0 : Int32)) := D12 (Or.inl (hw _ (List.mem_of_getElem? (i := 39) rfl))) (ty := .int) (by decide)
      refine own_Go.by (fun tq kq => XS.dup X12.here hx rfl (hb hby at_95) rfl rfl kq) ?_
      refine own_Go.by (fun tq kq => XS.aload X12.here hx rfl (hb hby at_96) rfl rfl kq) ?_
      show own_Go _ _ _ _ (T12.setTop (mkF m 98 #[sI p1, sI p2, sI p3, sI p4, sI sel, sR aK, sI cd, sI vv, sI (0 : Int32), sR ob3, .unset, .unset, .unset, .unset, .unset, .unset, .unset, .unset, .unset] [(Value.ref aK), (Value.ref ob12), (Value.ref ob12)]))
      obtain ⟨_, _, ⟨T15, L15, k15, n15⟩, -, X15, hs15, hg15, ⟨Lc15, hQ15, l15, y15, z15⟩, st15⟩ := X12.specialBackS hx (y := (⟨"com/example/ebbtide/ebbtide/core/Encoder", "<init>", "(Lcom/example/ebbtide/ebbtide/core/SummaryKind;)V"⟩ : MethodName)) rfl hown (mvT hZ (hw _ (List.mem_of_getElem? (i := 9) rfl))) (mvT hZ (hw _ (List.mem_of_getElem? (i := 10) rfl))) (mvT hZ (hw _ (List.mem_of_getElem? (i := 11) rfl))) (by decide) (backOfS (W := 1) (rm1 l Z a0 hw [] ob12 aK cd aM kM h12 n0 O13 A12 g14 F12_bytes F12_length H9 H10 hkind.1 hkind.2 ((own_cd h_aK_cd).1 : ((cd.toInt64) &&& (-128 : Int64)) = (0 : Int64)) ((own_cd h_aK_cd).2 : (((cd.toInt64).toInt32).toInt8.toInt32) = cd)) hZ (hw _ (List.mem_of_getElem? (i := 11) rfl)) (hw _ (List.mem_of_getElem? (i := 8) rfl)) (by decide) (by decide)) (g := (mkF m 98 #[sI p1, sI p2, sI p3, sI p4, sI sel, sR aK, sI cd, sI vv, sI (0 : Int32), sR ob3, .unset, .unset, .unset, .unset, .unset, .unset, .unset, .unset, .unset] [(Value.ref aK), (Value.ref ob12), (Value.ref ob12)])) rfl (by rw [hml]; rfl) (Steps.refl _) (a := ob12) (argsL := [(Value.ref aK)]) (rest := [(Value.ref ob12)]) (lenOf own_pd8 rfl) rfl (by show 2 * 0 + _ ≤ _; exact Nat.le_of_eq rfl) (hb hby at_98) (fun _ _ => ⟨rfl, e12, (by decide : 2 + 3 ≤ _), (by decide : 302 + 308 ≤ _)⟩)
      dsimp only [Pt.U, Pt.locs, Pt.cells, Pt.slots] at X15 l15 y15 z15 st15 hQ15 hs15 hg15
      subst l15 y15 z15
      obtain ⟨X15, hS15, hZ15, hown15⟩ := rebS (s := s) (vm0 := s.vm) hS0 (Nat.zero_le _) X15 hs15 hg15 hZ hown
      refine own_Go.by (fun tq kq => st15.trans kq) ?_
      obtain ⟨b_15, k2_15, rfl, N15q, K15q, p15_0, p15_1, p15_2, p15_3, p15_4⟩ := hQ15
      have N15 := Fr.app N10 N15q
      have O16 := O13.keep K15q (allS g14 all0)
      have K16 := K13.trans K15q (allS (Or.inr z14) all0)
      have g17 : n0 ≤ b_15 := Nat.le_trans (own_old_le O13) p15_0
      have z17 : h0.size ≤ b_15 := Nat.le_trans K13.1 p15_0
      refine own_Go.by (fun tq kq => XS.astore X15.here hx rfl (hb hby at_101) rfl rfl (l' := #[sI p1, sI p2, sI p3, sI p4, sI sel, sR aK, sI cd, sI vv, sI (0 : Int32), sR ob3, sR ob12, .unset, .unset, .unset, .unset, .unset, .unset, .unset, .unset]) rfl kq) ?_
      refine own_Go.by (fun tq kq => XS.aload X15.here hx rfl (hb hby at_103) rfl rfl kq) ?_
      show own_Go _ _ _ _ (T15.setTop (mkF m 105 #[sI p1, sI p2, sI p3, sI p4, sI sel, sR aK, sI cd, sI vv, sI (0 : Int32), sR ob3, sR ob12, .unset, .unset, .unset, .unset, .unset, .unset, .unset, .unset] [(Value.ref ob12)]))
      obtain ⟨cq18, kq18, q18a, q18b, q18c⟩ := isOf hZ15 rfl p15_1
      obtain ⟨_, _, ⟨T18, L18, k18, n18⟩, -, X18, ⟨Lc18, hQ18, l18, y18, z18⟩, st18⟩ := X15.virtualBack hx (y := (⟨"com/example/ebbtide/ebbtide/core/Encoder", "toByteArray", "()[B"⟩ : MethodName)) (z := (⟨"com/example/ebbtide/ebbtide/core/Encoder", "toByteArray", "()[B"⟩ : MethodName)) hown15 (mvT hZ15 (hw _ (List.mem_of_getElem? (i := 55) rfl))) (mvT hZ15 (hw _ (List.mem_of_getElem? (i := 56) rfl))) (notFace_of_selects (args := #[]) (mvT hZ15 (hw _ (List.mem_of_getElem? (i := 58) rfl)))) (mvT hZ15 (hw _ (List.mem_of_getElem? (i := 58) rfl))) (mvT hZ15 (hw _ (List.mem_of_getElem? (i := 57) rfl))) (by decide) (backOf (W := 0) (rm8_256_6 l Z a0 hw [] ob12 b_15 k2_15 (own_hd cd) T15.heap n0 O16 p15_1 p15_2 p15_3 p15_4) hZ15 (hw _ (List.mem_of_getElem? (i := 59) rfl)) (hw _ (List.mem_of_getElem? (i := 8) rfl)) (by decide) (by decide)) q18a q18c (g := (mkF m 105 #[sI p1, sI p2, sI p3, sI p4, sI sel, sR aK, sI cd, sI vv, sI (0 : Int32), sR ob3, sR ob12, .unset, .unset, .unset, .unset, .unset, .unset, .unset, .unset] [(Value.ref ob12)])) rfl (by rw [hml]; rfl) (Steps.refl _) (argsL := []) (rest := []) (lenOf own_pd9 rfl) rfl (by show 2 * 0 + _ ≤ _; exact Nat.le_of_eq rfl) (hb hby at_105) (fun _ _ => ⟨rfl, rfl, (by decide : 5 + 1 ≤ _), (by decide : 610 + 6 ≤ _)⟩)
      dsimp only [Pt.U, Pt.locs, Pt.cells, Pt.slots] at X18 l18 y18 z18 st18 hQ18
      subst l18 y18 z18
      refine own_Go.by (fun tq kq => st18.trans kq) ?_
      obtain ⟨b_18, k2_18, rfl, N18q, K18q, p18_0, p18_1⟩ := hQ18
      have N18 := Fr.app N15 N18q
      have O19 := O16.keep K18q all0
      have K19 := K16.trans K18q all0
      have hk_19 := K18q.1
      have g20 : n0 ≤ b_18 := Nat.le_trans (own_old_le O16) p18_0
      have z20 : h0.size ≤ b_18 := Nat.le_trans K16.1 p18_0
      refine own_Go.by (fun tq kq => XS.astore X18.here hx rfl (hb hby at_108) rfl rfl (l' := #[sI p1, sI p2, sI p3, sI p4, sI sel, sR aK, sI cd, sI vv, sI (0 : Int32), sR ob3, sR ob12, sR b_18, .unset, .unset, .unset, .unset, .unset, .unset, .unset]) rfl kq) ?_
      refine own_Go.by (fun tq kq => XS.aload X18.here hx rfl (hb hby at_110) rfl rfl kq) ?_
      show own_Go _ _ _ _ (T18.setTop (mkF m 112 #[sI p1, sI p2, sI p3, sI p4, sI sel, sR aK, sI cd, sI vv, sI (0 : Int32), sR ob3, sR ob12, sR b_18, .unset, .unset, .unset, .unset, .unset, .unset, .unset] [(Value.ref b_18)]))
      obtain ⟨cl21, Ar21, q21, S21, M21, Hh21, G21⟩ := id p18_1
      refine own_Go.by (fun tq kq => X18.arraylength hx Ar21.1 (State.isArrayOf_alike hZ15.alike Ar21.2.1) (g := (mkF m 112 #[sI p1, sI p2, sI p3, sI p4, sI sel, sR aK, sI cd, sI vv, sI (0 : Int32), sR ob3, sR ob12, sR b_18, .unset, .unset, .unset, .unset, .unset, .unset, .unset] [(Value.ref b_18)])) rfl rfl (hb hby at_112) _ kq) ?_
      rw [len_of S21 M21]
      refine own_Go.by (fun tq kq => XS.bipush X18.here hx rfl (hb hby at_113) kq) ?_
      show own_Go _ _ _ _ (T18.setTop (mkF m 115 #[sI p1, sI p2, sI p3, sI p4, sI sel, sR aK, sI cd, sI vv, sI (0 : Int32), sR ob3, sR ob12, sR b_18, .unset, .unset, .unset, .unset, .unset, .unset, .unset] [(Value.int (6 : Int32)), (Value.int (6 : Int32))]))
      refine own_Go.by (fun tq kq => XS.icmpNo X18.here hx rfl (hb hby at_115) rfl (teq (by decide : (6 : Int32) = (6 : Int32))).2 kq) ?_
      refine own_Go.by (fun tq kq => XS.aload X18.here hx rfl (hb hby at_118) rfl rfl kq) ?_
      refine own_Go.by (fun tq kq => XS.iload X18.here hx rfl (hb hby at_120) rfl kq) ?_
      show own_Go _ _ _ _ (T18.setTop (mkF m 122 #[sI p1, sI p2, sI p3, sI p4, sI sel, sR aK, sI cd, sI vv, sI (0 : Int32), sR ob3, sR ob12, sR b_18, .unset, .unset, .unset, .unset, .unset, .unset, .unset] [(Value.int cd), (Value.ref b_18)]))
      obtain ⟨_, _, ⟨T22, L22, k22, n22⟩, -, X22, ⟨Lc22, hQ22, l22, y22, z22⟩, st22⟩ := Jvm.LawKit.callS X18 hx (y := (⟨"com/example/ebbtide/ebbtide/core/EncoderToByteArrayPinLaw", "header", "([BI)Z"⟩ : MethodName)) hown15 (mvT hZ15 (hw _ (List.mem_of_getElem? (i := 72) rfl))) (mvT hZ15 (hw _ (List.mem_of_getElem? (i := 73) rfl))) (mvT hZ15 (hw _ (List.mem_of_getElem? (i := 74) rfl))) (mvT hZ15 (hw _ (List.mem_of_getElem? (i := 75) rfl))) (by decide) (backOf (W := 0) (rm11 l Z a0 hw [] b_18 k2_18 (6 : Int32) (own_cp (own_hd cd) 6) cd T18.heap n0 O19 p18_1 (by decide : ¬ ((6 : Int32) < (6 : Int32))) (by decide : ¬ ((0 : Int32) < (0 : Int32)) ∧ (0 : Int32) < (6 : Int32)) (by decide : ¬ ((1 : Int32) < (0 : Int32)) ∧ (1 : Int32) < (6 : Int32)) (by decide : ¬ ((2 : Int32) < (0 : Int32)) ∧ (2 : Int32) < (6 : Int32)) (by decide : ¬ ((3 : Int32) < (0 : Int32)) ∧ (3 : Int32) < (6 : Int32)) (by decide : ¬ ((4 : Int32) < (0 : Int32)) ∧ (4 : Int32) < (6 : Int32)) (by decide : ¬ ((5 : Int32) < (0 : Int32)) ∧ (5 : Int32) < (6 : Int32)) (rfl : (own_cp (own_hd cd) 6).getD (0 : Int32).toNatClampNeg (Value.int (0 : Int32)) = (Value.int (69 : Int32))) (rfl : (own_cp (own_hd cd) 6).getD (1 : Int32).toNatClampNeg (Value.int (0 : Int32)) = (Value.int (66 : Int32))) (rfl : (own_cp (own_hd cd) 6).getD (2 : Int32).toNatClampNeg (Value.int (0 : Int32)) = (Value.int (66 : Int32))) (rfl : (own_cp (own_hd cd) 6).getD (3 : Int32).toNatClampNeg (Value.int (0 : Int32)) = (Value.int (84 : Int32))) (rfl : (own_cp (own_hd cd) 6).getD (4 : Int32).toNatClampNeg (Value.int (0 : Int32)) = (Value.int (3 : Int32))) (rfl : (own_cp (own_hd cd) 6).getD (5 : Int32).toNatClampNeg (Value.int (0 : Int32)) = (Value.int cd))) hZ15 (hw _ (List.mem_of_getElem? (i := 75) rfl)) (hw _ (List.mem_of_getElem? (i := 74) rfl)) (by decide) (by decide)) (g := (mkF m 122 #[sI p1, sI p2, sI p3, sI p4, sI sel, sR aK, sI cd, sI vv, sI (0 : Int32), sR ob3, sR ob12, sR b_18, .unset, .unset, .unset, .unset, .unset, .unset, .unset] [(Value.int cd), (Value.ref b_18)])) rfl (by rw [hml]; rfl) (argsL := [(Value.ref b_18), (Value.int cd)]) (rest := []) (lenOf own_pd10 rfl) rfl (by show 2 * 0 + _ ≤ _; exact Nat.le_of_eq rfl) (hb hby at_122) (fun _ _ => ⟨rfl, rfl, (by decide : 6 + 0 ≤ _), (by decide : 616 + 0 ≤ _)⟩)
      dsimp only [Pt.U, Pt.locs, Pt.cells, Pt.slots] at X22 l22 y22 z22 st22 hQ22
      subst l22 y22 z22
      refine own_Go.by st22 ?_
      obtain ⟨rfl, N22q, e22⟩ := hQ22
      have N22 := Fr.app N18 N22q
      show own_Go _ _ _ _ (T22.setTop (mkF m 125 #[sI p1, sI p2, sI p3, sI p4, sI sel, sR aK, sI cd, sI vv, sI (0 : Int32), sR ob3, sR ob12, sR b_18, .unset, .unset, .unset, .unset, .unset, .unset, .unset] [(Value.int (1 : Int32))]))
      refine own_Go.by (fun tq kq => XS.ifYes X22.here hx rfl (pc0 := 125) (pc' := 130) rfl (hb hby at_125) rfl ((if0 _ _).trans (feq (by decide : ¬ ((1 : Int32) = (0 : Int32)))).2) (by decide) (by decide) kq) ?_
      have hv21 := own_v21 hv_vv
      have h64 : (vv.toInt64).toInt = vv.toInt := c_i2l vv
      have hsh := own_sh7 (x := (vv.toInt64)) (by omega)
      have e128 : (128 : Int32).toInt = 128 := rfl
      have e16k : (16384 : Int32).toInt = 16384 := rfl
      by_cases hs1 : vv < (128 : Int32)
      ·
        have hs1' := hs1
        rw [Int32.lt_iff_toInt_lt] at hs1'
        refine own_Go.by (fun tq kq => XS.aload X22.here hx rfl (hb hby at_130) rfl rfl kq) ?_
        refine own_Go.by (fun tq kq => XS.iload X22.here hx rfl (hb hby at_132) rfl kq) ?_
        refine own_Go.by (fun tq kq => XS.i2l X22.here hx rfl (hb hby at_134) rfl kq) ?_
        show own_Go _ _ _ _ (T22.setTop (mkF m 135 #[sI p1, sI p2, sI p3, sI p4, sI sel, sR aK, sI cd, sI vv, sI (0 : Int32), sR ob3, sR ob12, sR b_18, .unset, .unset, .unset, .unset, .unset, .unset, .unset] [(Value.long (vv.toInt64)), (Value.ref ob12)]))
        have c24 := (p15_1.keep K18q)
        have c25 := (p15_2.keep K18q nin0)
        have c26 := (p15_3.keep K18q nin0)
        have c27 := (p15_4.keep K18q nin0)
        obtain ⟨cq23, kq23, q23a, q23b, q23c⟩ := isOf hZ15 e22 c24
        obtain ⟨_, _, ⟨T23, L23, k23, n23⟩, -, X23, ⟨Lc23, hQ23, l23, y23, z23⟩, st23⟩ := X22.virtualBack hx (y := (⟨"com/example/ebbtide/ebbtide/core/Encoder", "unsigned", "(J)V"⟩ : MethodName)) (z := (⟨"com/example/ebbtide/ebbtide/core/Encoder", "unsigned", "(J)V"⟩ : MethodName)) hown15 (mvT hZ15 (hw _ (List.mem_of_getElem? (i := 76) rfl))) (mvT hZ15 (hw _ (List.mem_of_getElem? (i := 43) rfl))) (notFace_of_selects (args := #[]) (mvT hZ15 (hw _ (List.mem_of_getElem? (i := 45) rfl)))) (mvT hZ15 (hw _ (List.mem_of_getElem? (i := 45) rfl))) (mvT hZ15 (hw _ (List.mem_of_getElem? (i := 44) rfl))) (by decide) (backOf (W := 0) (rm6_1 l Z a0 hw [] ob12 b_15 k2_15 (own_hd cd) (6 : Int32) (vv.toInt64) 6 T18.heap n0 O19 c24 c25 c26 c27 g14 g17 (Nat.ne_of_lt (Nat.lt_of_lt_of_le A12.lt p15_0)) (by decide : ¬ ((2147483639 : Int64) < (((6 : Int32).toInt64) + ((1 : Int32).toInt64)))) (by decide : ¬ (((256 : Int32).toInt64) < (((6 : Int32).toInt64) + ((1 : Int32).toInt64)))) (by decide : ¬ ((6 : Int32) < (0 : Int32)) ∧ (6 : Int32) < (256 : Int32)) (rfl : (6 : Int32).toNatClampNeg = 6) (Nat.le_of_ble_eq_true rfl : 6 < (own_hd cd).length) ((own_m128 (by omega)).mpr (by omega) : ((vv.toInt64) &&& (-128 : Int64)) = (0 : Int64))) hZ15 (hw _ (List.mem_of_getElem? (i := 46) rfl)) (hw _ (List.mem_of_getElem? (i := 8) rfl)) (by decide) (by decide)) q23a q23c (g := (mkF m 135 #[sI p1, sI p2, sI p3, sI p4, sI sel, sR aK, sI cd, sI vv, sI (0 : Int32), sR ob3, sR ob12, sR b_18, .unset, .unset, .unset, .unset, .unset, .unset, .unset] [(Value.long (vv.toInt64)), (Value.ref ob12)])) rfl (by rw [hml]; rfl) (Steps.refl _) (argsL := [(Value.long (vv.toInt64))]) (rest := []) (lenOf own_pd5 rfl) rfl (by show 2 * 0 + _ ≤ _; exact Nat.le_of_eq rfl) (hb hby at_135) (fun _ _ => ⟨rfl, e22, (by decide : 6 + 0 ≤ _), (by decide : 616 + 0 ≤ _)⟩)
        dsimp only [Pt.U, Pt.locs, Pt.cells, Pt.slots] at X23 l23 y23 z23 st23 hQ23
        subst l23 y23 z23
        refine own_Go.by (fun tq kq => st23.trans kq) ?_
        obtain ⟨rfl, N23q, K23q, p23_0, p23_1, p23_2, p23_3⟩ := hQ23
        have N23 := Fr.app N22 N23q
        have O28 := O19.keep K23q (allS g14 (allS g17 all0))
        have K28 := K19.trans K23q (allS (Or.inr z14) (allS (Or.inr z17) all0))
        have hk_28 := Nat.le_trans hk_19 K23q.1
        refine own_Go.by (fun tq kq => XS.iload X23.here hx rfl (hb hby at_138) rfl kq) ?_
        show own_Go _ _ _ _ (T23.setTop (mkF m 140 #[sI p1, sI p2, sI p3, sI p4, sI sel, sR aK, sI cd, sI vv, sI (0 : Int32), sR ob3, sR ob12, sR b_18, .unset, .unset, .unset, .unset, .unset, .unset, .unset] [(Value.int (0 : Int32))]))
        refine own_Go.by (fun tq kq => XS.ifYes X23.here hx rfl (pc0 := 140) (pc' := 150) rfl (hb hby at_140) rfl ((if0 _ _).trans (teq (by decide : (0 : Int32) = (0 : Int32))).1) (by decide) (by decide) kq) ?_
        refine own_Go.by (fun tq kq => XS.aload X23.here hx rfl (hb hby at_150) rfl rfl kq) ?_
        show own_Go _ _ _ _ (T23.setTop (mkF m 152 #[sI p1, sI p2, sI p3, sI p4, sI sel, sR aK, sI cd, sI vv, sI (0 : Int32), sR ob3, sR ob12, sR b_18, .unset, .unset, .unset, .unset, .unset, .unset, .unset] [(Value.ref ob12)]))
        obtain ⟨cq29, kq29, q29a, q29b, q29c⟩ := isOf hZ15 rfl p23_0
        obtain ⟨_, _, ⟨T29, L29, k29, n29⟩, -, X29, ⟨Lc29, hQ29, l29, y29, z29⟩, st29⟩ := X23.virtualBack hx (y := (⟨"com/example/ebbtide/ebbtide/core/Encoder", "toByteArray", "()[B"⟩ : MethodName)) (z := (⟨"com/example/ebbtide/ebbtide/core/Encoder", "toByteArray", "()[B"⟩ : MethodName)) hown15 (mvT hZ15 (hw _ (List.mem_of_getElem? (i := 55) rfl))) (mvT hZ15 (hw _ (List.mem_of_getElem? (i := 56) rfl))) (notFace_of_selects (args := #[]) (mvT hZ15 (hw _ (List.mem_of_getElem? (i := 58) rfl)))) (mvT hZ15 (hw _ (List.mem_of_getElem? (i := 58) rfl))) (mvT hZ15 (hw _ (List.mem_of_getElem? (i := 57) rfl))) (by decide) (backOf (W := 0) (rm8_256_7 l Z a0 hw [] ob12 b_15 k2_15 ((own_hd cd).set 6 (Value.int (((vv.toInt64).toInt32).toInt8.toInt32))) T23.heap n0 O28 p23_0 p23_1 p23_2 p23_3) hZ15 (hw _ (List.mem_of_getElem? (i := 59) rfl)) (hw _ (List.mem_of_getElem? (i := 8) rfl)) (by decide) (by decide)) q29a q29c (g := (mkF m 152 #[sI p1, sI p2, sI p3, sI p4, sI sel, sR aK, sI cd, sI vv, sI (0 : Int32), sR ob3, sR ob12, sR b_18, .unset, .unset, .unset, .unset, .unset, .unset, .unset] [(Value.ref ob12)])) rfl (by rw [hml]; rfl) (Steps.refl _) (argsL := []) (rest := []) (lenOf own_pd9 rfl) rfl (by show 2 * 0 + _ ≤ _; exact Nat.le_of_eq rfl) (hb hby at_152) (fun _ _ => ⟨rfl, rfl, (by decide : 6 + 1 ≤ _), (by decide : 616 + 7 ≤ _)⟩)
        dsimp only [Pt.U, Pt.locs, Pt.cells, Pt.slots] at X29 l29 y29 z29 st29 hQ29
        subst l29 y29 z29
        refine own_Go.by (fun tq kq => st29.trans kq) ?_
        obtain ⟨b_29, k2_29, rfl, N29q, K29q, p29_0, p29_1⟩ := hQ29
        have N29 := Fr.app N23 N29q
        have O30 := O28.keep K29q all0
        have K30 := K28.trans K29q all0
        have hk_30 := Nat.le_trans hk_28 K29q.1
        have g31 : n0 ≤ b_29 := Nat.le_trans (own_old_le O28) p29_0
        have z31 : h0.size ≤ b_29 := Nat.le_trans K28.1 p29_0
        refine own_Go.by (fun tq kq => XS.astore X29.here hx rfl (hb hby at_155) rfl rfl (l' := #[sI p1, sI p2, sI p3, sI p4, sI sel, sR aK, sI cd, sI vv, sI (0 : Int32), sR ob3, sR ob12, sR b_18, sR b_29, .unset, .unset, .unset, .unset, .unset, .unset]) rfl kq) ?_
        refine own_Go.by (fun tq kq => XS.iconst X29.here hx rfl (hb hby at_157) kq) ?_
        refine own_Go.by (fun tq kq => XS.istore X29.here hx rfl (hb hby at_158) rfl (l' := #[sI p1, sI p2, sI p3, sI p4, sI sel, sR aK, sI cd, sI vv, sI (0 : Int32), sR ob3, sR ob12, sR b_18, sR b_29, .unset, .unset, sI (0 : Int32), .unset, .unset, .unset]) rfl kq) ?_
        show own_Go _ _ _ _ (T29.setTop (mkF m 160 #[sI p1, sI p2, sI p3, sI p4, sI sel, sR aK, sI cd, sI vv, sI (0 : Int32), sR ob3, sR ob12, sR b_18, sR b_29, .unset, .unset, sI (0 : Int32), .unset, .unset, .unset] []))
        refine own_Go.by (fun tq kq => XS.iconst X29.here hx rfl (hb hby at_160) kq) ?_
        refine own_Go.by (fun tq kq => XS.istore X29.here hx rfl (hb hby at_161) rfl (l' := #[sI p1, sI p2, sI p3, sI p4, sI sel, sR aK, sI cd, sI vv, sI (0 : Int32), sR ob3, sR ob12, sR b_18, sR b_29, .unset, .unset, sI (0 : Int32), sI (0 : Int32), .unset, .unset]) rfl kq) ?_
        refine own_Go.by (fun tq kq => XS.iload X29.here hx rfl (hb hby at_163) rfl kq) ?_
        refine own_Go.by (fun tq kq => XS.sipush X29.here hx rfl (hb hby at_165) kq) ?_
        show own_Go _ _ _ _ (T29.setTop (mkF m 168 #[sI p1, sI p2, sI p3, sI p4, sI sel, sR aK, sI cd, sI vv, sI (0 : Int32), sR ob3, sR ob12, sR b_18, sR b_29, .unset, .unset, sI (0 : Int32), sI (0 : Int32), .unset, .unset] [(Value.int (128 : Int32)), (Value.int vv)]))
        refine own_Go.by (fun tq kq => XS.icmpNo X29.here hx rfl (hb hby at_168) rfl (tlt hs1).2.1 kq) ?_
        refine own_Go.by (fun tq kq => XS.iconst X29.here hx rfl (hb hby at_171) kq) ?_
        refine own_Go.by (fun tq kq => XS.istore X29.here hx rfl (hb hby at_172) rfl (l' := #[sI p1, sI p2, sI p3, sI p4, sI sel, sR aK, sI cd, sI vv, sI (0 : Int32), sR ob3, sR ob12, sR b_18, sR b_29, sI (1 : Int32), .unset, sI (0 : Int32), sI (0 : Int32), .unset, .unset]) rfl kq) ?_
        refine own_Go.by (fun tq kq => XS.iload X29.here hx rfl (hb hby at_174) rfl kq) ?_
        show own_Go _ _ _ _ (T29.setTop (mkF m 176 #[sI p1, sI p2, sI p3, sI p4, sI sel, sR aK, sI cd, sI vv, sI (0 : Int32), sR ob3, sR ob12, sR b_18, sR b_29, sI (1 : Int32), .unset, sI (0 : Int32), sI (0 : Int32), .unset, .unset] [(Value.int vv)]))
        refine own_Go.by (fun tq kq => XS.i2b X29.here hx rfl (hb hby at_176) rfl kq) ?_
        refine own_Go.by (fun tq kq => XS.istore X29.here hx rfl (hb hby at_177) rfl (l' := #[sI p1, sI p2, sI p3, sI p4, sI sel, sR aK, sI cd, sI vv, sI (0 : Int32), sR ob3, sR ob12, sR b_18, sR b_29, sI (1 : Int32), sI (vv.toInt8.toInt32), sI (0 : Int32), sI (0 : Int32), .unset, .unset]) rfl kq) ?_
        refine own_Go.by (fun tq kq => XS.goto X29.here hx rfl (pc0 := 179) (pc' := 254) rfl (hb hby at_179) (by decide) (by decide) kq) ?_
        refine own_Go.by (fun tq kq => XS.bipush X29.here hx rfl (hb hby at_254) kq) ?_
        show own_Go _ _ _ _ (T29.setTop (mkF m 256 #[sI p1, sI p2, sI p3, sI p4, sI sel, sR aK, sI cd, sI vv, sI (0 : Int32), sR ob3, sR ob12, sR b_18, sR b_29, sI (1 : Int32), sI (vv.toInt8.toInt32), sI (0 : Int32), sI (0 : Int32), .unset, .unset] [(Value.int (6 : Int32))]))
        refine own_Go.by (fun tq kq => XS.iload X29.here hx rfl (hb hby at_256) rfl kq) ?_
        refine own_Go.by (fun tq kq => XS.iadd X29.here hx rfl (hb hby at_258) rfl kq) ?_
        refine own_Go.by (fun tq kq => XS.iload X29.here hx rfl (hb hby at_259) rfl kq) ?_
        show own_Go _ _ _ _ (T29.setTop (mkF m 261 #[sI p1, sI p2, sI p3, sI p4, sI sel, sR aK, sI cd, sI vv, sI (0 : Int32), sR ob3, sR ob12, sR b_18, sR b_29, sI (1 : Int32), sI (vv.toInt8.toInt32), sI (0 : Int32), sI (0 : Int32), .unset, .unset] [(Value.int (0 : Int32)), (Value.int (7 : Int32))]))
        refine own_Go.by (fun tq kq => XS.ifYes X29.here hx rfl (pc0 := 261) (pc' := 270) rfl (hb hby at_261) rfl ((if0 _ _).trans (teq (by decide : (0 : Int32) = (0 : Int32))).1) (by decide) (by decide) kq) ?_
        refine own_Go.by (fun tq kq => XS.iconst X29.here hx rfl (hb hby at_270) kq) ?_
        refine own_Go.by (fun tq kq => XS.iadd X29.here hx rfl (hb hby at_271) rfl kq) ?_
        refine own_Go.by (fun tq kq => XS.istore X29.here hx rfl (hb hby at_272) rfl (l' := #[sI p1, sI p2, sI p3, sI p4, sI sel, sR aK, sI cd, sI vv, sI (0 : Int32), sR ob3, sR ob12, sR b_18, sR b_29, sI (1 : Int32), sI (vv.toInt8.toInt32), sI (0 : Int32), sI (0 : Int32), sI (7 : Int32), .unset]) rfl kq) ?_
        show own_Go _ _ _ _ (T29.setTop (mkF m 274 #[sI p1, sI p2, sI p3, sI p4, sI sel, sR aK, sI cd, sI vv, sI (0 : Int32), sR ob3, sR ob12, sR b_18, sR b_29, sI (1 : Int32), sI (vv.toInt8.toInt32), sI (0 : Int32), sI (0 : Int32), sI (7 : Int32), .unset] []))
        refine own_Go.by (fun tq kq => XS.aload X29.here hx rfl (hb hby at_274) rfl rfl kq) ?_
        show own_Go _ _ _ _ (T29.setTop (mkF m 276 #[sI p1, sI p2, sI p3, sI p4, sI sel, sR aK, sI cd, sI vv, sI (0 : Int32), sR ob3, sR ob12, sR b_18, sR b_29, sI (1 : Int32), sI (vv.toInt8.toInt32), sI (0 : Int32), sI (0 : Int32), sI (7 : Int32), .unset] [(Value.ref b_29)]))
        obtain ⟨cl32, Ar32, q32, S32, M32, Hh32, G32⟩ := id p29_1
        refine own_Go.by (fun tq kq => X29.arraylength hx Ar32.1 (State.isArrayOf_alike hZ15.alike Ar32.2.1) (g := (mkF m 276 #[sI p1, sI p2, sI p3, sI p4, sI sel, sR aK, sI cd, sI vv, sI (0 : Int32), sR ob3, sR ob12, sR b_18, sR b_29, sI (1 : Int32), sI (vv.toInt8.toInt32), sI (0 : Int32), sI (0 : Int32), sI (7 : Int32), .unset] [(Value.ref b_29)])) rfl rfl (hb hby at_276) _ kq) ?_
        rw [len_of S32 M32]
        refine own_Go.by (fun tq kq => XS.iload X29.here hx rfl (hb hby at_277) rfl kq) ?_
        show own_Go _ _ _ _ (T29.setTop (mkF m 279 #[sI p1, sI p2, sI p3, sI p4, sI sel, sR aK, sI cd, sI vv, sI (0 : Int32), sR ob3, sR ob12, sR b_18, sR b_29, sI (1 : Int32), sI (vv.toInt8.toInt32), sI (0 : Int32), sI (0 : Int32), sI (7 : Int32), .unset] [(Value.int (7 : Int32)), (Value.int (7 : Int32))]))
        refine own_Go.by (fun tq kq => XS.icmpNo X29.here hx rfl (hb hby at_279) rfl (teq (by decide : (7 : Int32) = (7 : Int32))).2 kq) ?_
        refine own_Go.by (fun tq kq => XS.aload X29.here hx rfl (hb hby at_282) rfl rfl kq) ?_
        refine own_Go.by (fun tq kq => XS.iload X29.here hx rfl (hb hby at_284) rfl kq) ?_
        show own_Go _ _ _ _ (T29.setTop (mkF m 286 #[sI p1, sI p2, sI p3, sI p4, sI sel, sR aK, sI cd, sI vv, sI (0 : Int32), sR ob3, sR ob12, sR b_18, sR b_29, sI (1 : Int32), sI (vv.toInt8.toInt32), sI (0 : Int32), sI (0 : Int32), sI (7 : Int32), .unset] [(Value.int cd), (Value.ref b_29)]))
        obtain ⟨_, _, ⟨T33, L33, k33, n33⟩, -, X33, ⟨Lc33, hQ33, l33, y33, z33⟩, st33⟩ := Jvm.LawKit.callS X29 hx (y := (⟨"com/example/ebbtide/ebbtide/core/EncoderToByteArrayPinLaw", "header", "([BI)Z"⟩ : MethodName)) hown15 (mvT hZ15 (hw _ (List.mem_of_getElem? (i := 72) rfl))) (mvT hZ15 (hw _ (List.mem_of_getElem? (i := 73) rfl))) (mvT hZ15 (hw _ (List.mem_of_getElem? (i := 74) rfl))) (mvT hZ15 (hw _ (List.mem_of_getElem? (i := 75) rfl))) (by decide) (backOf (W := 0) (rm11 l Z a0 hw [] b_29 k2_29 (7 : Int32) (own_cp ((own_hd cd).set 6 (Value.int (((vv.toInt64).toInt32).toInt8.toInt32))) 7) cd T29.heap n0 O30 p29_1 (by decide : ¬ ((7 : Int32) < (6 : Int32))) (by decide : ¬ ((0 : Int32) < (0 : Int32)) ∧ (0 : Int32) < (7 : Int32)) (by decide : ¬ ((1 : Int32) < (0 : Int32)) ∧ (1 : Int32) < (7 : Int32)) (by decide : ¬ ((2 : Int32) < (0 : Int32)) ∧ (2 : Int32) < (7 : Int32)) (by decide : ¬ ((3 : Int32) < (0 : Int32)) ∧ (3 : Int32) < (7 : Int32)) (by decide : ¬ ((4 : Int32) < (0 : Int32)) ∧ (4 : Int32) < (7 : Int32)) (by decide : ¬ ((5 : Int32) < (0 : Int32)) ∧ (5 : Int32) < (7 : Int32)) (rfl : (own_cp ((own_hd cd).set 6 (Value.int (((vv.toInt64).toInt32).toInt8.toInt32))) 7).getD (0 : Int32).toNatClampNeg (Value.int (0 : Int32)) = (Value.int (69 : Int32))) (rfl : (own_cp ((own_hd cd).set 6 (Value.int (((vv.toInt64).toInt32).toInt8.toInt32))) 7).getD (1 : Int32).toNatClampNeg (Value.int (0 : Int32)) = (Value.int (66 : Int32))) (rfl : (own_cp ((own_hd cd).set 6 (Value.int (((vv.toInt64).toInt32).toInt8.toInt32))) 7).getD (2 : Int32).toNatClampNeg (Value.int (0 : Int32)) = (Value.int (66 : Int32))) (rfl : (own_cp ((own_hd cd).set 6 (Value.int (((vv.toInt64).toInt32).toInt8.toInt32))) 7).getD (3 : Int32).toNatClampNeg (Value.int (0 : Int32)) = (Value.int (84 : Int32))) (rfl : (own_cp ((own_hd cd).set 6 (Value.int (((vv.toInt64).toInt32).toInt8.toInt32))) 7).getD (4 : Int32).toNatClampNeg (Value.int (0 : Int32)) = (Value.int (3 : Int32))) (rfl : (own_cp ((own_hd cd).set 6 (Value.int (((vv.toInt64).toInt32).toInt8.toInt32))) 7).getD (5 : Int32).toNatClampNeg (Value.int (0 : Int32)) = (Value.int cd))) hZ15 (hw _ (List.mem_of_getElem? (i := 75) rfl)) (hw _ (List.mem_of_getElem? (i := 74) rfl)) (by decide) (by decide)) (g := (mkF m 286 #[sI p1, sI p2, sI p3, sI p4, sI sel, sR aK, sI cd, sI vv, sI (0 : Int32), sR ob3, sR ob12, sR b_18, sR b_29, sI (1 : Int32), sI (vv.toInt8.toInt32), sI (0 : Int32), sI (0 : Int32), sI (7 : Int32), .unset] [(Value.int cd), (Value.ref b_29)])) rfl (by rw [hml]; rfl) (argsL := [(Value.ref b_29), (Value.int cd)]) (rest := []) (lenOf own_pd10 rfl) rfl (by show 2 * 0 + _ ≤ _; exact Nat.le_of_eq rfl) (hb hby at_286) (fun _ _ => ⟨rfl, rfl, (by decide : 7 + 0 ≤ _), (by decide : 623 + 0 ≤ _)⟩)
        dsimp only [Pt.U, Pt.locs, Pt.cells, Pt.slots] at X33 l33 y33 z33 st33 hQ33
        subst l33 y33 z33
        refine own_Go.by st33 ?_
        obtain ⟨rfl, N33q, e33⟩ := hQ33
        have N33 := Fr.app N29 N33q
        show own_Go _ _ _ _ (T33.setTop (mkF m 289 #[sI p1, sI p2, sI p3, sI p4, sI sel, sR aK, sI cd, sI vv, sI (0 : Int32), sR ob3, sR ob12, sR b_18, sR b_29, sI (1 : Int32), sI (vv.toInt8.toInt32), sI (0 : Int32), sI (0 : Int32), sI (7 : Int32), .unset] [(Value.int (1 : Int32))]))
        refine own_Go.by (fun tq kq => XS.ifYes X33.here hx rfl (pc0 := 289) (pc' := 294) rfl (hb hby at_289) rfl ((if0 _ _).trans (feq (by decide : ¬ ((1 : Int32) = (0 : Int32)))).2) (by decide) (by decide) kq) ?_
        refine own_Go.by (fun tq kq => XS.aload X33.here hx rfl (hb hby at_294) rfl rfl kq) ?_
        refine own_Go.by (fun tq kq => XS.bipush X33.here hx rfl (hb hby at_296) kq) ?_
        show own_Go _ _ _ _ (T33.setTop (mkF m 298 #[sI p1, sI p2, sI p3, sI p4, sI sel, sR aK, sI cd, sI vv, sI (0 : Int32), sR ob3, sR ob12, sR b_18, sR b_29, sI (1 : Int32), sI (vv.toInt8.toInt32), sI (0 : Int32), sI (0 : Int32), sI (7 : Int32), .unset] [(Value.int (6 : Int32)), (Value.ref b_29)]))
        obtain ⟨cl34, Ar34, q34, S34, M34, Hh34, G34⟩ := id p29_1
        refine own_Go.by (fun tq kq => X33.baloadBytes hx (j := (6 : Int32)) (v := (Value.int (((vv.toInt64).toInt32).toInt8.toInt32))) (by rw [e33]; exact Ar34.1) (State.isArrayOf_alike hZ15.alike Ar34.2.1) Ar34.2.2 (inb_of S34 (by decide : ¬ ((6 : Int32) < (0 : Int32)) ∧ (6 : Int32) < (7 : Int32))) (Has.at Hh34 (inb_of S34 (by decide : ¬ ((6 : Int32) < (0 : Int32)) ∧ (6 : Int32) < (7 : Int32))) rfl) (g := (mkF m 298 #[sI p1, sI p2, sI p3, sI p4, sI sel, sR aK, sI cd, sI vv, sI (0 : Int32), sR ob3, sR ob12, sR b_18, sR b_29, sI (1 : Int32), sI (vv.toInt8.toInt32), sI (0 : Int32), sI (0 : Int32), sI (7 : Int32), .unset] [(Value.int (6 : Int32)), (Value.ref b_29)])) rfl rfl (hb hby at_298) _ kq) ?_
        refine own_Go.by (fun tq kq => XS.iload X33.here hx rfl (hb hby at_299) rfl kq) ?_
        show own_Go _ _ _ _ (T33.setTop (mkF m 301 #[sI p1, sI p2, sI p3, sI p4, sI sel, sR aK, sI cd, sI vv, sI (0 : Int32), sR ob3, sR ob12, sR b_18, sR b_29, sI (1 : Int32), sI (vv.toInt8.toInt32), sI (0 : Int32), sI (0 : Int32), sI (7 : Int32), .unset] [(Value.int (vv.toInt8.toInt32)), (Value.int (((vv.toInt64).toInt32).toInt8.toInt32))]))
        refine own_Go.by (fun tq kq => XS.icmpYes X33.here hx rfl (pc0 := 301) (pc' := 306) rfl (hb hby at_301) rfl (teq (own_e0 vv : (((vv.toInt64).toInt32).toInt8.toInt32) = (vv.toInt8.toInt32))).1 (by decide) (by decide) kq) ?_
        refine own_Go.by (fun tq kq => XS.iload X33.here hx rfl (hb hby at_306) rfl kq) ?_
        refine own_Go.by (fun tq kq => XS.iconst X33.here hx rfl (hb hby at_308) kq) ?_
        show own_Go _ _ _ _ (T33.setTop (mkF m 309 #[sI p1, sI p2, sI p3, sI p4, sI sel, sR aK, sI cd, sI vv, sI (0 : Int32), sR ob3, sR ob12, sR b_18, sR b_29, sI (1 : Int32), sI (vv.toInt8.toInt32), sI (0 : Int32), sI (0 : Int32), sI (7 : Int32), .unset] [(Value.int (2 : Int32)), (Value.int (1 : Int32))]))
        refine own_Go.by (fun tq kq => XS.icmpYes X33.here hx rfl (pc0 := 309) (pc' := 324) rfl (hb hby at_309) rfl (tlt (by decide : (1 : Int32) < (2 : Int32))).1 (by decide) (by decide) kq) ?_
        refine own_Go.by (fun tq kq => XS.iload X33.here hx rfl (hb hby at_324) rfl kq) ?_
        refine own_Go.by (fun tq kq => XS.iconst X33.here hx rfl (hb hby at_326) kq) ?_
        show own_Go _ _ _ _ (T33.setTop (mkF m 327 #[sI p1, sI p2, sI p3, sI p4, sI sel, sR aK, sI cd, sI vv, sI (0 : Int32), sR ob3, sR ob12, sR b_18, sR b_29, sI (1 : Int32), sI (vv.toInt8.toInt32), sI (0 : Int32), sI (0 : Int32), sI (7 : Int32), .unset] [(Value.int (3 : Int32)), (Value.int (1 : Int32))]))
        refine own_Go.by (fun tq kq => XS.icmpYes X33.here hx rfl (pc0 := 327) (pc' := 342) rfl (hb hby at_327) rfl (tlt (by decide : (1 : Int32) < (3 : Int32))).1 (by decide) (by decide) kq) ?_
        refine own_Go.by (fun tq kq => XS.iload X33.here hx rfl (hb hby at_342) rfl kq) ?_
        show own_Go _ _ _ _ (T33.setTop (mkF m 344 #[sI p1, sI p2, sI p3, sI p4, sI sel, sR aK, sI cd, sI vv, sI (0 : Int32), sR ob3, sR ob12, sR b_18, sR b_29, sI (1 : Int32), sI (vv.toInt8.toInt32), sI (0 : Int32), sI (0 : Int32), sI (7 : Int32), .unset] [(Value.int (0 : Int32))]))
        refine own_Go.by (fun tq kq => XS.ifYes X33.here hx rfl (pc0 := 344) (pc' := 398) rfl (hb hby at_344) rfl ((if0 _ _).trans (teq (by decide : (0 : Int32) = (0 : Int32))).1) (by decide) (by decide) kq) ?_
        refine own_Go.by (fun tq kq => XS.aload X33.here hx rfl (hb hby at_398) rfl rfl kq) ?_
        refine own_Go.by (fun tq kq => XS.iconst X33.here hx rfl (hb hby at_400) kq) ?_
        refine own_Go.by (fun tq kq => XS.aload X33.here hx rfl (hb hby at_401) rfl rfl kq) ?_
        show own_Go _ _ _ _ (T33.setTop (mkF m 403 #[sI p1, sI p2, sI p3, sI p4, sI sel, sR aK, sI cd, sI vv, sI (0 : Int32), sR ob3, sR ob12, sR b_18, sR b_29, sI (1 : Int32), sI (vv.toInt8.toInt32), sI (0 : Int32), sI (0 : Int32), sI (7 : Int32), .unset] [(Value.ref b_29), (Value.int (0 : Int32)), (Value.ref b_29)]))
        refine own_Go.by (fun tq kq => XS.iconst X33.here hx rfl (hb hby at_403) kq) ?_
        show own_Go _ _ _ _ (T33.setTop (mkF m 404 #[sI p1, sI p2, sI p3, sI p4, sI sel, sR aK, sI cd, sI vv, sI (0 : Int32), sR ob3, sR ob12, sR b_18, sR b_29, sI (1 : Int32), sI (vv.toInt8.toInt32), sI (0 : Int32), sI (0 : Int32), sI (7 : Int32), .unset] [(Value.int (0 : Int32)), (Value.ref b_29), (Value.int (0 : Int32)), (Value.ref b_29)]))
        obtain ⟨cl35, Ar35, q35, S35, M35, Hh35, G35⟩ := id p29_1
        refine own_Go.by (fun tq kq => X33.baloadBytes hx (j := (0 : Int32)) (v := (Value.int (69 : Int32))) (by rw [e33]; exact Ar35.1) (State.isArrayOf_alike hZ15.alike Ar35.2.1) Ar35.2.2 (inb_of S35 (by decide : ¬ ((0 : Int32) < (0 : Int32)) ∧ (0 : Int32) < (7 : Int32))) (Has.at Hh35 (inb_of S35 (by decide : ¬ ((0 : Int32) < (0 : Int32)) ∧ (0 : Int32) < (7 : Int32))) rfl) (g := (mkF m 404 #[sI p1, sI p2, sI p3, sI p4, sI sel, sR aK, sI cd, sI vv, sI (0 : Int32), sR ob3, sR ob12, sR b_18, sR b_29, sI (1 : Int32), sI (vv.toInt8.toInt32), sI (0 : Int32), sI (0 : Int32), sI (7 : Int32), .unset] [(Value.int (0 : Int32)), (Value.ref b_29), (Value.int (0 : Int32)), (Value.ref b_29)])) rfl rfl (hb hby at_404) _ kq) ?_
        refine own_Go.by (fun tq kq => XS.iconst X33.here hx rfl (hb hby at_405) kq) ?_
        refine own_Go.by (fun tq kq => XS.iadd X33.here hx rfl (hb hby at_406) rfl kq) ?_
        refine own_Go.by (fun tq kq => XS.i2b X33.here hx rfl (hb hby at_407) rfl kq) ?_
        show own_Go _ _ _ _ (T33.setTop (mkF m 408 #[sI p1, sI p2, sI p3, sI p4, sI sel, sR aK, sI cd, sI vv, sI (0 : Int32), sR ob3, sR ob12, sR b_18, sR b_29, sI (1 : Int32), sI (vv.toInt8.toInt32), sI (0 : Int32), sI (0 : Int32), sI (7 : Int32), .unset] [(Value.int ((70 : Int32).toInt8.toInt32)), (Value.int (0 : Int32)), (Value.ref b_29)]))
        obtain ⟨cl36, Ar36, q36, S36, M36, Hh36, G36⟩ := id p29_1
        obtain ⟨T37, h37, X37, e37, W37, st37⟩ := stB X33 hx hZ15 e33 Ar36 (j := (0 : Int32)) (inb_of S36 ⟨(by decide : ¬ ((0 : Int32) < (0 : Int32))), (by decide : (0 : Int32) < (7 : Int32))⟩) (g := (mkF m 408 #[sI p1, sI p2, sI p3, sI p4, sI sel, sR aK, sI cd, sI vv, sI (0 : Int32), sR ob3, sR ob12, sR b_18, sR b_29, sI (1 : Int32), sI (vv.toInt8.toInt32), sI (0 : Int32), sI (0 : Int32), sI (7 : Int32), .unset] [(Value.int ((70 : Int32).toInt8.toInt32)), (Value.int (0 : Int32)), (Value.ref b_29)])) rfl rfl (hb hby at_408)
        refine own_Go.by st37 ?_
        have N37 := Fr.snoc X37 N33 g31
        have O38 := O30.wr W37 g31
        have K38 := K30.wr W37 (Or.inr z31)
        have hk_38 := Nat.le_trans hk_30 (Keep.of_wr W37).1
        rw [show nar .byte ((70 : Int32).toInt8.toInt32) = ((70 : Int32).toInt8.toInt32) from own_b8 _] at W37
        have V37 : Arv Z h37 b_29 k2_29 .byte (7 : Int32) ((own_cp ((own_hd cd).set 6 (Value.int (((vv.toInt64).toInt32).toInt8.toInt32))) 7).set 0 (Value.int ((70 : Int32).toInt8.toInt32))) (Value.int (0 : Int32)) := Arv.set Ar36 q36 S36 M36 Hh36 G36 (own_fitB (own_b8 _)) W37 0 (rfl) (Nat.le_of_ble_eq_true rfl)
        refine own_Go.by (fun tq kq => XS.aload X37.here hx rfl (hb hby at_409) rfl rfl kq) ?_
        refine own_Go.by (fun tq kq => XS.iconst X37.here hx rfl (hb hby at_411) kq) ?_
        refine own_Go.by (fun tq kq => XS.iconst X37.here hx rfl (hb hby at_412) kq) ?_
        show own_Go _ _ _ _ (T37.setTop (mkF m 413 #[sI p1, sI p2, sI p3, sI p4, sI sel, sR aK, sI cd, sI vv, sI (0 : Int32), sR ob3, sR ob12, sR b_18, sR b_29, sI (1 : Int32), sI (vv.toInt8.toInt32), sI (0 : Int32), sI (0 : Int32), sI (7 : Int32), .unset] [(Value.int (0 : Int32)), (Value.int (1 : Int32)), (Value.ref b_18)]))
        have c39 := (((p18_1.keep K23q (ninS (Ne.symm (Nat.ne_of_lt (Nat.lt_of_lt_of_le A12.lt (Nat.le_trans K15q.1 p18_0)))) (ninS (Ne.symm (Nat.ne_of_lt (Nat.lt_of_lt_of_le p15_4.lt p18_0))) nin0))).keep K29q nin0).other W37 (Nat.ne_of_lt (Nat.lt_of_lt_of_le p18_1.lt (Nat.le_trans K23q.1 p29_0))))
        obtain ⟨cl40, Ar40, q40, S40, M40, Hh40, G40⟩ := id c39
        obtain ⟨T41, h41, X41, e41, W41, st41⟩ := stB X37 hx hZ15 e37 Ar40 (j := (1 : Int32)) (inb_of S40 ⟨(by decide : ¬ ((1 : Int32) < (0 : Int32))), (by decide : (1 : Int32) < (6 : Int32))⟩) (g := (mkF m 413 #[sI p1, sI p2, sI p3, sI p4, sI sel, sR aK, sI cd, sI vv, sI (0 : Int32), sR ob3, sR ob12, sR b_18, sR b_29, sI (1 : Int32), sI (vv.toInt8.toInt32), sI (0 : Int32), sI (0 : Int32), sI (7 : Int32), .unset] [(Value.int (0 : Int32)), (Value.int (1 : Int32)), (Value.ref b_18)])) rfl rfl (hb hby at_413)
        refine own_Go.by st41 ?_
        have N41 := Fr.snoc X41 N37 g20
        have O42 := O38.wr W41 g20
        have K42 := K38.wr W41 (Or.inr z20)
        have hk_42 := Nat.le_trans hk_38 (Keep.of_wr W41).1
        rw [show nar .byte (0 : Int32) = (0 : Int32) from (rfl : ((0 : Int32).toInt8.toInt32) = (0 : Int32))] at W41
        have V41 : Arv Z h41 b_18 k2_18 .byte (6 : Int32) ((own_cp (own_hd cd) 6).set 1 (Value.int (0 : Int32))) (Value.int (0 : Int32)) := Arv.set Ar40 q40 S40 M40 Hh40 G40 (own_fitB ((rfl : ((0 : Int32).toInt8.toInt32) = (0 : Int32)))) W41 1 (rfl) (Nat.le_of_ble_eq_true rfl)
        refine own_Go.by (fun tq kq => XS.aload X41.here hx rfl (hb hby at_414) rfl rfl kq) ?_
        show own_Go _ _ _ _ (T41.setTop (mkF m 416 #[sI p1, sI p2, sI p3, sI p4, sI sel, sR aK, sI cd, sI vv, sI (0 : Int32), sR ob3, sR ob12, sR b_18, sR b_29, sI (1 : Int32), sI (vv.toInt8.toInt32), sI (0 : Int32), sI (0 : Int32), sI (7 : Int32), .unset] [(Value.ref ob12)]))
        have c44 := (((p23_0.keep K29q).wr W37).wr W41)
        have c45 := (((p23_1.keep K29q nin0).other W37 (Or.inl (Nat.ne_of_lt (Nat.lt_of_lt_of_le A12.lt (Nat.le_trans K15q.1 (Nat.le_trans K18q.1 (Nat.le_trans K23q.1 p29_0))))))).other W41 (Or.inl (Nat.ne_of_lt (Nat.lt_of_lt_of_le A12.lt (Nat.le_trans K15q.1 p18_0)))))
        have c46 := (((p23_2.keep K29q nin0).other W37 (Or.inl (Nat.ne_of_lt (Nat.lt_of_lt_of_le A12.lt (Nat.le_trans K15q.1 (Nat.le_trans K18q.1 (Nat.le_trans K23q.1 p29_0))))))).other W41 (Or.inl (Nat.ne_of_lt (Nat.lt_of_lt_of_le A12.lt (Nat.le_trans K15q.1 p18_0)))))
        have c47 := (((p23_3.keep K29q nin0).other W37 (Nat.ne_of_lt (Nat.lt_of_lt_of_le p15_4.lt (Nat.le_trans K18q.1 (Nat.le_trans K23q.1 p29_0))))).other W41 (Nat.ne_of_lt (Nat.lt_of_lt_of_le p15_4.lt p18_0)))
        obtain ⟨cq43, kq43, q43a, q43b, q43c⟩ := isOf hZ15 e41 c44
        obtain ⟨_, _, ⟨T43, L43, k43, n43⟩, -, X43, ⟨Lc43, hQ43, l43, y43, z43⟩, st43⟩ := X41.virtualBack hx (y := (⟨"com/example/ebbtide/ebbtide/core/Encoder", "toByteArray", "()[B"⟩ : MethodName)) (z := (⟨"com/example/ebbtide/ebbtide/core/Encoder", "toByteArray", "()[B"⟩ : MethodName)) hown15 (mvT hZ15 (hw _ (List.mem_of_getElem? (i := 55) rfl))) (mvT hZ15 (hw _ (List.mem_of_getElem? (i := 56) rfl))) (notFace_of_selects (args := #[]) (mvT hZ15 (hw _ (List.mem_of_getElem? (i := 58) rfl)))) (mvT hZ15 (hw _ (List.mem_of_getElem? (i := 58) rfl))) (mvT hZ15 (hw _ (List.mem_of_getElem? (i := 57) rfl))) (by decide) (backOf (W := 0) (rm8_256_7 l Z a0 hw [] ob12 b_15 k2_15 ((own_hd cd).set 6 (Value.int (((vv.toInt64).toInt32).toInt8.toInt32))) h41 n0 O42 c44 c45 c46 c47) hZ15 (hw _ (List.mem_of_getElem? (i := 59) rfl)) (hw _ (List.mem_of_getElem? (i := 8) rfl)) (by decide) (by decide)) q43a q43c (g := (mkF m 416 #[sI p1, sI p2, sI p3, sI p4, sI sel, sR aK, sI cd, sI vv, sI (0 : Int32), sR ob3, sR ob12, sR b_18, sR b_29, sI (1 : Int32), sI (vv.toInt8.toInt32), sI (0 : Int32), sI (0 : Int32), sI (7 : Int32), .unset] [(Value.ref ob12)])) rfl (by rw [hml]; rfl) (Steps.refl _) (argsL := []) (rest := []) (lenOf own_pd9 rfl) rfl (by show 2 * 0 + _ ≤ _; exact Nat.le_of_eq rfl) (hb hby at_416) (fun _ _ => ⟨rfl, e41, (by decide : 7 + 1 ≤ _), (by decide : 623 + 7 ≤ _)⟩)
        dsimp only [Pt.U, Pt.locs, Pt.cells, Pt.slots] at X43 l43 y43 z43 st43 hQ43
        subst l43 y43 z43
        refine own_Go.by (fun tq kq => st43.trans kq) ?_
        obtain ⟨b_43, k2_43, rfl, N43q, K43q, p43_0, p43_1⟩ := hQ43
        have N43 := Fr.app N41 N43q
        have O48 := O42.keep K43q all0
        have K48 := K42.trans K43q all0
        have hk_48 := Nat.le_trans hk_42 K43q.1
        have g49 : n0 ≤ b_43 := Nat.le_trans (own_old_le O42) p43_0
        have z49 : h0.size ≤ b_43 := Nat.le_trans K42.1 p43_0
        refine own_Go.by (fun tq kq => XS.astore X43.here hx rfl (hb hby at_419) rfl rfl (l' := #[sI p1, sI p2, sI p3, sI p4, sI sel, sR aK, sI cd, sI vv, sI (0 : Int32), sR ob3, sR ob12, sR b_18, sR b_29, sI (1 : Int32), sI (vv.toInt8.toInt32), sI (0 : Int32), sI (0 : Int32), sI (7 : Int32), sR b_43]) rfl kq) ?_
        refine own_Go.by (fun tq kq => XS.aload X43.here hx rfl (hb hby at_421) rfl rfl kq) ?_
        show own_Go _ _ _ _ (T43.setTop (mkF m 423 #[sI p1, sI p2, sI p3, sI p4, sI sel, sR aK, sI cd, sI vv, sI (0 : Int32), sR ob3, sR ob12, sR b_18, sR b_29, sI (1 : Int32), sI (vv.toInt8.toInt32), sI (0 : Int32), sI (0 : Int32), sI (7 : Int32), sR b_43] [(Value.ref b_43)]))
        obtain ⟨cl50, Ar50, q50, S50, M50, Hh50, G50⟩ := id p43_1
        refine own_Go.by (fun tq kq => X43.arraylength hx Ar50.1 (State.isArrayOf_alike hZ15.alike Ar50.2.1) (g := (mkF m 423 #[sI p1, sI p2, sI p3, sI p4, sI sel, sR aK, sI cd, sI vv, sI (0 : Int32), sR ob3, sR ob12, sR b_18, sR b_29, sI (1 : Int32), sI (vv.toInt8.toInt32), sI (0 : Int32), sI (0 : Int32), sI (7 : Int32), sR b_43] [(Value.ref b_43)])) rfl rfl (hb hby at_423) _ kq) ?_
        rw [len_of S50 M50]
        refine own_Go.by (fun tq kq => XS.iload X43.here hx rfl (hb hby at_424) rfl kq) ?_
        show own_Go _ _ _ _ (T43.setTop (mkF m 426 #[sI p1, sI p2, sI p3, sI p4, sI sel, sR aK, sI cd, sI vv, sI (0 : Int32), sR ob3, sR ob12, sR b_18, sR b_29, sI (1 : Int32), sI (vv.toInt8.toInt32), sI (0 : Int32), sI (0 : Int32), sI (7 : Int32), sR b_43] [(Value.int (7 : Int32)), (Value.int (7 : Int32))]))
        refine own_Go.by (fun tq kq => XS.icmpNo X43.here hx rfl (hb hby at_426) rfl (teq (by decide : (7 : Int32) = (7 : Int32))).2 kq) ?_
        refine own_Go.by (fun tq kq => XS.aload X43.here hx rfl (hb hby at_429) rfl rfl kq) ?_
        refine own_Go.by (fun tq kq => XS.iload X43.here hx rfl (hb hby at_431) rfl kq) ?_
        show own_Go _ _ _ _ (T43.setTop (mkF m 433 #[sI p1, sI p2, sI p3, sI p4, sI sel, sR aK, sI cd, sI vv, sI (0 : Int32), sR ob3, sR ob12, sR b_18, sR b_29, sI (1 : Int32), sI (vv.toInt8.toInt32), sI (0 : Int32), sI (0 : Int32), sI (7 : Int32), sR b_43] [(Value.int cd), (Value.ref b_43)]))
        obtain ⟨_, _, ⟨T51, L51, k51, n51⟩, -, X51, ⟨Lc51, hQ51, l51, y51, z51⟩, st51⟩ := Jvm.LawKit.callS X43 hx (y := (⟨"com/example/ebbtide/ebbtide/core/EncoderToByteArrayPinLaw", "header", "([BI)Z"⟩ : MethodName)) hown15 (mvT hZ15 (hw _ (List.mem_of_getElem? (i := 72) rfl))) (mvT hZ15 (hw _ (List.mem_of_getElem? (i := 73) rfl))) (mvT hZ15 (hw _ (List.mem_of_getElem? (i := 74) rfl))) (mvT hZ15 (hw _ (List.mem_of_getElem? (i := 75) rfl))) (by decide) (backOf (W := 0) (rm11 l Z a0 hw [] b_43 k2_43 (7 : Int32) (own_cp ((own_hd cd).set 6 (Value.int (((vv.toInt64).toInt32).toInt8.toInt32))) 7) cd T43.heap n0 O48 p43_1 (by decide : ¬ ((7 : Int32) < (6 : Int32))) (by decide : ¬ ((0 : Int32) < (0 : Int32)) ∧ (0 : Int32) < (7 : Int32)) (by decide : ¬ ((1 : Int32) < (0 : Int32)) ∧ (1 : Int32) < (7 : Int32)) (by decide : ¬ ((2 : Int32) < (0 : Int32)) ∧ (2 : Int32) < (7 : Int32)) (by decide : ¬ ((3 : Int32) < (0 : Int32)) ∧ (3 : Int32) < (7 : Int32)) (by decide : ¬ ((4 : Int32) < (0 : Int32)) ∧ (4 : Int32) < (7 : Int32)) (by decide : ¬ ((5 : Int32) < (0 : Int32)) ∧ (5 : Int32) < (7 : Int32)) (rfl : (own_cp ((own_hd cd).set 6 (Value.int (((vv.toInt64).toInt32).toInt8.toInt32))) 7).getD (0 : Int32).toNatClampNeg (Value.int (0 : Int32)) = (Value.int (69 : Int32))) (rfl : (own_cp ((own_hd cd).set 6 (Value.int (((vv.toInt64).toInt32).toInt8.toInt32))) 7).getD (1 : Int32).toNatClampNeg (Value.int (0 : Int32)) = (Value.int (66 : Int32))) (rfl : (own_cp ((own_hd cd).set 6 (Value.int (((vv.toInt64).toInt32).toInt8.toInt32))) 7).getD (2 : Int32).toNatClampNeg (Value.int (0 : Int32)) = (Value.int (66 : Int32))) (rfl : (own_cp ((own_hd cd).set 6 (Value.int (((vv.toInt64).toInt32).toInt8.toInt32))) 7).getD (3 : Int32).toNatClampNeg (Value.int (0 : Int32)) = (Value.int (84 : Int32))) (rfl : (own_cp ((own_hd cd).set 6 (Value.int (((vv.toInt64).toInt32).toInt8.toInt32))) 7).getD (4 : Int32).toNatClampNeg (Value.int (0 : Int32)) = (Value.int (3 : Int32))) (rfl : (own_cp ((own_hd cd).set 6 (Value.int (((vv.toInt64).toInt32).toInt8.toInt32))) 7).getD (5 : Int32).toNatClampNeg (Value.int (0 : Int32)) = (Value.int cd))) hZ15 (hw _ (List.mem_of_getElem? (i := 75) rfl)) (hw _ (List.mem_of_getElem? (i := 74) rfl)) (by decide) (by decide)) (g := (mkF m 433 #[sI p1, sI p2, sI p3, sI p4, sI sel, sR aK, sI cd, sI vv, sI (0 : Int32), sR ob3, sR ob12, sR b_18, sR b_29, sI (1 : Int32), sI (vv.toInt8.toInt32), sI (0 : Int32), sI (0 : Int32), sI (7 : Int32), sR b_43] [(Value.int cd), (Value.ref b_43)])) rfl (by rw [hml]; rfl) (argsL := [(Value.ref b_43), (Value.int cd)]) (rest := []) (lenOf own_pd10 rfl) rfl (by show 2 * 0 + _ ≤ _; exact Nat.le_of_eq rfl) (hb hby at_433) (fun _ _ => ⟨rfl, rfl, (by decide : 8 + 0 ≤ _), (by decide : 630 + 0 ≤ _)⟩)
        dsimp only [Pt.U, Pt.locs, Pt.cells, Pt.slots] at X51 l51 y51 z51 st51 hQ51
        subst l51 y51 z51
        refine own_Go.by st51 ?_
        obtain ⟨rfl, N51q, e51⟩ := hQ51
        have N51 := Fr.app N43 N51q
        show own_Go _ _ _ _ (T51.setTop (mkF m 436 #[sI p1, sI p2, sI p3, sI p4, sI sel, sR aK, sI cd, sI vv, sI (0 : Int32), sR ob3, sR ob12, sR b_18, sR b_29, sI (1 : Int32), sI (vv.toInt8.toInt32), sI (0 : Int32), sI (0 : Int32), sI (7 : Int32), sR b_43] [(Value.int (1 : Int32))]))
        refine own_Go.by (fun tq kq => XS.ifNo X51.here hx rfl (hb hby at_436) rfl ((if0 _ _).trans (feq (by decide : ¬ ((1 : Int32) = (0 : Int32)))).1) kq) ?_
        refine own_Go.by (fun tq kq => XS.aload X51.here hx rfl (hb hby at_439) rfl rfl kq) ?_
        refine own_Go.by (fun tq kq => XS.bipush X51.here hx rfl (hb hby at_441) kq) ?_
        show own_Go _ _ _ _ (T51.setTop (mkF m 443 #[sI p1, sI p2, sI p3, sI p4, sI sel, sR aK, sI cd, sI vv, sI (0 : Int32), sR ob3, sR ob12, sR b_18, sR b_29, sI (1 : Int32), sI (vv.toInt8.toInt32), sI (0 : Int32), sI (0 : Int32), sI (7 : Int32), sR b_43] [(Value.int (6 : Int32)), (Value.ref b_43)]))
        obtain ⟨cl52, Ar52, q52, S52, M52, Hh52, G52⟩ := id p43_1
        refine own_Go.by (fun tq kq => X51.baloadBytes hx (j := (6 : Int32)) (v := (Value.int (((vv.toInt64).toInt32).toInt8.toInt32))) (by rw [e51]; exact Ar52.1) (State.isArrayOf_alike hZ15.alike Ar52.2.1) Ar52.2.2 (inb_of S52 (by decide : ¬ ((6 : Int32) < (0 : Int32)) ∧ (6 : Int32) < (7 : Int32))) (Has.at Hh52 (inb_of S52 (by decide : ¬ ((6 : Int32) < (0 : Int32)) ∧ (6 : Int32) < (7 : Int32))) rfl) (g := (mkF m 443 #[sI p1, sI p2, sI p3, sI p4, sI sel, sR aK, sI cd, sI vv, sI (0 : Int32), sR ob3, sR ob12, sR b_18, sR b_29, sI (1 : Int32), sI (vv.toInt8.toInt32), sI (0 : Int32), sI (0 : Int32), sI (7 : Int32), sR b_43] [(Value.int (6 : Int32)), (Value.ref b_43)])) rfl rfl (hb hby at_443) _ kq) ?_
        refine own_Go.by (fun tq kq => XS.iload X51.here hx rfl (hb hby at_444) rfl kq) ?_
        show own_Go _ _ _ _ (T51.setTop (mkF m 446 #[sI p1, sI p2, sI p3, sI p4, sI sel, sR aK, sI cd, sI vv, sI (0 : Int32), sR ob3, sR ob12, sR b_18, sR b_29, sI (1 : Int32), sI (vv.toInt8.toInt32), sI (0 : Int32), sI (0 : Int32), sI (7 : Int32), sR b_43] [(Value.int (vv.toInt8.toInt32)), (Value.int (((vv.toInt64).toInt32).toInt8.toInt32))]))
        refine own_Go.by (fun tq kq => XS.icmpNo X51.here hx rfl (hb hby at_446) rfl (teq (own_e0 vv : (((vv.toInt64).toInt32).toInt8.toInt32) = (vv.toInt8.toInt32))).2 kq) ?_
        refine own_Go.by (fun tq kq => XS.aload X51.here hx rfl (hb hby at_449) rfl rfl kq) ?_
        show own_Go _ _ _ _ (T51.setTop (mkF m 451 #[sI p1, sI p2, sI p3, sI p4, sI sel, sR aK, sI cd, sI vv, sI (0 : Int32), sR ob3, sR ob12, sR b_18, sR b_29, sI (1 : Int32), sI (vv.toInt8.toInt32), sI (0 : Int32), sI (0 : Int32), sI (7 : Int32), sR b_43] [(Value.ref b_18)]))
        have c53 := (V41.keep K43q nin0)
        obtain ⟨cl54, Ar54, q54, S54, M54, Hh54, G54⟩ := id c53
        refine own_Go.by (fun tq kq => X51.arraylength hx (by rw [e51]; exact Ar54.1) (State.isArrayOf_alike hZ15.alike Ar54.2.1) (g := (mkF m 451 #[sI p1, sI p2, sI p3, sI p4, sI sel, sR aK, sI cd, sI vv, sI (0 : Int32), sR ob3, sR ob12, sR b_18, sR b_29, sI (1 : Int32), sI (vv.toInt8.toInt32), sI (0 : Int32), sI (0 : Int32), sI (7 : Int32), sR b_43] [(Value.ref b_18)])) rfl rfl (hb hby at_451) _ kq) ?_
        rw [len_of S54 M54]
        refine own_Go.by (fun tq kq => XS.bipush X51.here hx rfl (hb hby at_452) kq) ?_
        show own_Go _ _ _ _ (T51.setTop (mkF m 454 #[sI p1, sI p2, sI p3, sI p4, sI sel, sR aK, sI cd, sI vv, sI (0 : Int32), sR ob3, sR ob12, sR b_18, sR b_29, sI (1 : Int32), sI (vv.toInt8.toInt32), sI (0 : Int32), sI (0 : Int32), sI (7 : Int32), sR b_43] [(Value.int (6 : Int32)), (Value.int (6 : Int32))]))
        refine own_Go.by (fun tq kq => XS.icmpNo X51.here hx rfl (hb hby at_454) rfl (teq (by decide : (6 : Int32) = (6 : Int32))).2 kq) ?_
        refine own_Go.by (fun tq kq => XS.iconst X51.here hx rfl (hb hby at_457) kq) ?_
        refine own_Go.by (fun tq kq => XS.goto X51.here hx rfl (pc0 := 458) (pc' := 462) rfl (hb hby at_458) (by decide) (by decide) kq) ?_
        show own_Go _ _ _ _ (T51.setTop (mkF m 462 #[sI p1, sI p2, sI p3, sI p4, sI sel, sR aK, sI cd, sI vv, sI (0 : Int32), sR ob3, sR ob12, sR b_18, sR b_29, sI (1 : Int32), sI (vv.toInt8.toInt32), sI (0 : Int32), sI (0 : Int32), sI (7 : Int32), sR b_43] [(Value.int (1 : Int32))]))
        obtain ⟨fs, hr, hrun, hended, hRE⟩ := Stand.leaveW (s := s) (vm₁ := T15.vm) X51 hS15 (by rw [e51]; exact hk_48) (v := some (Value.int (nar .boolean (1 : Int32)))) (fun h => by rw [Bd.returns] at h; cases h)
        refine own_Go.fin (retN X51 hx (t := .boolean) Bd.returns (by simp) (hb hby at_462) hr) ⟨hrun, hended, _, _, rfl, ?_, own_rew hRE (by decide) (by decide)⟩
        show Q0 Z p1 p2 p3 p4 aW aD aF aM kM h0 n0 _ T51.heap _
        rw [e51]
        exact ⟨rfl, N51, K48⟩
      ·
        have hs1' := hs1
        rw [Int32.lt_iff_toInt_lt] at hs1'
        by_cases hs2 : vv < (16384 : Int32)
        ·
          have hs2' := hs2
          rw [Int32.lt_iff_toInt_lt] at hs2'
          refine own_Go.by (fun tq kq => XS.aload X22.here hx rfl (hb hby at_130) rfl rfl kq) ?_
          refine own_Go.by (fun tq kq => XS.iload X22.here hx rfl (hb hby at_132) rfl kq) ?_
          refine own_Go.by (fun tq kq => XS.i2l X22.here hx rfl (hb hby at_134) rfl kq) ?_
          show own_Go _ _ _ _ (T22.setTop (mkF m 135 #[sI p1, sI p2, sI p3, sI p4, sI sel, sR aK, sI cd, sI vv, sI (0 : Int32), sR ob3, sR ob12, sR b_18, .unset, .unset, .unset, .unset, .unset, .unset, .unset] [(Value.long (vv.toInt64)), (Value.ref ob12)]))
          have c56 := (p15_1.keep K18q)
          have c57 := (p15_2.keep K18q nin0)
          have c58 := (p15_3.keep K18q nin0)
          have c59 := (p15_4.keep K18q nin0)
          obtain ⟨cq55, kq55, q55a, q55b, q55c⟩ := isOf hZ15 e22 c56
          obtain ⟨_, _, ⟨T55, L55, k55, n55⟩, -, X55, ⟨Lc55, hQ55, l55, y55, z55⟩, st55⟩ := X22.virtualBack hx (y := (⟨"com/example/ebbtide/ebbtide/core/Encoder", "unsigned", "(J)V"⟩ : MethodName)) (z := (⟨"com/example/ebbtide/ebbtide/core/Encoder", "unsigned", "(J)V"⟩ : MethodName)) hown15 (mvT hZ15 (hw _ (List.mem_of_getElem? (i := 76) rfl))) (mvT hZ15 (hw _ (List.mem_of_getElem? (i := 43) rfl))) (notFace_of_selects (args := #[]) (mvT hZ15 (hw _ (List.mem_of_getElem? (i := 45) rfl)))) (mvT hZ15 (hw _ (List.mem_of_getElem? (i := 45) rfl))) (mvT hZ15 (hw _ (List.mem_of_getElem? (i := 44) rfl))) (by decide) (backOf (W := 0) (rm6_2 l Z a0 hw [] ob12 b_15 k2_15 (own_hd cd) (vv.toInt64) T18.heap n0 O19 c56 c57 c58 c59 g14 g17 (Nat.ne_of_lt (Nat.lt_of_lt_of_le A12.lt p15_0)) (rfl : (own_hd cd).length = 256) (mt (own_m128 (by omega)).mp (by omega) : ¬ (((vv.toInt64) &&& (-128 : Int64)) = (0 : Int64))) ((own_m128 (by omega)).mpr (by omega) : ((((vv.toInt64).toUInt64 >>> ((7 : Int32) &&& 0x3f).toInt64.toUInt64).toInt64) &&& (-128 : Int64)) = (0 : Int64))) hZ15 (hw _ (List.mem_of_getElem? (i := 46) rfl)) (hw _ (List.mem_of_getElem? (i := 8) rfl)) (by decide) (by decide)) q55a q55c (g := (mkF m 135 #[sI p1, sI p2, sI p3, sI p4, sI sel, sR aK, sI cd, sI vv, sI (0 : Int32), sR ob3, sR ob12, sR b_18, .unset, .unset, .unset, .unset, .unset, .unset, .unset] [(Value.long (vv.toInt64)), (Value.ref ob12)])) rfl (by rw [hml]; rfl) (Steps.refl _) (argsL := [(Value.long (vv.toInt64))]) (rest := []) (lenOf own_pd5 rfl) rfl (by show 2 * 0 + _ ≤ _; exact Nat.le_of_eq rfl) (hb hby at_135) (fun _ _ => ⟨rfl, e22, (by decide : 6 + 0 ≤ _), (by decide : 616 + 0 ≤ _)⟩)
          dsimp only [Pt.U, Pt.locs, Pt.cells, Pt.slots] at X55 l55 y55 z55 st55 hQ55
          subst l55 y55 z55
          refine own_Go.by (fun tq kq => st55.trans kq) ?_
          obtain ⟨rfl, N55q, K55q, p55_0, p55_1, p55_2, p55_3⟩ := hQ55
          have N55 := Fr.app N22 N55q
          have O60 := O19.keep K55q (allS g14 (allS g17 all0))
          have K60 := K19.trans K55q (allS (Or.inr z14) (allS (Or.inr z17) all0))
          have hk_60 := Nat.le_trans hk_19 K55q.1
          refine own_Go.by (fun tq kq => XS.iload X55.here hx rfl (hb hby at_138) rfl kq) ?_
          show own_Go _ _ _ _ (T55.setTop (mkF m 140 #[sI p1, sI p2, sI p3, sI p4, sI sel, sR aK, sI cd, sI vv, sI (0 : Int32), sR ob3, sR ob12, sR b_18, .unset, .unset, .unset, .unset, .unset, .unset, .unset] [(Value.int (0 : Int32))]))
          refine own_Go.by (fun tq kq => XS.ifYes X55.here hx rfl (pc0 := 140) (pc' := 150) rfl (hb hby at_140) rfl ((if0 _ _).trans (teq (by decide : (0 : Int32) = (0 : Int32))).1) (by decide) (by decide) kq) ?_
          refine own_Go.by (fun tq kq => XS.aload X55.here hx rfl (hb hby at_150) rfl rfl kq) ?_
          show own_Go _ _ _ _ (T55.setTop (mkF m 152 #[sI p1, sI p2, sI p3, sI p4, sI sel, sR aK, sI cd, sI vv, sI (0 : Int32), sR ob3, sR ob12, sR b_18, .unset, .unset, .unset, .unset, .unset, .unset, .unset] [(Value.ref ob12)]))
          obtain ⟨cq61, kq61, q61a, q61b, q61c⟩ := isOf hZ15 rfl p55_0
          obtain ⟨_, _, ⟨T61, L61, k61, n61⟩, -, X61, ⟨Lc61, hQ61, l61, y61, z61⟩, st61⟩ := X55.virtualBack hx (y := (⟨"com/example/ebbtide/ebbtide/core/Encoder", "toByteArray", "()[B"⟩ : MethodName)) (z := (⟨"com/example/ebbtide/ebbtide/core/Encoder", "toByteArray", "()[B"⟩ : MethodName)) hown15 (mvT hZ15 (hw _ (List.mem_of_getElem? (i := 55) rfl))) (mvT hZ15 (hw _ (List.mem_of_getElem? (i := 56) rfl))) (notFace_of_selects (args := #[]) (mvT hZ15 (hw _ (List.mem_of_getElem? (i := 58) rfl)))) (mvT hZ15 (hw _ (List.mem_of_getElem? (i := 58) rfl))) (mvT hZ15 (hw _ (List.mem_of_getElem? (i := 57) rfl))) (by decide) (backOf (W := 0) (rm8_256_8 l Z a0 hw [] ob12 b_15 k2_15 (((own_hd cd).set 6 (Value.int (((((vv.toInt64) &&& (127 : Int64)) ||| (128 : Int64)).toInt32).toInt8.toInt32))).set 7 (Value.int (((((vv.toInt64).toUInt64 >>> ((7 : Int32) &&& 0x3f).toInt64.toUInt64).toInt64).toInt32).toInt8.toInt32))) T55.heap n0 O60 p55_0 p55_1 p55_2 p55_3) hZ15 (hw _ (List.mem_of_getElem? (i := 59) rfl)) (hw _ (List.mem_of_getElem? (i := 8) rfl)) (by decide) (by decide)) q61a q61c (g := (mkF m 152 #[sI p1, sI p2, sI p3, sI p4, sI sel, sR aK, sI cd, sI vv, sI (0 : Int32), sR ob3, sR ob12, sR b_18, .unset, .unset, .unset, .unset, .unset, .unset, .unset] [(Value.ref ob12)])) rfl (by rw [hml]; rfl) (Steps.refl _) (argsL := []) (rest := []) (lenOf own_pd9 rfl) rfl (by show 2 * 0 + _ ≤ _; exact Nat.le_of_eq rfl) (hb hby at_152) (fun _ _ => ⟨rfl, rfl, (by decide : 6 + 1 ≤ _), (by decide : 616 + 8 ≤ _)⟩)
          dsimp only [Pt.U, Pt.locs, Pt.cells, Pt.slots] at X61 l61 y61 z61 st61 hQ61
          subst l61 y61 z61
          refine own_Go.by (fun tq kq => st61.trans kq) ?_
          obtain ⟨b_61, k2_61, rfl, N61q, K61q, p61_0, p61_1⟩ := hQ61
          have N61 := Fr.app N55 N61q
          have O62 := O60.keep K61q all0
          have K62 := K60.trans K61q all0
          have hk_62 := Nat.le_trans hk_60 K61q.1
          have g63 : n0 ≤ b_61 := Nat.le_trans (own_old_le O60) p61_0
          have z63 : h0.size ≤ b_61 := Nat.le_trans K60.1 p61_0
          refine own_Go.by (fun tq kq => XS.astore X61.here hx rfl (hb hby at_155) rfl rfl (l' := #[sI p1, sI p2, sI p3, sI p4, sI sel, sR aK, sI cd, sI vv, sI (0 : Int32), sR ob3, sR ob12, sR b_18, sR b_61, .unset, .unset, .unset, .unset, .unset, .unset]) rfl kq) ?_
          refine own_Go.by (fun tq kq => XS.iconst X61.here hx rfl (hb hby at_157) kq) ?_
          refine own_Go.by (fun tq kq => XS.istore X61.here hx rfl (hb hby at_158) rfl (l' := #[sI p1, sI p2, sI p3, sI p4, sI sel, sR aK, sI cd, sI vv, sI (0 : Int32), sR ob3, sR ob12, sR b_18, sR b_61, .unset, .unset, sI (0 : Int32), .unset, .unset, .unset]) rfl kq) ?_
          show own_Go _ _ _ _ (T61.setTop (mkF m 160 #[sI p1, sI p2, sI p3, sI p4, sI sel, sR aK, sI cd, sI vv, sI (0 : Int32), sR ob3, sR ob12, sR b_18, sR b_61, .unset, .unset, sI (0 : Int32), .unset, .unset, .unset] []))
          refine own_Go.by (fun tq kq => XS.iconst X61.here hx rfl (hb hby at_160) kq) ?_
          refine own_Go.by (fun tq kq => XS.istore X61.here hx rfl (hb hby at_161) rfl (l' := #[sI p1, sI p2, sI p3, sI p4, sI sel, sR aK, sI cd, sI vv, sI (0 : Int32), sR ob3, sR ob12, sR b_18, sR b_61, .unset, .unset, sI (0 : Int32), sI (0 : Int32), .unset, .unset]) rfl kq) ?_
          refine own_Go.by (fun tq kq => XS.iload X61.here hx rfl (hb hby at_163) rfl kq) ?_
          refine own_Go.by (fun tq kq => XS.sipush X61.here hx rfl (hb hby at_165) kq) ?_
          show own_Go _ _ _ _ (T61.setTop (mkF m 168 #[sI p1, sI p2, sI p3, sI p4, sI sel, sR aK, sI cd, sI vv, sI (0 : Int32), sR ob3, sR ob12, sR b_18, sR b_61, .unset, .unset, sI (0 : Int32), sI (0 : Int32), .unset, .unset] [(Value.int (128 : Int32)), (Value.int vv)]))
          refine own_Go.by (fun tq kq => XS.icmpYes X61.here hx rfl (pc0 := 168) (pc' := 182) rfl (hb hby at_168) rfl (flt hs1).2.1 (by decide) (by decide) kq) ?_
          refine own_Go.by (fun tq kq => XS.iload X61.here hx rfl (hb hby at_182) rfl kq) ?_
          refine own_Go.by (fun tq kq => XS.sipush X61.here hx rfl (hb hby at_184) kq) ?_
          show own_Go _ _ _ _ (T61.setTop (mkF m 187 #[sI p1, sI p2, sI p3, sI p4, sI sel, sR aK, sI cd, sI vv, sI (0 : Int32), sR ob3, sR ob12, sR b_18, sR b_61, .unset, .unset, sI (0 : Int32), sI (0 : Int32), .unset, .unset] [(Value.int (16384 : Int32)), (Value.int vv)]))
          refine own_Go.by (fun tq kq => XS.icmpNo X61.here hx rfl (hb hby at_187) rfl (tlt hs2).2.1 kq) ?_
          refine own_Go.by (fun tq kq => XS.iconst X61.here hx rfl (hb hby at_190) kq) ?_
          refine own_Go.by (fun tq kq => XS.istore X61.here hx rfl (hb hby at_191) rfl (l' := #[sI p1, sI p2, sI p3, sI p4, sI sel, sR aK, sI cd, sI vv, sI (0 : Int32), sR ob3, sR ob12, sR b_18, sR b_61, sI (2 : Int32), .unset, sI (0 : Int32), sI (0 : Int32), .unset, .unset]) rfl kq) ?_
          refine own_Go.by (fun tq kq => XS.iload X61.here hx rfl (hb hby at_193) rfl kq) ?_
          show own_Go _ _ _ _ (T61.setTop (mkF m 195 #[sI p1, sI p2, sI p3, sI p4, sI sel, sR aK, sI cd, sI vv, sI (0 : Int32), sR ob3, sR ob12, sR b_18, sR b_61, sI (2 : Int32), .unset, sI (0 : Int32), sI (0 : Int32), .unset, .unset] [(Value.int vv)]))
          refine own_Go.by (fun tq kq => XS.bipush X61.here hx rfl (hb hby at_195) kq) ?_
          refine own_Go.by (fun tq kq => XS.iand X61.here hx rfl (hb hby at_197) rfl kq) ?_
          refine own_Go.by (fun tq kq => XS.sipush X61.here hx rfl (hb hby at_198) kq) ?_
          refine own_Go.by (fun tq kq => XS.ior X61.here hx rfl (hb hby at_201) rfl kq) ?_
          show own_Go _ _ _ _ (T61.setTop (mkF m 202 #[sI p1, sI p2, sI p3, sI p4, sI sel, sR aK, sI cd, sI vv, sI (0 : Int32), sR ob3, sR ob12, sR b_18, sR b_61, sI (2 : Int32), .unset, sI (0 : Int32), sI (0 : Int32), .unset, .unset] [(Value.int ((vv &&& (127 : Int32)) ||| (128 : Int32)))]))
          refine own_Go.by (fun tq kq => XS.i2b X61.here hx rfl (hb hby at_202) rfl kq) ?_
          refine own_Go.by (fun tq kq => XS.istore X61.here hx rfl (hb hby at_203) rfl (l' := #[sI p1, sI p2, sI p3, sI p4, sI sel, sR aK, sI cd, sI vv, sI (0 : Int32), sR ob3, sR ob12, sR b_18, sR b_61, sI (2 : Int32), .val (Value.int (((vv &&& (127 : Int32)) ||| (128 : Int32)).toInt8.toInt32)), sI (0 : Int32), sI (0 : Int32), .unset, .unset]) rfl kq) ?_
          refine own_Go.by (fun tq kq => XS.iload X61.here hx rfl (hb hby at_205) rfl kq) ?_
          refine own_Go.by (fun tq kq => XS.bipush X61.here hx rfl (hb hby at_207) kq) ?_
          show own_Go _ _ _ _ (T61.setTop (mkF m 209 #[sI p1, sI p2, sI p3, sI p4, sI sel, sR aK, sI cd, sI vv, sI (0 : Int32), sR ob3, sR ob12, sR b_18, sR b_61, sI (2 : Int32), .val (Value.int (((vv &&& (127 : Int32)) ||| (128 : Int32)).toInt8.toInt32)), sI (0 : Int32), sI (0 : Int32), .unset, .unset] [(Value.int (7 : Int32)), (Value.int vv)]))
          refine own_Go.by (fun tq kq => XS.iushr X61.here hx rfl (hb hby at_209) rfl kq) ?_
          refine own_Go.by (fun tq kq => XS.i2b X61.here hx rfl (hb hby at_210) rfl kq) ?_
          refine own_Go.by (fun tq kq => XS.istore X61.here hx rfl (hb hby at_211) rfl (l' := #[sI p1, sI p2, sI p3, sI p4, sI sel, sR aK, sI cd, sI vv, sI (0 : Int32), sR ob3, sR ob12, sR b_18, sR b_61, sI (2 : Int32), .val (Value.int (((vv &&& (127 : Int32)) ||| (128 : Int32)).toInt8.toInt32)), .val (Value.int (((vv.toUInt32 >>> ((7 : Int32) &&& 31).toUInt32).toInt32).toInt8.toInt32)), sI (0 : Int32), .unset, .unset]) rfl kq) ?_
          refine own_Go.by (fun tq kq => XS.goto X61.here hx rfl (pc0 := 213) (pc' := 254) rfl (hb hby at_213) (by decide) (by decide) kq) ?_
          show own_Go _ _ _ _ (T61.setTop (mkF m 254 #[sI p1, sI p2, sI p3, sI p4, sI sel, sR aK, sI cd, sI vv, sI (0 : Int32), sR ob3, sR ob12, sR b_18, sR b_61, sI (2 : Int32), .val (Value.int (((vv &&& (127 : Int32)) ||| (128 : Int32)).toInt8.toInt32)), .val (Value.int (((vv.toUInt32 >>> ((7 : Int32) &&& 31).toUInt32).toInt32).toInt8.toInt32)), sI (0 : Int32), .unset, .unset] []))
          refine own_Go.by (fun tq kq => XS.bipush X61.here hx rfl (hb hby at_254) kq) ?_
          refine own_Go.by (fun tq kq => XS.iload X61.here hx rfl (hb hby at_256) rfl kq) ?_
          refine own_Go.by (fun tq kq => XS.iadd X61.here hx rfl (hb hby at_258) rfl kq) ?_
          refine own_Go.by (fun tq kq => XS.iload X61.here hx rfl (hb hby at_259) rfl kq) ?_
          show own_Go _ _ _ _ (T61.setTop (mkF m 261 #[sI p1, sI p2, sI p3, sI p4, sI sel, sR aK, sI cd, sI vv, sI (0 : Int32), sR ob3, sR ob12, sR b_18, sR b_61, sI (2 : Int32), .val (Value.int (((vv &&& (127 : Int32)) ||| (128 : Int32)).toInt8.toInt32)), .val (Value.int (((vv.toUInt32 >>> ((7 : Int32) &&& 31).toUInt32).toInt32).toInt8.toInt32)), sI (0 : Int32), .unset, .unset] [(Value.int (0 : Int32)), (Value.int (8 : Int32))]))
          refine own_Go.by (fun tq kq => XS.ifYes X61.here hx rfl (pc0 := 261) (pc' := 270) rfl (hb hby at_261) rfl ((if0 _ _).trans (teq (by decide : (0 : Int32) = (0 : Int32))).1) (by decide) (by decide) kq) ?_
          refine own_Go.by (fun tq kq => XS.iconst X61.here hx rfl (hb hby at_270) kq) ?_
          refine own_Go.by (fun tq kq => XS.iadd X61.here hx rfl (hb hby at_271) rfl kq) ?_
          refine own_Go.by (fun tq kq => XS.istore X61.here hx rfl (hb hby at_272) rfl (l' := #[sI p1, sI p2, sI p3, sI p4, sI sel, sR aK, sI cd, sI vv, sI (0 : Int32), sR ob3, sR ob12, sR b_18, sR b_61, sI (2 : Int32), .val (Value.int (((vv &&& (127 : Int32)) ||| (128 : Int32)).toInt8.toInt32)), .val (Value.int (((vv.toUInt32 >>> ((7 : Int32) &&& 31).toUInt32).toInt32).toInt8.toInt32)), sI (0 : Int32), sI (8 : Int32), .unset]) rfl kq) ?_
          show own_Go _ _ _ _ (T61.setTop (mkF m 274 #[sI p1, sI p2, sI p3, sI p4, sI sel, sR aK, sI cd, sI vv, sI (0 : Int32), sR ob3, sR ob12, sR b_18, sR b_61, sI (2 : Int32), .val (Value.int (((vv &&& (127 : Int32)) ||| (128 : Int32)).toInt8.toInt32)), .val (Value.int (((vv.toUInt32 >>> ((7 : Int32) &&& 31).toUInt32).toInt32).toInt8.toInt32)), sI (0 : Int32), sI (8 : Int32), .unset] []))
          refine own_Go.by (fun tq kq => XS.aload X61.here hx rfl (hb hby at_274) rfl rfl kq) ?_
          show own_Go _ _ _ _ (T61.setTop (mkF m 276 #[sI p1, sI p2, sI p3, sI p4, sI sel, sR aK, sI cd, sI vv, sI (0 : Int32), sR ob3, sR ob12, sR b_18, sR b_61, sI (2 : Int32), .val (Value.int (((vv &&& (127 : Int32)) ||| (128 : Int32)).toInt8.toInt32)), .val (Value.int (((vv.toUInt32 >>> ((7 : Int32) &&& 31).toUInt32).toInt32).toInt8.toInt32)), sI (0 : Int32), sI (8 : Int32), .unset] [(Value.ref b_61)]))
          obtain ⟨cl64, Ar64, q64, S64, M64, Hh64, G64⟩ := id p61_1
          refine own_Go.by (fun tq kq => X61.arraylength hx Ar64.1 (State.isArrayOf_alike hZ15.alike Ar64.2.1) (g := (mkF m 276 #[sI p1, sI p2, sI p3, sI p4, sI sel, sR aK, sI cd, sI vv, sI (0 : Int32), sR ob3, sR ob12, sR b_18, sR b_61, sI (2 : Int32), .val (Value.int (((vv &&& (127 : Int32)) ||| (128 : Int32)).toInt8.toInt32)), .val (Value.int (((vv.toUInt32 >>> ((7 : Int32) &&& 31).toUInt32).toInt32).toInt8.toInt32)), sI (0 : Int32), sI (8 : Int32), .unset] [(Value.ref b_61)])) rfl rfl (hb hby at_276) _ kq) ?_
          rw [len_of S64 M64]
          refine own_Go.by (fun tq kq => XS.iload X61.here hx rfl (hb hby at_277) rfl kq) ?_
          show own_Go _ _ _ _ (T61.setTop (mkF m 279 #[sI p1, sI p2, sI p3, sI p4, sI sel, sR aK, sI cd, sI vv, sI (0 : Int32), sR ob3, sR ob12, sR b_18, sR b_61, sI (2 : Int32), .val (Value.int (((vv &&& (127 : Int32)) ||| (128 : Int32)).toInt8.toInt32)), .val (Value.int (((vv.toUInt32 >>> ((7 : Int32) &&& 31).toUInt32).toInt32).toInt8.toInt32)), sI (0 : Int32), sI (8 : Int32), .unset] [(Value.int (8 : Int32)), (Value.int (8 : Int32))]))
          refine own_Go.by (fun tq kq => XS.icmpNo X61.here hx rfl (hb hby at_279) rfl (teq (by decide : (8 : Int32) = (8 : Int32))).2 kq) ?_
          refine own_Go.by (fun tq kq => XS.aload X61.here hx rfl (hb hby at_282) rfl rfl kq) ?_
          refine own_Go.by (fun tq kq => XS.iload X61.here hx rfl (hb hby at_284) rfl kq) ?_
          show own_Go _ _ _ _ (T61.setTop (mkF m 286 #[sI p1, sI p2, sI p3, sI p4, sI sel, sR aK, sI cd, sI vv, sI (0 : Int32), sR ob3, sR ob12, sR b_18, sR b_61, sI (2 : Int32), .val (Value.int (((vv &&& (127 : Int32)) ||| (128 : Int32)).toInt8.toInt32)), .val (Value.int (((vv.toUInt32 >>> ((7 : Int32) &&& 31).toUInt32).toInt32).toInt8.toInt32)), sI (0 : Int32), sI (8 : Int32), .unset] [(Value.int cd), (Value.ref b_61)]))
          obtain ⟨_, _, ⟨T65, L65, k65, n65⟩, -, X65, ⟨Lc65, hQ65, l65, y65, z65⟩, st65⟩ := Jvm.LawKit.callS X61 hx (y := (⟨"com/example/ebbtide/ebbtide/core/EncoderToByteArrayPinLaw", "header", "([BI)Z"⟩ : MethodName)) hown15 (mvT hZ15 (hw _ (List.mem_of_getElem? (i := 72) rfl))) (mvT hZ15 (hw _ (List.mem_of_getElem? (i := 73) rfl))) (mvT hZ15 (hw _ (List.mem_of_getElem? (i := 74) rfl))) (mvT hZ15 (hw _ (List.mem_of_getElem? (i := 75) rfl))) (by decide) (backOf (W := 0) (rm11 l Z a0 hw [] b_61 k2_61 (8 : Int32) (own_cp (((own_hd cd).set 6 (Value.int (((((vv.toInt64) &&& (127 : Int64)) ||| (128 : Int64)).toInt32).toInt8.toInt32))).set 7 (Value.int (((((vv.toInt64).toUInt64 >>> ((7 : Int32) &&& 0x3f).toInt64.toUInt64).toInt64).toInt32).toInt8.toInt32))) 8) cd T61.heap n0 O62 p61_1 (by decide : ¬ ((8 : Int32) < (6 : Int32))) (by decide : ¬ ((0 : Int32) < (0 : Int32)) ∧ (0 : Int32) < (8 : Int32)) (by decide : ¬ ((1 : Int32) < (0 : Int32)) ∧ (1 : Int32) < (8 : Int32)) (by decide : ¬ ((2 : Int32) < (0 : Int32)) ∧ (2 : Int32) < (8 : Int32)) (by decide : ¬ ((3 : Int32) < (0 : Int32)) ∧ (3 : Int32) < (8 : Int32)) (by decide : ¬ ((4 : Int32) < (0 : Int32)) ∧ (4 : Int32) < (8 : Int32)) (by decide : ¬ ((5 : Int32) < (0 : Int32)) ∧ (5 : Int32) < (8 : Int32)) (rfl : (own_cp (((own_hd cd).set 6 (Value.int (((((vv.toInt64) &&& (127 : Int64)) ||| (128 : Int64)).toInt32).toInt8.toInt32))).set 7 (Value.int (((((vv.toInt64).toUInt64 >>> ((7 : Int32) &&& 0x3f).toInt64.toUInt64).toInt64).toInt32).toInt8.toInt32))) 8).getD (0 : Int32).toNatClampNeg (Value.int (0 : Int32)) = (Value.int (69 : Int32))) (rfl : (own_cp (((own_hd cd).set 6 (Value.int (((((vv.toInt64) &&& (127 : Int64)) ||| (128 : Int64)).toInt32).toInt8.toInt32))).set 7 (Value.int (((((vv.toInt64).toUInt64 >>> ((7 : Int32) &&& 0x3f).toInt64.toUInt64).toInt64).toInt32).toInt8.toInt32))) 8).getD (1 : Int32).toNatClampNeg (Value.int (0 : Int32)) = (Value.int (66 : Int32))) (rfl : (own_cp (((own_hd cd).set 6 (Value.int (((((vv.toInt64) &&& (127 : Int64)) ||| (128 : Int64)).toInt32).toInt8.toInt32))).set 7 (Value.int (((((vv.toInt64).toUInt64 >>> ((7 : Int32) &&& 0x3f).toInt64.toUInt64).toInt64).toInt32).toInt8.toInt32))) 8).getD (2 : Int32).toNatClampNeg (Value.int (0 : Int32)) = (Value.int (66 : Int32))) (rfl : (own_cp (((own_hd cd).set 6 (Value.int (((((vv.toInt64) &&& (127 : Int64)) ||| (128 : Int64)).toInt32).toInt8.toInt32))).set 7 (Value.int (((((vv.toInt64).toUInt64 >>> ((7 : Int32) &&& 0x3f).toInt64.toUInt64).toInt64).toInt32).toInt8.toInt32))) 8).getD (3 : Int32).toNatClampNeg (Value.int (0 : Int32)) = (Value.int (84 : Int32))) (rfl : (own_cp (((own_hd cd).set 6 (Value.int (((((vv.toInt64) &&& (127 : Int64)) ||| (128 : Int64)).toInt32).toInt8.toInt32))).set 7 (Value.int (((((vv.toInt64).toUInt64 >>> ((7 : Int32) &&& 0x3f).toInt64.toUInt64).toInt64).toInt32).toInt8.toInt32))) 8).getD (4 : Int32).toNatClampNeg (Value.int (0 : Int32)) = (Value.int (3 : Int32))) (rfl : (own_cp (((own_hd cd).set 6 (Value.int (((((vv.toInt64) &&& (127 : Int64)) ||| (128 : Int64)).toInt32).toInt8.toInt32))).set 7 (Value.int (((((vv.toInt64).toUInt64 >>> ((7 : Int32) &&& 0x3f).toInt64.toUInt64).toInt64).toInt32).toInt8.toInt32))) 8).getD (5 : Int32).toNatClampNeg (Value.int (0 : Int32)) = (Value.int cd))) hZ15 (hw _ (List.mem_of_getElem? (i := 75) rfl)) (hw _ (List.mem_of_getElem? (i := 74) rfl)) (by decide) (by decide)) (g := (mkF m 286 #[sI p1, sI p2, sI p3, sI p4, sI sel, sR aK, sI cd, sI vv, sI (0 : Int32), sR ob3, sR ob12, sR b_18, sR b_61, sI (2 : Int32), .val (Value.int (((vv &&& (127 : Int32)) ||| (128 : Int32)).toInt8.toInt32)), .val (Value.int (((vv.toUInt32 >>> ((7 : Int32) &&& 31).toUInt32).toInt32).toInt8.toInt32)), sI (0 : Int32), sI (8 : Int32), .unset] [(Value.int cd), (Value.ref b_61)])) rfl (by rw [hml]; rfl) (argsL := [(Value.ref b_61), (Value.int cd)]) (rest := []) (lenOf own_pd10 rfl) rfl (by show 2 * 0 + _ ≤ _; exact Nat.le_of_eq rfl) (hb hby at_286) (fun _ _ => ⟨rfl, rfl, (by decide : 7 + 0 ≤ _), (by decide : 624 + 0 ≤ _)⟩)
          dsimp only [Pt.U, Pt.locs, Pt.cells, Pt.slots] at X65 l65 y65 z65 st65 hQ65
          subst l65 y65 z65
          refine own_Go.by st65 ?_
          obtain ⟨rfl, N65q, e65⟩ := hQ65
          have N65 := Fr.app N61 N65q
          show own_Go _ _ _ _ (T65.setTop (mkF m 289 #[sI p1, sI p2, sI p3, sI p4, sI sel, sR aK, sI cd, sI vv, sI (0 : Int32), sR ob3, sR ob12, sR b_18, sR b_61, sI (2 : Int32), .val (Value.int (((vv &&& (127 : Int32)) ||| (128 : Int32)).toInt8.toInt32)), .val (Value.int (((vv.toUInt32 >>> ((7 : Int32) &&& 31).toUInt32).toInt32).toInt8.toInt32)), sI (0 : Int32), sI (8 : Int32), .unset] [(Value.int (1 : Int32))]))
          refine own_Go.by (fun tq kq => XS.ifYes X65.here hx rfl (pc0 := 289) (pc' := 294) rfl (hb hby at_289) rfl ((if0 _ _).trans (feq (by decide : ¬ ((1 : Int32) = (0 : Int32)))).2) (by decide) (by decide) kq) ?_
          refine own_Go.by (fun tq kq => XS.aload X65.here hx rfl (hb hby at_294) rfl rfl kq) ?_
          refine own_Go.by (fun tq kq => XS.bipush X65.here hx rfl (hb hby at_296) kq) ?_
          show own_Go _ _ _ _ (T65.setTop (mkF m 298 #[sI p1, sI p2, sI p3, sI p4, sI sel, sR aK, sI cd, sI vv, sI (0 : Int32), sR ob3, sR ob12, sR b_18, sR b_61, sI (2 : Int32), .val (Value.int (((vv &&& (127 : Int32)) ||| (128 : Int32)).toInt8.toInt32)), .val (Value.int (((vv.toUInt32 >>> ((7 : Int32) &&& 31).toUInt32).toInt32).toInt8.toInt32)), sI (0 : Int32), sI (8 : Int32), .unset] [(Value.int (6 : Int32)), (Value.ref b_61)]))
          obtain ⟨cl66, Ar66, q66, S66, M66, Hh66, G66⟩ := id p61_1
          refine own_Go.by (fun tq kq => X65.baloadBytes hx (j := (6 : Int32)) (v := (Value.int (((((vv.toInt64) &&& (127 : Int64)) ||| (128 : Int64)).toInt32).toInt8.toInt32))) (by rw [e65]; exact Ar66.1) (State.isArrayOf_alike hZ15.alike Ar66.2.1) Ar66.2.2 (inb_of S66 (by decide : ¬ ((6 : Int32) < (0 : Int32)) ∧ (6 : Int32) < (8 : Int32))) (Has.at Hh66 (inb_of S66 (by decide : ¬ ((6 : Int32) < (0 : Int32)) ∧ (6 : Int32) < (8 : Int32))) rfl) (g := (mkF m 298 #[sI p1, sI p2, sI p3, sI p4, sI sel, sR aK, sI cd, sI vv, sI (0 : Int32), sR ob3, sR ob12, sR b_18, sR b_61, sI (2 : Int32), .val (Value.int (((vv &&& (127 : Int32)) ||| (128 : Int32)).toInt8.toInt32)), .val (Value.int (((vv.toUInt32 >>> ((7 : Int32) &&& 31).toUInt32).toInt32).toInt8.toInt32)), sI (0 : Int32), sI (8 : Int32), .unset] [(Value.int (6 : Int32)), (Value.ref b_61)])) rfl rfl (hb hby at_298) _ kq) ?_
          refine own_Go.by (fun tq kq => XS.iload X65.here hx rfl (hb hby at_299) rfl kq) ?_
          show own_Go _ _ _ _ (T65.setTop (mkF m 301 #[sI p1, sI p2, sI p3, sI p4, sI sel, sR aK, sI cd, sI vv, sI (0 : Int32), sR ob3, sR ob12, sR b_18, sR b_61, sI (2 : Int32), .val (Value.int (((vv &&& (127 : Int32)) ||| (128 : Int32)).toInt8.toInt32)), .val (Value.int (((vv.toUInt32 >>> ((7 : Int32) &&& 31).toUInt32).toInt32).toInt8.toInt32)), sI (0 : Int32), sI (8 : Int32), .unset] [(Value.int (((vv &&& (127 : Int32)) ||| (128 : Int32)).toInt8.toInt32)), (Value.int (((((vv.toInt64) &&& (127 : Int64)) ||| (128 : Int64)).toInt32).toInt8.toInt32))]))
          refine own_Go.by (fun tq kq => XS.icmpYes X65.here hx rfl (pc0 := 301) (pc' := 306) rfl (hb hby at_301) rfl (teq (own_lo (own_e64 vv) : (((((vv.toInt64) &&& (127 : Int64)) ||| (128 : Int64)).toInt32).toInt8.toInt32) = (((vv &&& (127 : Int32)) ||| (128 : Int32)).toInt8.toInt32))).1 (by decide) (by decide) kq) ?_
          refine own_Go.by (fun tq kq => XS.iload X65.here hx rfl (hb hby at_306) rfl kq) ?_
          refine own_Go.by (fun tq kq => XS.iconst X65.here hx rfl (hb hby at_308) kq) ?_
          show own_Go _ _ _ _ (T65.setTop (mkF m 309 #[sI p1, sI p2, sI p3, sI p4, sI sel, sR aK, sI cd, sI vv, sI (0 : Int32), sR ob3, sR ob12, sR b_18, sR b_61, sI (2 : Int32), .val (Value.int (((vv &&& (127 : Int32)) ||| (128 : Int32)).toInt8.toInt32)), .val (Value.int (((vv.toUInt32 >>> ((7 : Int32) &&& 31).toUInt32).toInt32).toInt8.toInt32)), sI (0 : Int32), sI (8 : Int32), .unset] [(Value.int (2 : Int32)), (Value.int (2 : Int32))]))
          refine own_Go.by (fun tq kq => XS.icmpNo X65.here hx rfl (hb hby at_309) rfl (flt (by decide : ¬ ((2 : Int32) < (2 : Int32)))).1 kq) ?_
          refine own_Go.by (fun tq kq => XS.aload X65.here hx rfl (hb hby at_312) rfl rfl kq) ?_
          refine own_Go.by (fun tq kq => XS.bipush X65.here hx rfl (hb hby at_314) kq) ?_
          show own_Go _ _ _ _ (T65.setTop (mkF m 316 #[sI p1, sI p2, sI p3, sI p4, sI sel, sR aK, sI cd, sI vv, sI (0 : Int32), sR ob3, sR ob12, sR b_18, sR b_61, sI (2 : Int32), .val (Value.int (((vv &&& (127 : Int32)) ||| (128 : Int32)).toInt8.toInt32)), .val (Value.int (((vv.toUInt32 >>> ((7 : Int32) &&& 31).toUInt32).toInt32).toInt8.toInt32)), sI (0 : Int32), sI (8 : Int32), .unset] [(Value.int (7 : Int32)), (Value.ref b_61)]))
          obtain ⟨cl67, Ar67, q67, S67, M67, Hh67, G67⟩ := id p61_1
          refine own_Go.by (fun tq kq => X65.baloadBytes hx (j := (7 : Int32)) (v := (Value.int (((((vv.toInt64).toUInt64 >>> ((7 : Int32) &&& 0x3f).toInt64.toUInt64).toInt64).toInt32).toInt8.toInt32))) (by rw [e65]; exact Ar67.1) (State.isArrayOf_alike hZ15.alike Ar67.2.1) Ar67.2.2 (inb_of S67 (by decide : ¬ ((7 : Int32) < (0 : Int32)) ∧ (7 : Int32) < (8 : Int32))) (Has.at Hh67 (inb_of S67 (by decide : ¬ ((7 : Int32) < (0 : Int32)) ∧ (7 : Int32) < (8 : Int32))) rfl) (g := (mkF m 316 #[sI p1, sI p2, sI p3, sI p4, sI sel, sR aK, sI cd, sI vv, sI (0 : Int32), sR ob3, sR ob12, sR b_18, sR b_61, sI (2 : Int32), .val (Value.int (((vv &&& (127 : Int32)) ||| (128 : Int32)).toInt8.toInt32)), .val (Value.int (((vv.toUInt32 >>> ((7 : Int32) &&& 31).toUInt32).toInt32).toInt8.toInt32)), sI (0 : Int32), sI (8 : Int32), .unset] [(Value.int (7 : Int32)), (Value.ref b_61)])) rfl rfl (hb hby at_316) _ kq) ?_
          refine own_Go.by (fun tq kq => XS.iload X65.here hx rfl (hb hby at_317) rfl kq) ?_
          show own_Go _ _ _ _ (T65.setTop (mkF m 319 #[sI p1, sI p2, sI p3, sI p4, sI sel, sR aK, sI cd, sI vv, sI (0 : Int32), sR ob3, sR ob12, sR b_18, sR b_61, sI (2 : Int32), .val (Value.int (((vv &&& (127 : Int32)) ||| (128 : Int32)).toInt8.toInt32)), .val (Value.int (((vv.toUInt32 >>> ((7 : Int32) &&& 31).toUInt32).toInt32).toInt8.toInt32)), sI (0 : Int32), sI (8 : Int32), .unset] [(Value.int (((vv.toUInt32 >>> ((7 : Int32) &&& 31).toUInt32).toInt32).toInt8.toInt32)), (Value.int (((((vv.toInt64).toUInt64 >>> ((7 : Int32) &&& 0x3f).toInt64.toUInt64).toInt64).toInt32).toInt8.toInt32))]))
          refine own_Go.by (fun tq kq => XS.icmpYes X65.here hx rfl (pc0 := 319) (pc' := 324) rfl (hb hby at_319) rfl (teq ((congrArg (fun z : Int32 => z.toInt8.toInt32) (own_s7 hv21)) : (((((vv.toInt64).toUInt64 >>> ((7 : Int32) &&& 0x3f).toInt64.toUInt64).toInt64).toInt32).toInt8.toInt32) = (((vv.toUInt32 >>> ((7 : Int32) &&& 31).toUInt32).toInt32).toInt8.toInt32))).1 (by decide) (by decide) kq) ?_
          refine own_Go.by (fun tq kq => XS.iload X65.here hx rfl (hb hby at_324) rfl kq) ?_
          refine own_Go.by (fun tq kq => XS.iconst X65.here hx rfl (hb hby at_326) kq) ?_
          show own_Go _ _ _ _ (T65.setTop (mkF m 327 #[sI p1, sI p2, sI p3, sI p4, sI sel, sR aK, sI cd, sI vv, sI (0 : Int32), sR ob3, sR ob12, sR b_18, sR b_61, sI (2 : Int32), .val (Value.int (((vv &&& (127 : Int32)) ||| (128 : Int32)).toInt8.toInt32)), .val (Value.int (((vv.toUInt32 >>> ((7 : Int32) &&& 31).toUInt32).toInt32).toInt8.toInt32)), sI (0 : Int32), sI (8 : Int32), .unset] [(Value.int (3 : Int32)), (Value.int (2 : Int32))]))
          refine own_Go.by (fun tq kq => XS.icmpYes X65.here hx rfl (pc0 := 327) (pc' := 342) rfl (hb hby at_327) rfl (tlt (by decide : (2 : Int32) < (3 : Int32))).1 (by decide) (by decide) kq) ?_
          refine own_Go.by (fun tq kq => XS.iload X65.here hx rfl (hb hby at_342) rfl kq) ?_
          show own_Go _ _ _ _ (T65.setTop (mkF m 344 #[sI p1, sI p2, sI p3, sI p4, sI sel, sR aK, sI cd, sI vv, sI (0 : Int32), sR ob3, sR ob12, sR b_18, sR b_61, sI (2 : Int32), .val (Value.int (((vv &&& (127 : Int32)) ||| (128 : Int32)).toInt8.toInt32)), .val (Value.int (((vv.toUInt32 >>> ((7 : Int32) &&& 31).toUInt32).toInt32).toInt8.toInt32)), sI (0 : Int32), sI (8 : Int32), .unset] [(Value.int (0 : Int32))]))
          refine own_Go.by (fun tq kq => XS.ifYes X65.here hx rfl (pc0 := 344) (pc' := 398) rfl (hb hby at_344) rfl ((if0 _ _).trans (teq (by decide : (0 : Int32) = (0 : Int32))).1) (by decide) (by decide) kq) ?_
          refine own_Go.by (fun tq kq => XS.aload X65.here hx rfl (hb hby at_398) rfl rfl kq) ?_
          refine own_Go.by (fun tq kq => XS.iconst X65.here hx rfl (hb hby at_400) kq) ?_
          refine own_Go.by (fun tq kq => XS.aload X65.here hx rfl (hb hby at_401) rfl rfl kq) ?_
          show own_Go _ _ _ _ (T65.setTop (mkF m 403 #[sI p1, sI p2, sI p3, sI p4, sI sel, sR aK, sI cd, sI vv, sI (0 : Int32), sR ob3, sR ob12, sR b_18, sR b_61, sI (2 : Int32), .val (Value.int (((vv &&& (127 : Int32)) ||| (128 : Int32)).toInt8.toInt32)), .val (Value.int (((vv.toUInt32 >>> ((7 : Int32) &&& 31).toUInt32).toInt32).toInt8.toInt32)), sI (0 : Int32), sI (8 : Int32), .unset] [(Value.ref b_61), (Value.int (0 : Int32)), (Value.ref b_61)]))
          refine own_Go.by (fun tq kq => XS.iconst X65.here hx rfl (hb hby at_403) kq) ?_
          show own_Go _ _ _ _ (T65.setTop (mkF m 404 #[sI p1, sI p2, sI p3, sI p4, sI sel, sR aK, sI cd, sI vv, sI (0 : Int32), sR ob3, sR ob12, sR b_18, sR b_61, sI (2 : Int32), .val (Value.int (((vv &&& (127 : Int32)) ||| (128 : Int32)).toInt8.toInt32)), .val (Value.int (((vv.toUInt32 >>> ((7 : Int32) &&& 31).toUInt32).toInt32).toInt8.toInt32)), sI (0 : Int32), sI (8 : Int32), .unset] [(Value.int (0 : Int32)), (Value.ref b_61), (Value.int (0 : Int32)), (Value.ref b_61)]))
          obtain ⟨cl68, Ar68, q68, S68, M68, Hh68, G68⟩ := id p61_1
          refine own_Go.by (fun tq kq => X65.baloadBytes hx (j := (0 : Int32)) (v := (Value.int (69 : Int32))) (by rw [e65]; exact Ar68.1) (State.isArrayOf_alike hZ15.alike Ar68.2.1) Ar68.2.2 (inb_of S68 (by decide : ¬ ((0 : Int32) < (0 : Int32)) ∧ (0 : Int32) < (8 : Int32))) (Has.at Hh68 (inb_of S68 (by decide : ¬ ((0 : Int32) < (0 : Int32)) ∧ (0 : Int32) < (8 : Int32))) rfl) (g := (mkF m 404 #[sI p1, sI p2, sI p3, sI p4, sI sel, sR aK, sI cd, sI vv, sI (0 : Int32), sR ob3, sR ob12, sR b_18, sR b_61, sI (2 : Int32), .val (Value.int (((vv &&& (127 : Int32)) ||| (128 : Int32)).toInt8.toInt32)), .val (Value.int (((vv.toUInt32 >>> ((7 : Int32) &&& 31).toUInt32).toInt32).toInt8.toInt32)), sI (0 : Int32), sI (8 : Int32), .unset] [(Value.int (0 : Int32)), (Value.ref b_61), (Value.int (0 : Int32)), (Value.ref b_61)])) rfl rfl (hb hby at_404) _ kq) ?_
          refine own_Go.by (fun tq kq => XS.iconst X65.here hx rfl (hb hby at_405) kq) ?_
          refine own_Go.by (fun tq kq => XS.iadd X65.here hx rfl (hb hby at_406) rfl kq) ?_
          refine own_Go.by (fun tq kq => XS.i2b X65.here hx rfl (hb hby at_407) rfl kq) ?_
          show own_Go _ _ _ _ (T65.setTop (mkF m 408 #[sI p1, sI p2, sI p3, sI p4, sI sel, sR aK, sI cd, sI vv, sI (0 : Int32), sR ob3, sR ob12, sR b_18, sR b_61, sI (2 : Int32), .val (Value.int (((vv &&& (127 : Int32)) ||| (128 : Int32)).toInt8.toInt32)), .val (Value.int (((vv.toUInt32 >>> ((7 : Int32) &&& 31).toUInt32).toInt32).toInt8.toInt32)), sI (0 : Int32), sI (8 : Int32), .unset] [(Value.int ((70 : Int32).toInt8.toInt32)), (Value.int (0 : Int32)), (Value.ref b_61)]))
          obtain ⟨cl69, Ar69, q69, S69, M69, Hh69, G69⟩ := id p61_1
          obtain ⟨T70, h70, X70, e70, W70, st70⟩ := stB X65 hx hZ15 e65 Ar69 (j := (0 : Int32)) (inb_of S69 ⟨(by decide : ¬ ((0 : Int32) < (0 : Int32))), (by decide : (0 : Int32) < (8 : Int32))⟩) (g := (mkF m 408 #[sI p1, sI p2, sI p3, sI p4, sI sel, sR aK, sI cd, sI vv, sI (0 : Int32), sR ob3, sR ob12, sR b_18, sR b_61, sI (2 : Int32), .val (Value.int (((vv &&& (127 : Int32)) ||| (128 : Int32)).toInt8.toInt32)), .val (Value.int (((vv.toUInt32 >>> ((7 : Int32) &&& 31).toUInt32).toInt32).toInt8.toInt32)), sI (0 : Int32), sI (8 : Int32), .unset] [(Value.int ((70 : Int32).toInt8.toInt32)), (Value.int (0 : Int32)), (Value.ref b_61)])) rfl rfl (hb hby at_408)
          refine own_Go.by st70 ?_
          have N70 := Fr.snoc X70 N65 g63
          have O71 := O62.wr W70 g63
          have K71 := K62.wr W70 (Or.inr z63)
          have hk_71 := Nat.le_trans hk_62 (Keep.of_wr W70).1
          rw [show nar .byte ((70 : Int32).toInt8.toInt32) = ((70 : Int32).toInt8.toInt32) from own_b8 _] at W70
          have V70 : Arv Z h70 b_61 k2_61 .byte (8 : Int32) ((own_cp (((own_hd cd).set 6 (Value.int (((((vv.toInt64) &&& (127 : Int64)) ||| (128 : Int64)).toInt32).toInt8.toInt32))).set 7 (Value.int (((((vv.toInt64).toUInt64 >>> ((7 : Int32) &&& 0x3f).toInt64.toUInt64).toInt64).toInt32).toInt8.toInt32))) 8).set 0 (Value.int ((70 : Int32).toInt8.toInt32))) (Value.int (0 : Int32)) := Arv.set Ar69 q69 S69 M69 Hh69 G69 (own_fitB (own_b8 _)) W70 0 (rfl) (Nat.le_of_ble_eq_true rfl)
          refine own_Go.by (fun tq kq => XS.aload X70.here hx rfl (hb hby at_409) rfl rfl kq) ?_
          refine own_Go.by (fun tq kq => XS.iconst X70.here hx rfl (hb hby at_411) kq) ?_
          refine own_Go.by (fun tq kq => XS.iconst X70.here hx rfl (hb hby at_412) kq) ?_
          show own_Go _ _ _ _ (T70.setTop (mkF m 413 #[sI p1, sI p2, sI p3, sI p4, sI sel, sR aK, sI cd, sI vv, sI (0 : Int32), sR ob3, sR ob12, sR b_18, sR b_61, sI (2 : Int32), .val (Value.int (((vv &&& (127 : Int32)) ||| (128 : Int32)).toInt8.toInt32)), .val (Value.int (((vv.toUInt32 >>> ((7 : Int32) &&& 31).toUInt32).toInt32).toInt8.toInt32)), sI (0 : Int32), sI (8 : Int32), .unset] [(Value.int (0 : Int32)), (Value.int (1 : Int32)), (Value.ref b_18)]))
          have c72 := (((p18_1.keep K55q (ninS (Ne.symm (Nat.ne_of_lt (Nat.lt_of_lt_of_le A12.lt (Nat.le_trans K15q.1 p18_0)))) (ninS (Ne.symm (Nat.ne_of_lt (Nat.lt_of_lt_of_le p15_4.lt p18_0))) nin0))).keep K61q nin0).other W70 (Nat.ne_of_lt (Nat.lt_of_lt_of_le p18_1.lt (Nat.le_trans K55q.1 p61_0))))
          obtain ⟨cl73, Ar73, q73, S73, M73, Hh73, G73⟩ := id c72
          obtain ⟨T74, h74, X74, e74, W74, st74⟩ := stB X70 hx hZ15 e70 Ar73 (j := (1 : Int32)) (inb_of S73 ⟨(by decide : ¬ ((1 : Int32) < (0 : Int32))), (by decide : (1 : Int32) < (6 : Int32))⟩) (g := (mkF m 413 #[sI p1, sI p2, sI p3, sI p4, sI sel, sR aK, sI cd, sI vv, sI (0 : Int32), sR ob3, sR ob12, sR b_18, sR b_61, sI (2 : Int32), .val (Value.int (((vv &&& (127 : Int32)) ||| (128 : Int32)).toInt8.toInt32)), .val (Value.int (((vv.toUInt32 >>> ((7 : Int32) &&& 31).toUInt32).toInt32).toInt8.toInt32)), sI (0 : Int32), sI (8 : Int32), .unset] [(Value.int (0 : Int32)), (Value.int (1 : Int32)), (Value.ref b_18)])) rfl rfl (hb hby at_413)
          refine own_Go.by st74 ?_
          have N74 := Fr.snoc X74 N70 g20
          have O75 := O71.wr W74 g20
          have K75 := K71.wr W74 (Or.inr z20)
          have hk_75 := Nat.le_trans hk_71 (Keep.of_wr W74).1
          rw [show nar .byte (0 : Int32) = (0 : Int32) from (rfl : ((0 : Int32).toInt8.toInt32) = (0 : Int32))] at W74
          have V74 : Arv Z h74 b_18 k2_18 .byte (6 : Int32) ((own_cp (own_hd cd) 6).set 1 (Value.int (0 : Int32))) (Value.int (0 : Int32)) := Arv.set Ar73 q73 S73 M73 Hh73 G73 (own_fitB ((rfl : ((0 : Int32).toInt8.toInt32) = (0 : Int32)))) W74 1 (rfl) (Nat.le_of_ble_eq_true rfl)
          refine own_Go.by (fun tq kq => XS.aload X74.here hx rfl (hb hby at_414) rfl rfl kq) ?_
          show own_Go _ _ _ _ (T74.setTop (mkF m 416 #[sI p1, sI p2, sI p3, sI p4, sI sel, sR aK, sI cd, sI vv, sI (0 : Int32), sR ob3, sR ob12, sR b_18, sR b_61, sI (2 : Int32), .val (Value.int (((vv &&& (127 : Int32)) ||| (128 : Int32)).toInt8.toInt32)), .val (Value.int (((vv.toUInt32 >>> ((7 : Int32) &&& 31).toUInt32).toInt32).toInt8.toInt32)), sI (0 : Int32), sI (8 : Int32), .unset] [(Value.ref ob12)]))
          have c77 := (((p55_0.keep K61q).wr W70).wr W74)
          have c78 := (((p55_1.keep K61q nin0).other W70 (Or.inl (Nat.ne_of_lt (Nat.lt_of_lt_of_le A12.lt (Nat.le_trans K15q.1 (Nat.le_trans K18q.1 (Nat.le_trans K55q.1 p61_0))))))).other W74 (Or.inl (Nat.ne_of_lt (Nat.lt_of_lt_of_le A12.lt (Nat.le_trans K15q.1 p18_0)))))
          have c79 := (((p55_2.keep K61q nin0).other W70 (Or.inl (Nat.ne_of_lt (Nat.lt_of_lt_of_le A12.lt (Nat.le_trans K15q.1 (Nat.le_trans K18q.1 (Nat.le_trans K55q.1 p61_0))))))).other W74 (Or.inl (Nat.ne_of_lt (Nat.lt_of_lt_of_le A12.lt (Nat.le_trans K15q.1 p18_0)))))
          have c80 := (((p55_3.keep K61q nin0).other W70 (Nat.ne_of_lt (Nat.lt_of_lt_of_le p15_4.lt (Nat.le_trans K18q.1 (Nat.le_trans K55q.1 p61_0))))).other W74 (Nat.ne_of_lt (Nat.lt_of_lt_of_le p15_4.lt p18_0)))
          obtain ⟨cq76, kq76, q76a, q76b, q76c⟩ := isOf hZ15 e74 c77
          obtain ⟨_, _, ⟨T76, L76, k76, n76⟩, -, X76, ⟨Lc76, hQ76, l76, y76, z76⟩, st76⟩ := X74.virtualBack hx (y := (⟨"com/example/ebbtide/ebbtide/core/Encoder", "toByteArray", "()[B"⟩ : MethodName)) (z := (⟨"com/example/ebbtide/ebbtide/core/Encoder", "toByteArray", "()[B"⟩ : MethodName)) hown15 (mvT hZ15 (hw _ (List.mem_of_getElem? (i := 55) rfl))) (mvT hZ15 (hw _ (List.mem_of_getElem? (i := 56) rfl))) (notFace_of_selects (args := #[]) (mvT hZ15 (hw _ (List.mem_of_getElem? (i := 58) rfl)))) (mvT hZ15 (hw _ (List.mem_of_getElem? (i := 58) rfl))) (mvT hZ15 (hw _ (List.mem_of_getElem? (i := 57) rfl))) (by decide) (backOf (W := 0) (rm8_256_8 l Z a0 hw [] ob12 b_15 k2_15 (((own_hd cd).set 6 (Value.int (((((vv.toInt64) &&& (127 : Int64)) ||| (128 : Int64)).toInt32).toInt8.toInt32))).set 7 (Value.int (((((vv.toInt64).toUInt64 >>> ((7 : Int32) &&& 0x3f).toInt64.toUInt64).toInt64).toInt32).toInt8.toInt32))) h74 n0 O75 c77 c78 c79 c80) hZ15 (hw _ (List.mem_of_getElem? (i := 59) rfl)) (hw _ (List.mem_of_getElem? (i := 8) rfl)) (by decide) (by decide)) q76a q76c (g := (mkF m 416 #[sI p1, sI p2, sI p3, sI p4, sI sel, sR aK, sI cd, sI vv, sI (0 : Int32), sR ob3, sR ob12, sR b_18, sR b_61, sI (2 : Int32), .val (Value.int (((vv &&& (127 : Int32)) ||| (128 : Int32)).toInt8.toInt32)), .val (Value.int (((vv.toUInt32 >>> ((7 : Int32) &&& 31).toUInt32).toInt32).toInt8.toInt32)), sI (0 : Int32), sI (8 : Int32), .unset] [(Value.ref ob12)])) rfl (by rw [hml]; rfl) (Steps.refl _) (argsL := []) (rest := []) (lenOf own_pd9 rfl) rfl (by show 2 * 0 + _ ≤ _; exact Nat.le_of_eq rfl) (hb hby at_416) (fun _ _ => ⟨rfl, e74, (by decide : 7 + 1 ≤ _), (by decide : 624 + 8 ≤ _)⟩)
          dsimp only [Pt.U, Pt.locs, Pt.cells, Pt.slots] at X76 l76 y76 z76 st76 hQ76
          subst l76 y76 z76
          refine own_Go.by (fun tq kq => st76.trans kq) ?_
          obtain ⟨b_76, k2_76, rfl, N76q, K76q, p76_0, p76_1⟩ := hQ76
          have N76 := Fr.app N74 N76q
          have O81 := O75.keep K76q all0
          have K81 := K75.trans K76q all0
          have hk_81 := Nat.le_trans hk_75 K76q.1
          have g82 : n0 ≤ b_76 := Nat.le_trans (own_old_le O75) p76_0
          have z82 : h0.size ≤ b_76 := Nat.le_trans K75.1 p76_0
          refine own_Go.by (fun tq kq => XS.astore X76.here hx rfl (hb hby at_419) rfl rfl (l' := #[sI p1, sI p2, sI p3, sI p4, sI sel, sR aK, sI cd, sI vv, sI (0 : Int32), sR ob3, sR ob12, sR b_18, sR b_61, sI (2 : Int32), .val (Value.int (((vv &&& (127 : Int32)) ||| (128 : Int32)).toInt8.toInt32)), .val (Value.int (((vv.toUInt32 >>> ((7 : Int32) &&& 31).toUInt32).toInt32).toInt8.toInt32)), sI (0 : Int32), sI (8 : Int32), sR b_76]) rfl kq) ?_
          refine own_Go.by (fun tq kq => XS.aload X76.here hx rfl (hb hby at_421) rfl rfl kq) ?_
          show own_Go _ _ _ _ (T76.setTop (mkF m 423 #[sI p1, sI p2, sI p3, sI p4, sI sel, sR aK, sI cd, sI vv, sI (0 : Int32), sR ob3, sR ob12, sR b_18, sR b_61, sI (2 : Int32), .val (Value.int (((vv &&& (127 : Int32)) ||| (128 : Int32)).toInt8.toInt32)), .val (Value.int (((vv.toUInt32 >>> ((7 : Int32) &&& 31).toUInt32).toInt32).toInt8.toInt32)), sI (0 : Int32), sI (8 : Int32), sR b_76] [(Value.ref b_76)]))
          obtain ⟨cl83, Ar83, q83, S83, M83, Hh83, G83⟩ := id p76_1
          refine own_Go.by (fun tq kq => X76.arraylength hx Ar83.1 (State.isArrayOf_alike hZ15.alike Ar83.2.1) (g := (mkF m 423 #[sI p1, sI p2, sI p3, sI p4, sI sel, sR aK, sI cd, sI vv, sI (0 : Int32), sR ob3, sR ob12, sR b_18, sR b_61, sI (2 : Int32), .val (Value.int (((vv &&& (127 : Int32)) ||| (128 : Int32)).toInt8.toInt32)), .val (Value.int (((vv.toUInt32 >>> ((7 : Int32) &&& 31).toUInt32).toInt32).toInt8.toInt32)), sI (0 : Int32), sI (8 : Int32), sR b_76] [(Value.ref b_76)])) rfl rfl (hb hby at_423) _ kq) ?_
          rw [len_of S83 M83]
          refine own_Go.by (fun tq kq => XS.iload X76.here hx rfl (hb hby at_424) rfl kq) ?_
          show own_Go _ _ _ _ (T76.setTop (mkF m 426 #[sI p1, sI p2, sI p3, sI p4, sI sel, sR aK, sI cd, sI vv, sI (0 : Int32), sR ob3, sR ob12, sR b_18, sR b_61, sI (2 : Int32), .val (Value.int (((vv &&& (127 : Int32)) ||| (128 : Int32)).toInt8.toInt32)), .val (Value.int (((vv.toUInt32 >>> ((7 : Int32) &&& 31).toUInt32).toInt32).toInt8.toInt32)), sI (0 : Int32), sI (8 : Int32), sR b_76] [(Value.int (8 : Int32)), (Value.int (8 : Int32))]))
          refine own_Go.by (fun tq kq => XS.icmpNo X76.here hx rfl (hb hby at_426) rfl (teq (by decide : (8 : Int32) = (8 : Int32))).2 kq) ?_
          refine own_Go.by (fun tq kq => XS.aload X76.here hx rfl (hb hby at_429) rfl rfl kq) ?_
          refine own_Go.by (fun tq kq => XS.iload X76.here hx rfl (hb hby at_431) rfl kq) ?_
          show own_Go _ _ _ _ (T76.setTop (mkF m 433 #[sI p1, sI p2, sI p3, sI p4, sI sel, sR aK, sI cd, sI vv, sI (0 : Int32), sR ob3, sR ob12, sR b_18, sR b_61, sI (2 : Int32), .val (Value.int (((vv &&& (127 : Int32)) ||| (128 : Int32)).toInt8.toInt32)), .val (Value.int (((vv.toUInt32 >>> ((7 : Int32) &&& 31).toUInt32).toInt32).toInt8.toInt32)), sI (0 : Int32), sI (8 : Int32), sR b_76] [(Value.int cd), (Value.ref b_76)]))
          obtain ⟨_, _, ⟨T84, L84, k84, n84⟩, -, X84, ⟨Lc84, hQ84, l84, y84, z84⟩, st84⟩ := Jvm.LawKit.callS X76 hx (y := (⟨"com/example/ebbtide/ebbtide/core/EncoderToByteArrayPinLaw", "header", "([BI)Z"⟩ : MethodName)) hown15 (mvT hZ15 (hw _ (List.mem_of_getElem? (i := 72) rfl))) (mvT hZ15 (hw _ (List.mem_of_getElem? (i := 73) rfl))) (mvT hZ15 (hw _ (List.mem_of_getElem? (i := 74) rfl))) (mvT hZ15 (hw _ (List.mem_of_getElem? (i := 75) rfl))) (by decide) (backOf (W := 0) (rm11 l Z a0 hw [] b_76 k2_76 (8 : Int32) (own_cp (((own_hd cd).set 6 (Value.int (((((vv.toInt64) &&& (127 : Int64)) ||| (128 : Int64)).toInt32).toInt8.toInt32))).set 7 (Value.int (((((vv.toInt64).toUInt64 >>> ((7 : Int32) &&& 0x3f).toInt64.toUInt64).toInt64).toInt32).toInt8.toInt32))) 8) cd T76.heap n0 O81 p76_1 (by decide : ¬ ((8 : Int32) < (6 : Int32))) (by decide : ¬ ((0 : Int32) < (0 : Int32)) ∧ (0 : Int32) < (8 : Int32)) (by decide : ¬ ((1 : Int32) < (0 : Int32)) ∧ (1 : Int32) < (8 : Int32)) (by decide : ¬ ((2 : Int32) < (0 : Int32)) ∧ (2 : Int32) < (8 : Int32)) (by decide : ¬ ((3 : Int32) < (0 : Int32)) ∧ (3 : Int32) < (8 : Int32)) (by decide : ¬ ((4 : Int32) < (0 : Int32)) ∧ (4 : Int32) < (8 : Int32)) (by decide : ¬ ((5 : Int32) < (0 : Int32)) ∧ (5 : Int32) < (8 : Int32)) (rfl : (own_cp (((own_hd cd).set 6 (Value.int (((((vv.toInt64) &&& (127 : Int64)) ||| (128 : Int64)).toInt32).toInt8.toInt32))).set 7 (Value.int (((((vv.toInt64).toUInt64 >>> ((7 : Int32) &&& 0x3f).toInt64.toUInt64).toInt64).toInt32).toInt8.toInt32))) 8).getD (0 : Int32).toNatClampNeg (Value.int (0 : Int32)) = (Value.int (69 : Int32))) (rfl : (own_cp (((own_hd cd).set 6 (Value.int (((((vv.toInt64) &&& (127 : Int64)) ||| (128 : Int64)).toInt32).toInt8.toInt32))).set 7 (Value.int (((((vv.toInt64).toUInt64 >>> ((7 : Int32) &&& 0x3f).toInt64.toUInt64).toInt64).toInt32).toInt8.toInt32))) 8).getD (1 : Int32).toNatClampNeg (Value.int (0 : Int32)) = (Value.int (66 : Int32))) (rfl : (own_cp (((own_hd cd).set 6 (Value.int (((((vv.toInt64) &&& (127 : Int64)) ||| (128 : Int64)).toInt32).toInt8.toInt32))).set 7 (Value.int (((((vv.toInt64).toUInt64 >>> ((7 : Int32) &&& 0x3f).toInt64.toUInt64).toInt64).toInt32).toInt8.toInt32))) 8).getD (2 : Int32).toNatClampNeg (Value.int (0 : Int32)) = (Value.int (66 : Int32))) (rfl : (own_cp (((own_hd cd).set 6 (Value.int (((((vv.toInt64) &&& (127 : Int64)) ||| (128 : Int64)).toInt32).toInt8.toInt32))).set 7 (Value.int (((((vv.toInt64).toUInt64 >>> ((7 : Int32) &&& 0x3f).toInt64.toUInt64).toInt64).toInt32).toInt8.toInt32))) 8).getD (3 : Int32).toNatClampNeg (Value.int (0 : Int32)) = (Value.int (84 : Int32))) (rfl : (own_cp (((own_hd cd).set 6 (Value.int (((((vv.toInt64) &&& (127 : Int64)) ||| (128 : Int64)).toInt32).toInt8.toInt32))).set 7 (Value.int (((((vv.toInt64).toUInt64 >>> ((7 : Int32) &&& 0x3f).toInt64.toUInt64).toInt64).toInt32).toInt8.toInt32))) 8).getD (4 : Int32).toNatClampNeg (Value.int (0 : Int32)) = (Value.int (3 : Int32))) (rfl : (own_cp (((own_hd cd).set 6 (Value.int (((((vv.toInt64) &&& (127 : Int64)) ||| (128 : Int64)).toInt32).toInt8.toInt32))).set 7 (Value.int (((((vv.toInt64).toUInt64 >>> ((7 : Int32) &&& 0x3f).toInt64.toUInt64).toInt64).toInt32).toInt8.toInt32))) 8).getD (5 : Int32).toNatClampNeg (Value.int (0 : Int32)) = (Value.int cd))) hZ15 (hw _ (List.mem_of_getElem? (i := 75) rfl)) (hw _ (List.mem_of_getElem? (i := 74) rfl)) (by decide) (by decide)) (g := (mkF m 433 #[sI p1, sI p2, sI p3, sI p4, sI sel, sR aK, sI cd, sI vv, sI (0 : Int32), sR ob3, sR ob12, sR b_18, sR b_61, sI (2 : Int32), .val (Value.int (((vv &&& (127 : Int32)) ||| (128 : Int32)).toInt8.toInt32)), .val (Value.int (((vv.toUInt32 >>> ((7 : Int32) &&& 31).toUInt32).toInt32).toInt8.toInt32)), sI (0 : Int32), sI (8 : Int32), sR b_76] [(Value.int cd), (Value.ref b_76)])) rfl (by rw [hml]; rfl) (argsL := [(Value.ref b_76), (Value.int cd)]) (rest := []) (lenOf own_pd10 rfl) rfl (by show 2 * 0 + _ ≤ _; exact Nat.le_of_eq rfl) (hb hby at_433) (fun _ _ => ⟨rfl, rfl, (by decide : 8 + 0 ≤ _), (by decide : 632 + 0 ≤ _)⟩)
          dsimp only [Pt.U, Pt.locs, Pt.cells, Pt.slots] at X84 l84 y84 z84 st84 hQ84
          subst l84 y84 z84
          refine own_Go.by st84 ?_
          obtain ⟨rfl, N84q, e84⟩ := hQ84
          have N84 := Fr.app N76 N84q
          show own_Go _ _ _ _ (T84.setTop (mkF m 436 #[sI p1, sI p2, sI p3, sI p4, sI sel, sR aK, sI cd, sI vv, sI (0 : Int32), sR ob3, sR ob12, sR b_18, sR b_61, sI (2 : Int32), .val (Value.int (((vv &&& (127 : Int32)) ||| (128 : Int32)).toInt8.toInt32)), .val (Value.int (((vv.toUInt32 >>> ((7 : Int32) &&& 31).toUInt32).toInt32).toInt8.toInt32)), sI (0 : Int32), sI (8 : Int32), sR b_76] [(Value.int (1 : Int32))]))
          refine own_Go.by (fun tq kq => XS.ifNo X84.here hx rfl (hb hby at_436) rfl ((if0 _ _).trans (feq (by decide : ¬ ((1 : Int32) = (0 : Int32)))).1) kq) ?_
          refine own_Go.by (fun tq kq => XS.aload X84.here hx rfl (hb hby at_439) rfl rfl kq) ?_
          refine own_Go.by (fun tq kq => XS.bipush X84.here hx rfl (hb hby at_441) kq) ?_
          show own_Go _ _ _ _ (T84.setTop (mkF m 443 #[sI p1, sI p2, sI p3, sI p4, sI sel, sR aK, sI cd, sI vv, sI (0 : Int32), sR ob3, sR ob12, sR b_18, sR b_61, sI (2 : Int32), .val (Value.int (((vv &&& (127 : Int32)) ||| (128 : Int32)).toInt8.toInt32)), .val (Value.int (((vv.toUInt32 >>> ((7 : Int32) &&& 31).toUInt32).toInt32).toInt8.toInt32)), sI (0 : Int32), sI (8 : Int32), sR b_76] [(Value.int (6 : Int32)), (Value.ref b_76)]))
          obtain ⟨cl85, Ar85, q85, S85, M85, Hh85, G85⟩ := id p76_1
          refine own_Go.by (fun tq kq => X84.baloadBytes hx (j := (6 : Int32)) (v := (Value.int (((((vv.toInt64) &&& (127 : Int64)) ||| (128 : Int64)).toInt32).toInt8.toInt32))) (by rw [e84]; exact Ar85.1) (State.isArrayOf_alike hZ15.alike Ar85.2.1) Ar85.2.2 (inb_of S85 (by decide : ¬ ((6 : Int32) < (0 : Int32)) ∧ (6 : Int32) < (8 : Int32))) (Has.at Hh85 (inb_of S85 (by decide : ¬ ((6 : Int32) < (0 : Int32)) ∧ (6 : Int32) < (8 : Int32))) rfl) (g := (mkF m 443 #[sI p1, sI p2, sI p3, sI p4, sI sel, sR aK, sI cd, sI vv, sI (0 : Int32), sR ob3, sR ob12, sR b_18, sR b_61, sI (2 : Int32), .val (Value.int (((vv &&& (127 : Int32)) ||| (128 : Int32)).toInt8.toInt32)), .val (Value.int (((vv.toUInt32 >>> ((7 : Int32) &&& 31).toUInt32).toInt32).toInt8.toInt32)), sI (0 : Int32), sI (8 : Int32), sR b_76] [(Value.int (6 : Int32)), (Value.ref b_76)])) rfl rfl (hb hby at_443) _ kq) ?_
          refine own_Go.by (fun tq kq => XS.iload X84.here hx rfl (hb hby at_444) rfl kq) ?_
          show own_Go _ _ _ _ (T84.setTop (mkF m 446 #[sI p1, sI p2, sI p3, sI p4, sI sel, sR aK, sI cd, sI vv, sI (0 : Int32), sR ob3, sR ob12, sR b_18, sR b_61, sI (2 : Int32), .val (Value.int (((vv &&& (127 : Int32)) ||| (128 : Int32)).toInt8.toInt32)), .val (Value.int (((vv.toUInt32 >>> ((7 : Int32) &&& 31).toUInt32).toInt32).toInt8.toInt32)), sI (0 : Int32), sI (8 : Int32), sR b_76] [(Value.int (((vv &&& (127 : Int32)) ||| (128 : Int32)).toInt8.toInt32)), (Value.int (((((vv.toInt64) &&& (127 : Int64)) ||| (128 : Int64)).toInt32).toInt8.toInt32))]))
          refine own_Go.by (fun tq kq => XS.icmpNo X84.here hx rfl (hb hby at_446) rfl (teq (own_lo (own_e64 vv) : (((((vv.toInt64) &&& (127 : Int64)) ||| (128 : Int64)).toInt32).toInt8.toInt32) = (((vv &&& (127 : Int32)) ||| (128 : Int32)).toInt8.toInt32))).2 kq) ?_
          refine own_Go.by (fun tq kq => XS.aload X84.here hx rfl (hb hby at_449) rfl rfl kq) ?_
          show own_Go _ _ _ _ (T84.setTop (mkF m 451 #[sI p1, sI p2, sI p3, sI p4, sI sel, sR aK, sI cd, sI vv, sI (0 : Int32), sR ob3, sR ob12, sR b_18, sR b_61, sI (2 : Int32), .val (Value.int (((vv &&& (127 : Int32)) ||| (128 : Int32)).toInt8.toInt32)), .val (Value.int (((vv.toUInt32 >>> ((7 : Int32) &&& 31).toUInt32).toInt32).toInt8.toInt32)), sI (0 : Int32), sI (8 : Int32), sR b_76] [(Value.ref b_18)]))
          have c86 := (V74.keep K76q nin0)
          obtain ⟨cl87, Ar87, q87, S87, M87, Hh87, G87⟩ := id c86
          refine own_Go.by (fun tq kq => X84.arraylength hx (by rw [e84]; exact Ar87.1) (State.isArrayOf_alike hZ15.alike Ar87.2.1) (g := (mkF m 451 #[sI p1, sI p2, sI p3, sI p4, sI sel, sR aK, sI cd, sI vv, sI (0 : Int32), sR ob3, sR ob12, sR b_18, sR b_61, sI (2 : Int32), .val (Value.int (((vv &&& (127 : Int32)) ||| (128 : Int32)).toInt8.toInt32)), .val (Value.int (((vv.toUInt32 >>> ((7 : Int32) &&& 31).toUInt32).toInt32).toInt8.toInt32)), sI (0 : Int32), sI (8 : Int32), sR b_76] [(Value.ref b_18)])) rfl rfl (hb hby at_451) _ kq) ?_
          rw [len_of S87 M87]
          refine own_Go.by (fun tq kq => XS.bipush X84.here hx rfl (hb hby at_452) kq) ?_
          show own_Go _ _ _ _ (T84.setTop (mkF m 454 #[sI p1, sI p2, sI p3, sI p4, sI sel, sR aK, sI cd, sI vv, sI (0 : Int32), sR ob3, sR ob12, sR b_18, sR b_61, sI (2 : Int32), .val (Value.int (((vv &&& (127 : Int32)) ||| (128 : Int32)).toInt8.toInt32)), .val (Value.int (((vv.toUInt32 >>> ((7 : Int32) &&& 31).toUInt32).toInt32).toInt8.toInt32)), sI (0 : Int32), sI (8 : Int32), sR b_76] [(Value.int (6 : Int32)), (Value.int (6 : Int32))]))
          refine own_Go.by (fun tq kq => XS.icmpNo X84.here hx rfl (hb hby at_454) rfl (teq (by decide : (6 : Int32) = (6 : Int32))).2 kq) ?_
          refine own_Go.by (fun tq kq => XS.iconst X84.here hx rfl (hb hby at_457) kq) ?_
          refine own_Go.by (fun tq kq => XS.goto X84.here hx rfl (pc0 := 458) (pc' := 462) rfl (hb hby at_458) (by decide) (by decide) kq) ?_
          show own_Go _ _ _ _ (T84.setTop (mkF m 462 #[sI p1, sI p2, sI p3, sI p4, sI sel, sR aK, sI cd, sI vv, sI (0 : Int32), sR ob3, sR ob12, sR b_18, sR b_61, sI (2 : Int32), .val (Value.int (((vv &&& (127 : Int32)) ||| (128 : Int32)).toInt8.toInt32)), .val (Value.int (((vv.toUInt32 >>> ((7 : Int32) &&& 31).toUInt32).toInt32).toInt8.toInt32)), sI (0 : Int32), sI (8 : Int32), sR b_76] [(Value.int (1 : Int32))]))
          obtain ⟨fs, hr, hrun, hended, hRE⟩ := Stand.leaveW (s := s) (vm₁ := T15.vm) X84 hS15 (by rw [e84]; exact hk_81) (v := some (Value.int (nar .boolean (1 : Int32)))) (fun h => by rw [Bd.returns] at h; cases h)
          refine own_Go.fin (retN X84 hx (t := .boolean) Bd.returns (by simp) (hb hby at_462) hr) ⟨hrun, hended, _, _, rfl, ?_, own_rew hRE (by decide) (by decide)⟩
          show Q0 Z p1 p2 p3 p4 aW aD aF aM kM h0 n0 _ T84.heap _
          rw [e84]
          exact ⟨rfl, N84, K81⟩
        ·
          have hs2' := hs2
          rw [Int32.lt_iff_toInt_lt] at hs2'
          refine own_Go.by (fun tq kq => XS.aload X22.here hx rfl (hb hby at_130) rfl rfl kq) ?_
          refine own_Go.by (fun tq kq => XS.iload X22.here hx rfl (hb hby at_132) rfl kq) ?_
          refine own_Go.by (fun tq kq => XS.i2l X22.here hx rfl (hb hby at_134) rfl kq) ?_
          show own_Go _ _ _ _ (T22.setTop (mkF m 135 #[sI p1, sI p2, sI p3, sI p4, sI sel, sR aK, sI cd, sI vv, sI (0 : Int32), sR ob3, sR ob12, sR b_18, .unset, .unset, .unset, .unset, .unset, .unset, .unset] [(Value.long (vv.toInt64)), (Value.ref ob12)]))
          have c89 := (p15_1.keep K18q)
          have c90 := (p15_2.keep K18q nin0)
          have c91 := (p15_3.keep K18q nin0)
          have c92 := (p15_4.keep K18q nin0)
          obtain ⟨cq88, kq88, q88a, q88b, q88c⟩ := isOf hZ15 e22 c89
          obtain ⟨_, _, ⟨T88, L88, k88, n88⟩, -, X88, ⟨Lc88, hQ88, l88, y88, z88⟩, st88⟩ := X22.virtualBack hx (y := (⟨"com/example/ebbtide/ebbtide/core/Encoder", "unsigned", "(J)V"⟩ : MethodName)) (z := (⟨"com/example/ebbtide/ebbtide/core/Encoder", "unsigned", "(J)V"⟩ : MethodName)) hown15 (mvT hZ15 (hw _ (List.mem_of_getElem? (i := 76) rfl))) (mvT hZ15 (hw _ (List.mem_of_getElem? (i := 43) rfl))) (notFace_of_selects (args := #[]) (mvT hZ15 (hw _ (List.mem_of_getElem? (i := 45) rfl)))) (mvT hZ15 (hw _ (List.mem_of_getElem? (i := 45) rfl))) (mvT hZ15 (hw _ (List.mem_of_getElem? (i := 44) rfl))) (by decide) (backOf (W := 0) (rm6_3 l Z a0 hw [] ob12 b_15 k2_15 (own_hd cd) (vv.toInt64) T18.heap n0 O19 c89 c90 c91 c92 g14 g17 (Nat.ne_of_lt (Nat.lt_of_lt_of_le A12.lt p15_0)) (rfl : (own_hd cd).length = 256) (mt (own_m128 (by omega)).mp (by omega) : ¬ (((vv.toInt64) &&& (-128 : Int64)) = (0 : Int64))) (mt (own_m128 (by omega)).mp (by omega) : ¬ (((((vv.toInt64).toUInt64 >>> ((7 : Int32) &&& 0x3f).toInt64.toUInt64).toInt64) &&& (-128 : Int64)) = (0 : Int64))) ((own_m128 (by have := own_sh7 (x := (((vv.toInt64).toUInt64 >>> ((7 : Int32) &&& 0x3f).toInt64.toUInt64).toInt64)) (by omega); omega)).mpr (by have := own_sh7 (x := (((vv.toInt64).toUInt64 >>> ((7 : Int32) &&& 0x3f).toInt64.toUInt64).toInt64)) (by omega); omega) : ((((((vv.toInt64).toUInt64 >>> ((7 : Int32) &&& 0x3f).toInt64.toUInt64).toInt64).toUInt64 >>> ((7 : Int32) &&& 0x3f).toInt64.toUInt64).toInt64) &&& (-128 : Int64)) = (0 : Int64))) hZ15 (hw _ (List.mem_of_getElem? (i := 46) rfl)) (hw _ (List.mem_of_getElem? (i := 8) rfl)) (by decide) (by decide)) q88a q88c (g := (mkF m 135 #[sI p1, sI p2, sI p3, sI p4, sI sel, sR aK, sI cd, sI vv, sI (0 : Int32), sR ob3, sR ob12, sR b_18, .unset, .unset, .unset, .unset, .unset, .unset, .unset] [(Value.long (vv.toInt64)), (Value.ref ob12)])) rfl (by rw [hml]; rfl) (Steps.refl _) (argsL := [(Value.long (vv.toInt64))]) (rest := []) (lenOf own_pd5 rfl) rfl (by show 2 * 0 + _ ≤ _; exact Nat.le_of_eq rfl) (hb hby at_135) (fun _ _ => ⟨rfl, e22, (by decide : 6 + 0 ≤ _), (by decide : 616 + 0 ≤ _)⟩)
          dsimp only [Pt.U, Pt.locs, Pt.cells, Pt.slots] at X88 l88 y88 z88 st88 hQ88
          subst l88 y88 z88
          refine own_Go.by (fun tq kq => st88.trans kq) ?_
          obtain ⟨rfl, N88q, K88q, p88_0, p88_1, p88_2, p88_3⟩ := hQ88
          have N88 := Fr.app N22 N88q
          have O93 := O19.keep K88q (allS g14 (allS g17 all0))
          have K93 := K19.trans K88q (allS (Or.inr z14) (allS (Or.inr z17) all0))
          have hk_93 := Nat.le_trans hk_19 K88q.1
          refine own_Go.by (fun tq kq => XS.iload X88.here hx rfl (hb hby at_138) rfl kq) ?_
          show own_Go _ _ _ _ (T88.setTop (mkF m 140 #[sI p1, sI p2, sI p3, sI p4, sI sel, sR aK, sI cd, sI vv, sI (0 : Int32), sR ob3, sR ob12, sR b_18, .unset, .unset, .unset, .unset, .unset, .unset, .unset] [(Value.int (0 : Int32))]))
          refine own_Go.by (fun tq kq => XS.ifYes X88.here hx rfl (pc0 := 140) (pc' := 150) rfl (hb hby at_140) rfl ((if0 _ _).trans (teq (by decide : (0 : Int32) = (0 : Int32))).1) (by decide) (by decide) kq) ?_
          refine own_Go.by (fun tq kq => XS.aload X88.here hx rfl (hb hby at_150) rfl rfl kq) ?_
          show own_Go _ _ _ _ (T88.setTop (mkF m 152 #[sI p1, sI p2, sI p3, sI p4, sI sel, sR aK, sI cd, sI vv, sI (0 : Int32), sR ob3, sR ob12, sR b_18, .unset, .unset, .unset, .unset, .unset, .unset, .unset] [(Value.ref ob12)]))
          obtain ⟨cq94, kq94, q94a, q94b, q94c⟩ := isOf hZ15 rfl p88_0
          obtain ⟨_, _, ⟨T94, L94, k94, n94⟩, -, X94, ⟨Lc94, hQ94, l94, y94, z94⟩, st94⟩ := X88.virtualBack hx (y := (⟨"com/example/ebbtide/ebbtide/core/Encoder", "toByteArray", "()[B"⟩ : MethodName)) (z := (⟨"com/example/ebbtide/ebbtide/core/Encoder", "toByteArray", "()[B"⟩ : MethodName)) hown15 (mvT hZ15 (hw _ (List.mem_of_getElem? (i := 55) rfl))) (mvT hZ15 (hw _ (List.mem_of_getElem? (i := 56) rfl))) (notFace_of_selects (args := #[]) (mvT hZ15 (hw _ (List.mem_of_getElem? (i := 58) rfl)))) (mvT hZ15 (hw _ (List.mem_of_getElem? (i := 58) rfl))) (mvT hZ15 (hw _ (List.mem_of_getElem? (i := 57) rfl))) (by decide) (backOf (W := 0) (rm8_256_9 l Z a0 hw [] ob12 b_15 k2_15 ((((own_hd cd).set 6 (Value.int (((((vv.toInt64) &&& (127 : Int64)) ||| (128 : Int64)).toInt32).toInt8.toInt32))).set 7 (Value.int (((((((vv.toInt64).toUInt64 >>> ((7 : Int32) &&& 0x3f).toInt64.toUInt64).toInt64) &&& (127 : Int64)) ||| (128 : Int64)).toInt32).toInt8.toInt32))).set 8 (Value.int (((((((vv.toInt64).toUInt64 >>> ((7 : Int32) &&& 0x3f).toInt64.toUInt64).toInt64).toUInt64 >>> ((7 : Int32) &&& 0x3f).toInt64.toUInt64).toInt64).toInt32).toInt8.toInt32))) T88.heap n0 O93 p88_0 p88_1 p88_2 p88_3) hZ15 (hw _ (List.mem_of_getElem? (i := 59) rfl)) (hw _ (List.mem_of_getElem? (i := 8) rfl)) (by decide) (by decide)) q94a q94c (g := (mkF m 152 #[sI p1, sI p2, sI p3, sI p4, sI sel, sR aK, sI cd, sI vv, sI (0 : Int32), sR ob3, sR ob12, sR b_18, .unset, .unset, .unset, .unset, .unset, .unset, .unset] [(Value.ref ob12)])) rfl (by rw [hml]; rfl) (Steps.refl _) (argsL := []) (rest := []) (lenOf own_pd9 rfl) rfl (by show 2 * 0 + _ ≤ _; exact Nat.le_of_eq rfl) (hb hby at_152) (fun _ _ => ⟨rfl, rfl, (by decide : 6 + 1 ≤ _), (by decide : 616 + 9 ≤ _)⟩)
          dsimp only [Pt.U, Pt.locs, Pt.cells, Pt.slots] at X94 l94 y94 z94 st94 hQ94
          subst l94 y94 z94
          refine own_Go.by (fun tq kq => st94.trans kq) ?_
          obtain ⟨b_94, k2_94, rfl, N94q, K94q, p94_0, p94_1⟩ := hQ94
          have N94 := Fr.app N88 N94q
          have O95 := O93.keep K94q all0
          have K95 := K93.trans K94q all0
          have hk_95 := Nat.le_trans hk_93 K94q.1
          have g96 : n0 ≤ b_94 := Nat.le_trans (own_old_le O93) p94_0
          have z96 : h0.size ≤ b_94 := Nat.le_trans K93.1 p94_0
          refine own_Go.by (fun tq kq => XS.astore X94.here hx rfl (hb hby at_155) rfl rfl (l' := #[sI p1, sI p2, sI p3, sI p4, sI sel, sR aK, sI cd, sI vv, sI (0 : Int32), sR ob3, sR ob12, sR b_18, sR b_94, .unset, .unset, .unset, .unset, .unset, .unset]) rfl kq) ?_
          refine own_Go.by (fun tq kq => XS.iconst X94.here hx rfl (hb hby at_157) kq) ?_
          refine own_Go.by (fun tq kq => XS.istore X94.here hx rfl (hb hby at_158) rfl (l' := #[sI p1, sI p2, sI p3, sI p4, sI sel, sR aK, sI cd, sI vv, sI (0 : Int32), sR ob3, sR ob12, sR b_18, sR b_94, .unset, .unset, sI (0 : Int32), .unset, .unset, .unset]) rfl kq) ?_
          show own_Go _ _ _ _ (T94.setTop (mkF m 160 #[sI p1, sI p2, sI p3, sI p4, sI sel, sR aK, sI cd, sI vv, sI (0 : Int32), sR ob3, sR ob12, sR b_18, sR b_94, .unset, .unset, sI (0 : Int32), .unset, .unset, .unset] []))
          refine own_Go.by (fun tq kq => XS.iconst X94.here hx rfl (hb hby at_160) kq) ?_
          refine own_Go.by (fun tq kq => XS.istore X94.here hx rfl (hb hby at_161) rfl (l' := #[sI p1, sI p2, sI p3, sI p4, sI sel, sR aK, sI cd, sI vv, sI (0 : Int32), sR ob3, sR ob12, sR b_18, sR b_94, .unset, .unset, sI (0 : Int32), sI (0 : Int32), .unset, .unset]) rfl kq) ?_
          refine own_Go.by (fun tq kq => XS.iload X94.here hx rfl (hb hby at_163) rfl kq) ?_
          refine own_Go.by (fun tq kq => XS.sipush X94.here hx rfl (hb hby at_165) kq) ?_
          show own_Go _ _ _ _ (T94.setTop (mkF m 168 #[sI p1, sI p2, sI p3, sI p4, sI sel, sR aK, sI cd, sI vv, sI (0 : Int32), sR ob3, sR ob12, sR b_18, sR b_94, .unset, .unset, sI (0 : Int32), sI (0 : Int32), .unset, .unset] [(Value.int (128 : Int32)), (Value.int vv)]))
          refine own_Go.by (fun tq kq => XS.icmpYes X94.here hx rfl (pc0 := 168) (pc' := 182) rfl (hb hby at_168) rfl (flt hs1).2.1 (by decide) (by decide) kq) ?_
          refine own_Go.by (fun tq kq => XS.iload X94.here hx rfl (hb hby at_182) rfl kq) ?_
          refine own_Go.by (fun tq kq => XS.sipush X94.here hx rfl (hb hby at_184) kq) ?_
          show own_Go _ _ _ _ (T94.setTop (mkF m 187 #[sI p1, sI p2, sI p3, sI p4, sI sel, sR aK, sI cd, sI vv, sI (0 : Int32), sR ob3, sR ob12, sR b_18, sR b_94, .unset, .unset, sI (0 : Int32), sI (0 : Int32), .unset, .unset] [(Value.int (16384 : Int32)), (Value.int vv)]))
          refine own_Go.by (fun tq kq => XS.icmpYes X94.here hx rfl (pc0 := 187) (pc' := 216) rfl (hb hby at_187) rfl (flt hs2).2.1 (by decide) (by decide) kq) ?_
          refine own_Go.by (fun tq kq => XS.iconst X94.here hx rfl (hb hby at_216) kq) ?_
          refine own_Go.by (fun tq kq => XS.istore X94.here hx rfl (hb hby at_217) rfl (l' := #[sI p1, sI p2, sI p3, sI p4, sI sel, sR aK, sI cd, sI vv, sI (0 : Int32), sR ob3, sR ob12, sR b_18, sR b_94, sI (3 : Int32), .unset, sI (0 : Int32), sI (0 : Int32), .unset, .unset]) rfl kq) ?_
          refine own_Go.by (fun tq kq => XS.iload X94.here hx rfl (hb hby at_219) rfl kq) ?_
          show own_Go _ _ _ _ (T94.setTop (mkF m 221 #[sI p1, sI p2, sI p3, sI p4, sI sel, sR aK, sI cd, sI vv, sI (0 : Int32), sR ob3, sR ob12, sR b_18, sR b_94, sI (3 : Int32), .unset, sI (0 : Int32), sI (0 : Int32), .unset, .unset] [(Value.int vv)]))
          refine own_Go.by (fun tq kq => XS.bipush X94.here hx rfl (hb hby at_221) kq) ?_
          refine own_Go.by (fun tq kq => XS.iand X94.here hx rfl (hb hby at_223) rfl kq) ?_
          refine own_Go.by (fun tq kq => XS.sipush X94.here hx rfl (hb hby at_224) kq) ?_
          refine own_Go.by (fun tq kq => XS.ior X94.here hx rfl (hb hby at_227) rfl kq) ?_
          show own_Go _ _ _ _ (T94.setTop (mkF m 228 #[sI p1, sI p2, sI p3, sI p4, sI sel, sR aK, sI cd, sI vv, sI (0 : Int32), sR ob3, sR ob12, sR b_18, sR b_94, sI (3 : Int32), .unset, sI (0 : Int32), sI (0 : Int32), .unset, .unset] [(Value.int ((vv &&& (127 : Int32)) ||| (128 : Int32)))]))
          refine own_Go.by (fun tq kq => XS.i2b X94.here hx rfl (hb hby at_228) rfl kq) ?_
          refine own_Go.by (fun tq kq => XS.istore X94.here hx rfl (hb hby at_229) rfl (l' := #[sI p1, sI p2, sI p3, sI p4, sI sel, sR aK, sI cd, sI vv, sI (0 : Int32), sR ob3, sR ob12, sR b_18, sR b_94, sI (3 : Int32), .val (Value.int (((vv &&& (127 : Int32)) ||| (128 : Int32)).toInt8.toInt32)), sI (0 : Int32), sI (0 : Int32), .unset, .unset]) rfl kq) ?_
          refine own_Go.by (fun tq kq => XS.iload X94.here hx rfl (hb hby at_231) rfl kq) ?_
          refine own_Go.by (fun tq kq => XS.bipush X94.here hx rfl (hb hby at_233) kq) ?_
          show own_Go _ _ _ _ (T94.setTop (mkF m 235 #[sI p1, sI p2, sI p3, sI p4, sI sel, sR aK, sI cd, sI vv, sI (0 : Int32), sR ob3, sR ob12, sR b_18, sR b_94, sI (3 : Int32), .val (Value.int (((vv &&& (127 : Int32)) ||| (128 : Int32)).toInt8.toInt32)), sI (0 : Int32), sI (0 : Int32), .unset, .unset] [(Value.int (7 : Int32)), (Value.int vv)]))
          refine own_Go.by (fun tq kq => XS.iushr X94.here hx rfl (hb hby at_235) rfl kq) ?_
          refine own_Go.by (fun tq kq => XS.bipush X94.here hx rfl (hb hby at_236) kq) ?_
          refine own_Go.by (fun tq kq => XS.iand X94.here hx rfl (hb hby at_238) rfl kq) ?_
          refine own_Go.by (fun tq kq => XS.sipush X94.here hx rfl (hb hby at_239) kq) ?_
          show own_Go _ _ _ _ (T94.setTop (mkF m 242 #[sI p1, sI p2, sI p3, sI p4, sI sel, sR aK, sI cd, sI vv, sI (0 : Int32), sR ob3, sR ob12, sR b_18, sR b_94, sI (3 : Int32), .val (Value.int (((vv &&& (127 : Int32)) ||| (128 : Int32)).toInt8.toInt32)), sI (0 : Int32), sI (0 : Int32), .unset, .unset] [(Value.int (128 : Int32)), (Value.int (((vv.toUInt32 >>> ((7 : Int32) &&& 31).toUInt32).toInt32) &&& (127 : Int32)))]))
          refine own_Go.by (fun tq kq => XS.ior X94.here hx rfl (hb hby at_242) rfl kq) ?_
          refine own_Go.by (fun tq kq => XS.i2b X94.here hx rfl (hb hby at_243) rfl kq) ?_
          refine own_Go.by (fun tq kq => XS.istore X94.here hx rfl (hb hby at_244) rfl (l' := #[sI p1, sI p2, sI p3, sI p4, sI sel, sR aK, sI cd, sI vv, sI (0 : Int32), sR ob3, sR ob12, sR b_18, sR b_94, sI (3 : Int32), .val (Value.int (((vv &&& (127 : Int32)) ||| (128 : Int32)).toInt8.toInt32)), .val (Value.int (((((vv.toUInt32 >>> ((7 : Int32) &&& 31).toUInt32).toInt32) &&& (127 : Int32)) ||| (128 : Int32)).toInt8.toInt32)), sI (0 : Int32), .unset, .unset]) rfl kq) ?_
          refine own_Go.by (fun tq kq => XS.iload X94.here hx rfl (hb hby at_246) rfl kq) ?_
          show own_Go _ _ _ _ (T94.setTop (mkF m 248 #[sI p1, sI p2, sI p3, sI p4, sI sel, sR aK, sI cd, sI vv, sI (0 : Int32), sR ob3, sR ob12, sR b_18, sR b_94, sI (3 : Int32), .val (Value.int (((vv &&& (127 : Int32)) ||| (128 : Int32)).toInt8.toInt32)), .val (Value.int (((((vv.toUInt32 >>> ((7 : Int32) &&& 31).toUInt32).toInt32) &&& (127 : Int32)) ||| (128 : Int32)).toInt8.toInt32)), sI (0 : Int32), .unset, .unset] [(Value.int vv)]))
          refine own_Go.by (fun tq kq => XS.bipush X94.here hx rfl (hb hby at_248) kq) ?_
          refine own_Go.by (fun tq kq => XS.iushr X94.here hx rfl (hb hby at_250) rfl kq) ?_
          refine own_Go.by (fun tq kq => XS.i2b X94.here hx rfl (hb hby at_251) rfl kq) ?_
          refine own_Go.by (fun tq kq => XS.istore X94.here hx rfl (hb hby at_252) rfl (l' := #[sI p1, sI p2, sI p3, sI p4, sI sel, sR aK, sI cd, sI vv, sI (0 : Int32), sR ob3, sR ob12, sR b_18, sR b_94, sI (3 : Int32), .val (Value.int (((vv &&& (127 : Int32)) ||| (128 : Int32)).toInt8.toInt32)), .val (Value.int (((((vv.toUInt32 >>> ((7 : Int32) &&& 31).toUInt32).toInt32) &&& (127 : Int32)) ||| (128 : Int32)).toInt8.toInt32)), .val (Value.int (((vv.toUInt32 >>> ((14 : Int32) &&& 31).toUInt32).toInt32).toInt8.toInt32)), .unset, .unset]) rfl kq) ?_
          show own_Go _ _ _ _ (T94.setTop (mkF m 254 #[sI p1, sI p2, sI p3, sI p4, sI sel, sR aK, sI cd, sI vv, sI (0 : Int32), sR ob3, sR ob12, sR b_18, sR b_94, sI (3 : Int32), .val (Value.int (((vv &&& (127 : Int32)) ||| (128 : Int32)).toInt8.toInt32)), .val (Value.int (((((vv.toUInt32 >>> ((7 : Int32) &&& 31).toUInt32).toInt32) &&& (127 : Int32)) ||| (128 : Int32)).toInt8.toInt32)), .val (Value.int (((vv.toUInt32 >>> ((14 : Int32) &&& 31).toUInt32).toInt32).toInt8.toInt32)), .unset, .unset] []))
          refine own_Go.by (fun tq kq => XS.bipush X94.here hx rfl (hb hby at_254) kq) ?_
          refine own_Go.by (fun tq kq => XS.iload X94.here hx rfl (hb hby at_256) rfl kq) ?_
          refine own_Go.by (fun tq kq => XS.iadd X94.here hx rfl (hb hby at_258) rfl kq) ?_
          refine own_Go.by (fun tq kq => XS.iload X94.here hx rfl (hb hby at_259) rfl kq) ?_
          show own_Go _ _ _ _ (T94.setTop (mkF m 261 #[sI p1, sI p2, sI p3, sI p4, sI sel, sR aK, sI cd, sI vv, sI (0 : Int32), sR ob3, sR ob12, sR b_18, sR b_94, sI (3 : Int32), .val (Value.int (((vv &&& (127 : Int32)) ||| (128 : Int32)).toInt8.toInt32)), .val (Value.int (((((vv.toUInt32 >>> ((7 : Int32) &&& 31).toUInt32).toInt32) &&& (127 : Int32)) ||| (128 : Int32)).toInt8.toInt32)), .val (Value.int (((vv.toUInt32 >>> ((14 : Int32) &&& 31).toUInt32).toInt32).toInt8.toInt32)), .unset, .unset] [(Value.int (0 : Int32)), (Value.int (9 : Int32))]))
          refine own_Go.by (fun tq kq => XS.ifYes X94.here hx rfl (pc0 := 261) (pc' := 270) rfl (hb hby at_261) rfl ((if0 _ _).trans (teq (by decide : (0 : Int32) = (0 : Int32))).1) (by decide) (by decide) kq) ?_
          refine own_Go.by (fun tq kq => XS.iconst X94.here hx rfl (hb hby at_270) kq) ?_
          refine own_Go.by (fun tq kq => XS.iadd X94.here hx rfl (hb hby at_271) rfl kq) ?_
          refine own_Go.by (fun tq kq => XS.istore X94.here hx rfl (hb hby at_272) rfl (l' := #[sI p1, sI p2, sI p3, sI p4, sI sel, sR aK, sI cd, sI vv, sI (0 : Int32), sR ob3, sR ob12, sR b_18, sR b_94, sI (3 : Int32), .val (Value.int (((vv &&& (127 : Int32)) ||| (128 : Int32)).toInt8.toInt32)), .val (Value.int (((((vv.toUInt32 >>> ((7 : Int32) &&& 31).toUInt32).toInt32) &&& (127 : Int32)) ||| (128 : Int32)).toInt8.toInt32)), .val (Value.int (((vv.toUInt32 >>> ((14 : Int32) &&& 31).toUInt32).toInt32).toInt8.toInt32)), sI (9 : Int32), .unset]) rfl kq) ?_
          show own_Go _ _ _ _ (T94.setTop (mkF m 274 #[sI p1, sI p2, sI p3, sI p4, sI sel, sR aK, sI cd, sI vv, sI (0 : Int32), sR ob3, sR ob12, sR b_18, sR b_94, sI (3 : Int32), .val (Value.int (((vv &&& (127 : Int32)) ||| (128 : Int32)).toInt8.toInt32)), .val (Value.int (((((vv.toUInt32 >>> ((7 : Int32) &&& 31).toUInt32).toInt32) &&& (127 : Int32)) ||| (128 : Int32)).toInt8.toInt32)), .val (Value.int (((vv.toUInt32 >>> ((14 : Int32) &&& 31).toUInt32).toInt32).toInt8.toInt32)), sI (9 : Int32), .unset] []))
          refine own_Go.by (fun tq kq => XS.aload X94.here hx rfl (hb hby at_274) rfl rfl kq) ?_
          show own_Go _ _ _ _ (T94.setTop (mkF m 276 #[sI p1, sI p2, sI p3, sI p4, sI sel, sR aK, sI cd, sI vv, sI (0 : Int32), sR ob3, sR ob12, sR b_18, sR b_94, sI (3 : Int32), .val (Value.int (((vv &&& (127 : Int32)) ||| (128 : Int32)).toInt8.toInt32)), .val (Value.int (((((vv.toUInt32 >>> ((7 : Int32) &&& 31).toUInt32).toInt32) &&& (127 : Int32)) ||| (128 : Int32)).toInt8.toInt32)), .val (Value.int (((vv.toUInt32 >>> ((14 : Int32) &&& 31).toUInt32).toInt32).toInt8.toInt32)), sI (9 : Int32), .unset] [(Value.ref b_94)]))
          obtain ⟨cl97, Ar97, q97, S97, M97, Hh97, G97⟩ := id p94_1
          refine own_Go.by (fun tq kq => X94.arraylength hx Ar97.1 (State.isArrayOf_alike hZ15.alike Ar97.2.1) (g := (mkF m 276 #[sI p1, sI p2, sI p3, sI p4, sI sel, sR aK, sI cd, sI vv, sI (0 : Int32), sR ob3, sR ob12, sR b_18, sR b_94, sI (3 : Int32), .val (Value.int (((vv &&& (127 : Int32)) ||| (128 : Int32)).toInt8.toInt32)), .val (Value.int (((((vv.toUInt32 >>> ((7 : Int32) &&& 31).toUInt32).toInt32) &&& (127 : Int32)) ||| (128 : Int32)).toInt8.toInt32)), .val (Value.int (((vv.toUInt32 >>> ((14 : Int32) &&& 31).toUInt32).toInt32).toInt8.toInt32)), sI (9 : Int32), .unset] [(Value.ref b_94)])) rfl rfl (hb hby at_276) _ kq) ?_
          rw [len_of S97 M97]
          refine own_Go.by (fun tq kq => XS.iload X94.here hx rfl (hb hby at_277) rfl kq) ?_
          show own_Go _ _ _ _ (T94.setTop (mkF m 279 #[sI p1, sI p2, sI p3, sI p4, sI sel, sR aK, sI cd, sI vv, sI (0 : Int32), sR ob3, sR ob12, sR b_18, sR b_94, sI (3 : Int32), .val (Value.int (((vv &&& (127 : Int32)) ||| (128 : Int32)).toInt8.toInt32)), .val (Value.int (((((vv.toUInt32 >>> ((7 : Int32) &&& 31).toUInt32).toInt32) &&& (127 : Int32)) ||| (128 : Int32)).toInt8.toInt32)), .val (Value.int (((vv.toUInt32 >>> ((14 : Int32) &&& 31).toUInt32).toInt32).toInt8.toInt32)), sI (9 : Int32), .unset] [(Value.int (9 : Int32)), (Value.int (9 : Int32))]))
          refine own_Go.by (fun tq kq => XS.icmpNo X94.here hx rfl (hb hby at_279) rfl (teq (by decide : (9 : Int32) = (9 : Int32))).2 kq) ?_
          refine own_Go.by (fun tq kq => XS.aload X94.here hx rfl (hb hby at_282) rfl rfl kq) ?_
          refine own_Go.by (fun tq kq => XS.iload X94.here hx rfl (hb hby at_284) rfl kq) ?_
          show own_Go _ _ _ _ (T94.setTop (mkF m 286 #[sI p1, sI p2, sI p3, sI p4, sI sel, sR aK, sI cd, sI vv, sI (0 : Int32), sR ob3, sR ob12, sR b_18, sR b_94, sI (3 : Int32), .val (Value.int (((vv &&& (127 : Int32)) ||| (128 : Int32)).toInt8.toInt32)), .val (Value.int (((((vv.toUInt32 >>> ((7 : Int32) &&& 31).toUInt32).toInt32) &&& (127 : Int32)) ||| (128 : Int32)).toInt8.toInt32)), .val (Value.int (((vv.toUInt32 >>> ((14 : Int32) &&& 31).toUInt32).toInt32).toInt8.toInt32)), sI (9 : Int32), .unset] [(Value.int cd), (Value.ref b_94)]))
          obtain ⟨_, _, ⟨T98, L98, k98, n98⟩, -, X98, ⟨Lc98, hQ98, l98, y98, z98⟩, st98⟩ := Jvm.LawKit.callS X94 hx (y := (⟨"com/example/ebbtide/ebbtide/core/EncoderToByteArrayPinLaw", "header", "([BI)Z"⟩ : MethodName)) hown15 (mvT hZ15 (hw _ (List.mem_of_getElem? (i := 72) rfl))) (mvT hZ15 (hw _ (List.mem_of_getElem? (i := 73) rfl))) (mvT hZ15 (hw _ (List.mem_of_getElem? (i := 74) rfl))) (mvT hZ15 (hw _ (List.mem_of_getElem? (i := 75) rfl))) (by decide) (backOf (W := 0) (rm11 l Z a0 hw [] b_94 k2_94 (9 : Int32) (own_cp ((((own_hd cd).set 6 (Value.int (((((vv.toInt64) &&& (127 : Int64)) ||| (128 : Int64)).toInt32).toInt8.toInt32))).set 7 (Value.int (((((((vv.toInt64).toUInt64 >>> ((7 : Int32) &&& 0x3f).toInt64.toUInt64).toInt64) &&& (127 : Int64)) ||| (128 : Int64)).toInt32).toInt8.toInt32))).set 8 (Value.int (((((((vv.toInt64).toUInt64 >>> ((7 : Int32) &&& 0x3f).toInt64.toUInt64).toInt64).toUInt64 >>> ((7 : Int32) &&& 0x3f).toInt64.toUInt64).toInt64).toInt32).toInt8.toInt32))) 9) cd T94.heap n0 O95 p94_1 (by decide : ¬ ((9 : Int32) < (6 : Int32))) (by decide : ¬ ((0 : Int32) < (0 : Int32)) ∧ (0 : Int32) < (9 : Int32)) (by decide : ¬ ((1 : Int32) < (0 : Int32)) ∧ (1 : Int32) < (9 : Int32)) (by decide : ¬ ((2 : Int32) < (0 : Int32)) ∧ (2 : Int32) < (9 : Int32)) (by decide : ¬ ((3 : Int32) < (0 : Int32)) ∧ (3 : Int32) < (9 : Int32)) (by decide : ¬ ((4 : Int32) < (0 : Int32)) ∧ (4 : Int32) < (9 : Int32)) (by decide : ¬ ((5 : Int32) < (0 : Int32)) ∧ (5 : Int32) < (9 : Int32)) (rfl : (own_cp ((((own_hd cd).set 6 (Value.int (((((vv.toInt64) &&& (127 : Int64)) ||| (128 : Int64)).toInt32).toInt8.toInt32))).set 7 (Value.int (((((((vv.toInt64).toUInt64 >>> ((7 : Int32) &&& 0x3f).toInt64.toUInt64).toInt64) &&& (127 : Int64)) ||| (128 : Int64)).toInt32).toInt8.toInt32))).set 8 (Value.int (((((((vv.toInt64).toUInt64 >>> ((7 : Int32) &&& 0x3f).toInt64.toUInt64).toInt64).toUInt64 >>> ((7 : Int32) &&& 0x3f).toInt64.toUInt64).toInt64).toInt32).toInt8.toInt32))) 9).getD (0 : Int32).toNatClampNeg (Value.int (0 : Int32)) = (Value.int (69 : Int32))) (rfl : (own_cp ((((own_hd cd).set 6 (Value.int (((((vv.toInt64) &&& (127 : Int64)) ||| (128 : Int64)).toInt32).toInt8.toInt32))).set 7 (Value.int (((((((vv.toInt64).toUInt64 >>> ((7 : Int32) &&& 0x3f).toInt64.toUInt64).toInt64) &&& (127 : Int64)) ||| (128 : Int64)).toInt32).toInt8.toInt32))).set 8 (Value.int (((((((vv.toInt64).toUInt64 >>> ((7 : Int32) &&& 0x3f).toInt64.toUInt64).toInt64).toUInt64 >>> ((7 : Int32) &&& 0x3f).toInt64.toUInt64).toInt64).toInt32).toInt8.toInt32))) 9).getD (1 : Int32).toNatClampNeg (Value.int (0 : Int32)) = (Value.int (66 : Int32))) (rfl : (own_cp ((((own_hd cd).set 6 (Value.int (((((vv.toInt64) &&& (127 : Int64)) ||| (128 : Int64)).toInt32).toInt8.toInt32))).set 7 (Value.int (((((((vv.toInt64).toUInt64 >>> ((7 : Int32) &&& 0x3f).toInt64.toUInt64).toInt64) &&& (127 : Int64)) ||| (128 : Int64)).toInt32).toInt8.toInt32))).set 8 (Value.int (((((((vv.toInt64).toUInt64 >>> ((7 : Int32) &&& 0x3f).toInt64.toUInt64).toInt64).toUInt64 >>> ((7 : Int32) &&& 0x3f).toInt64.toUInt64).toInt64).toInt32).toInt8.toInt32))) 9).getD (2 : Int32).toNatClampNeg (Value.int (0 : Int32)) = (Value.int (66 : Int32))) (rfl : (own_cp ((((own_hd cd).set 6 (Value.int (((((vv.toInt64) &&& (127 : Int64)) ||| (128 : Int64)).toInt32).toInt8.toInt32))).set 7 (Value.int (((((((vv.toInt64).toUInt64 >>> ((7 : Int32) &&& 0x3f).toInt64.toUInt64).toInt64) &&& (127 : Int64)) ||| (128 : Int64)).toInt32).toInt8.toInt32))).set 8 (Value.int (((((((vv.toInt64).toUInt64 >>> ((7 : Int32) &&& 0x3f).toInt64.toUInt64).toInt64).toUInt64 >>> ((7 : Int32) &&& 0x3f).toInt64.toUInt64).toInt64).toInt32).toInt8.toInt32))) 9).getD (3 : Int32).toNatClampNeg (Value.int (0 : Int32)) = (Value.int (84 : Int32))) (rfl : (own_cp ((((own_hd cd).set 6 (Value.int (((((vv.toInt64) &&& (127 : Int64)) ||| (128 : Int64)).toInt32).toInt8.toInt32))).set 7 (Value.int (((((((vv.toInt64).toUInt64 >>> ((7 : Int32) &&& 0x3f).toInt64.toUInt64).toInt64) &&& (127 : Int64)) ||| (128 : Int64)).toInt32).toInt8.toInt32))).set 8 (Value.int (((((((vv.toInt64).toUInt64 >>> ((7 : Int32) &&& 0x3f).toInt64.toUInt64).toInt64).toUInt64 >>> ((7 : Int32) &&& 0x3f).toInt64.toUInt64).toInt64).toInt32).toInt8.toInt32))) 9).getD (4 : Int32).toNatClampNeg (Value.int (0 : Int32)) = (Value.int (3 : Int32))) (rfl : (own_cp ((((own_hd cd).set 6 (Value.int (((((vv.toInt64) &&& (127 : Int64)) ||| (128 : Int64)).toInt32).toInt8.toInt32))).set 7 (Value.int (((((((vv.toInt64).toUInt64 >>> ((7 : Int32) &&& 0x3f).toInt64.toUInt64).toInt64) &&& (127 : Int64)) ||| (128 : Int64)).toInt32).toInt8.toInt32))).set 8 (Value.int (((((((vv.toInt64).toUInt64 >>> ((7 : Int32) &&& 0x3f).toInt64.toUInt64).toInt64).toUInt64 >>> ((7 : Int32) &&& 0x3f).toInt64.toUInt64).toInt64).toInt32).toInt8.toInt32))) 9).getD (5 : Int32).toNatClampNeg (Value.int (0 : Int32)) = (Value.int cd))) hZ15 (hw _ (List.mem_of_getElem? (i := 75) rfl)) (hw _ (List.mem_of_getElem? (i := 74) rfl)) (by decide) (by decide)) (g := (mkF m 286 #[sI p1, sI p2, sI p3, sI p4, sI sel, sR aK, sI cd, sI vv, sI (0 : Int32), sR ob3, sR ob12, sR b_18, sR b_94, sI (3 : Int32), .val (Value.int (((vv &&& (127 : Int32)) ||| (128 : Int32)).toInt8.toInt32)), .val (Value.int (((((vv.toUInt32 >>> ((7 : Int32) &&& 31).toUInt32).toInt32) &&& (127 : Int32)) ||| (128 : Int32)).toInt8.toInt32)), .val (Value.int (((vv.toUInt32 >>> ((14 : Int32) &&& 31).toUInt32).toInt32).toInt8.toInt32)), sI (9 : Int32), .unset] [(Value.int cd), (Value.ref b_94)])) rfl (by rw [hml]; rfl) (argsL := [(Value.ref b_94), (Value.int cd)]) (rest := []) (lenOf own_pd10 rfl) rfl (by show 2 * 0 + _ ≤ _; exact Nat.le_of_eq rfl) (hb hby at_286) (fun _ _ => ⟨rfl, rfl, (by decide : 7 + 0 ≤ _), (by decide : 625 + 0 ≤ _)⟩)
          dsimp only [Pt.U, Pt.locs, Pt.cells, Pt.slots] at X98 l98 y98 z98 st98 hQ98
          subst l98 y98 z98
          refine own_Go.by st98 ?_
          obtain ⟨rfl, N98q, e98⟩ := hQ98
          have N98 := Fr.app N94 N98q
          show own_Go _ _ _ _ (T98.setTop (mkF m 289 #[sI p1, sI p2, sI p3, sI p4, sI sel, sR aK, sI cd, sI vv, sI (0 : Int32), sR ob3, sR ob12, sR b_18, sR b_94, sI (3 : Int32), .val (Value.int (((vv &&& (127 : Int32)) ||| (128 : Int32)).toInt8.toInt32)), .val (Value.int (((((vv.toUInt32 >>> ((7 : Int32) &&& 31).toUInt32).toInt32) &&& (127 : Int32)) ||| (128 : Int32)).toInt8.toInt32)), .val (Value.int (((vv.toUInt32 >>> ((14 : Int32) &&& 31).toUInt32).toInt32).toInt8.toInt32)), sI (9 : Int32), .unset] [(Value.int (1 : Int32))]))
          refine own_Go.by (fun tq kq => XS.ifYes X98.here hx rfl (pc0 := 289) (pc' := 294) rfl (hb hby at_289) rfl ((if0 _ _).trans (feq (by decide : ¬ ((1 : Int32) = (0 : Int32)))).2) (by decide) (by decide) kq) ?_
          refine own_Go.by (fun tq kq => XS.aload X98.here hx rfl (hb hby at_294) rfl rfl kq) ?_
          refine own_Go.by (fun tq kq => XS.bipush X98.here hx rfl (hb hby at_296) kq) ?_
          show own_Go _ _ _ _ (T98.setTop (mkF m 298 #[sI p1, sI p2, sI p3, sI p4, sI sel, sR aK, sI cd, sI vv, sI (0 : Int32), sR ob3, sR ob12, sR b_18, sR b_94, sI (3 : Int32), .val (Value.int (((vv &&& (127 : Int32)) ||| (128 : Int32)).toInt8.toInt32)), .val (Value.int (((((vv.toUInt32 >>> ((7 : Int32) &&& 31).toUInt32).toInt32) &&& (127 : Int32)) ||| (128 : Int32)).toInt8.toInt32)), .val (Value.int (((vv.toUInt32 >>> ((14 : Int32) &&& 31).toUInt32).toInt32).toInt8.toInt32)), sI (9 : Int32), .unset] [(Value.int (6 : Int32)), (Value.ref b_94)]))
          obtain ⟨cl99, Ar99, q99, S99, M99, Hh99, G99⟩ := id p94_1
          refine own_Go.by (fun tq kq => X98.baloadBytes hx (j := (6 : Int32)) (v := (Value.int (((((vv.toInt64) &&& (127 : Int64)) ||| (128 : Int64)).toInt32).toInt8.toInt32))) (by rw [e98]; exact Ar99.1) (State.isArrayOf_alike hZ15.alike Ar99.2.1) Ar99.2.2 (inb_of S99 (by decide : ¬ ((6 : Int32) < (0 : Int32)) ∧ (6 : Int32) < (9 : Int32))) (Has.at Hh99 (inb_of S99 (by decide : ¬ ((6 : Int32) < (0 : Int32)) ∧ (6 : Int32) < (9 : Int32))) rfl) (g := (mkF m 298 #[sI p1, sI p2, sI p3, sI p4, sI sel, sR aK, sI cd, sI vv, sI (0 : Int32), sR ob3, sR ob12, sR b_18, sR b_94, sI (3 : Int32), .val (Value.int (((vv &&& (127 : Int32)) ||| (128 : Int32)).toInt8.toInt32)), .val (Value.int (((((vv.toUInt32 >>> ((7 : Int32) &&& 31).toUInt32).toInt32) &&& (127 : Int32)) ||| (128 : Int32)).toInt8.toInt32)), .val (Value.int (((vv.toUInt32 >>> ((14 : Int32) &&& 31).toUInt32).toInt32).toInt8.toInt32)), sI (9 : Int32), .unset] [(Value.int (6 : Int32)), (Value.ref b_94)])) rfl rfl (hb hby at_298) _ kq) ?_
          refine own_Go.by (fun tq kq => XS.iload X98.here hx rfl (hb hby at_299) rfl kq) ?_
          show own_Go _ _ _ _ (T98.setTop (mkF m 301 #[sI p1, sI p2, sI p3, sI p4, sI sel, sR aK, sI cd, sI vv, sI (0 : Int32), sR ob3, sR ob12, sR b_18, sR b_94, sI (3 : Int32), .val (Value.int (((vv &&& (127 : Int32)) ||| (128 : Int32)).toInt8.toInt32)), .val (Value.int (((((vv.toUInt32 >>> ((7 : Int32) &&& 31).toUInt32).toInt32) &&& (127 : Int32)) ||| (128 : Int32)).toInt8.toInt32)), .val (Value.int (((vv.toUInt32 >>> ((14 : Int32) &&& 31).toUInt32).toInt32).toInt8.toInt32)), sI (9 : Int32), .unset] [(Value.int (((vv &&& (127 : Int32)) ||| (128 : Int32)).toInt8.toInt32)), (Value.int (((((vv.toInt64) &&& (127 : Int64)) ||| (128 : Int64)).toInt32).toInt8.toInt32))]))
          refine own_Go.by (fun tq kq => XS.icmpYes X98.here hx rfl (pc0 := 301) (pc' := 306) rfl (hb hby at_301) rfl (teq (own_lo (own_e64 vv) : (((((vv.toInt64) &&& (127 : Int64)) ||| (128 : Int64)).toInt32).toInt8.toInt32) = (((vv &&& (127 : Int32)) ||| (128 : Int32)).toInt8.toInt32))).1 (by decide) (by decide) kq) ?_
          refine own_Go.by (fun tq kq => XS.iload X98.here hx rfl (hb hby at_306) rfl kq) ?_
          refine own_Go.by (fun tq kq => XS.iconst X98.here hx rfl (hb hby at_308) kq) ?_
          show own_Go _ _ _ _ (T98.setTop (mkF m 309 #[sI p1, sI p2, sI p3, sI p4, sI sel, sR aK, sI cd, sI vv, sI (0 : Int32), sR ob3, sR ob12, sR b_18, sR b_94, sI (3 : Int32), .val (Value.int (((vv &&& (127 : Int32)) ||| (128 : Int32)).toInt8.toInt32)), .val (Value.int (((((vv.toUInt32 >>> ((7 : Int32) &&& 31).toUInt32).toInt32) &&& (127 : Int32)) ||| (128 : Int32)).toInt8.toInt32)), .val (Value.int (((vv.toUInt32 >>> ((14 : Int32) &&& 31).toUInt32).toInt32).toInt8.toInt32)), sI (9 : Int32), .unset] [(Value.int (2 : Int32)), (Value.int (3 : Int32))]))
          refine own_Go.by (fun tq kq => XS.icmpNo X98.here hx rfl (hb hby at_309) rfl (flt (by decide : ¬ ((3 : Int32) < (2 : Int32)))).1 kq) ?_
          refine own_Go.by (fun tq kq => XS.aload X98.here hx rfl (hb hby at_312) rfl rfl kq) ?_
          refine own_Go.by (fun tq kq => XS.bipush X98.here hx rfl (hb hby at_314) kq) ?_
          show own_Go _ _ _ _ (T98.setTop (mkF m 316 #[sI p1, sI p2, sI p3, sI p4, sI sel, sR aK, sI cd, sI vv, sI (0 : Int32), sR ob3, sR ob12, sR b_18, sR b_94, sI (3 : Int32), .val (Value.int (((vv &&& (127 : Int32)) ||| (128 : Int32)).toInt8.toInt32)), .val (Value.int (((((vv.toUInt32 >>> ((7 : Int32) &&& 31).toUInt32).toInt32) &&& (127 : Int32)) ||| (128 : Int32)).toInt8.toInt32)), .val (Value.int (((vv.toUInt32 >>> ((14 : Int32) &&& 31).toUInt32).toInt32).toInt8.toInt32)), sI (9 : Int32), .unset] [(Value.int (7 : Int32)), (Value.ref b_94)]))
          obtain ⟨cl100, Ar100, q100, S100, M100, Hh100, G100⟩ := id p94_1
          refine own_Go.by (fun tq kq => X98.baloadBytes hx (j := (7 : Int32)) (v := (Value.int (((((((vv.toInt64).toUInt64 >>> ((7 : Int32) &&& 0x3f).toInt64.toUInt64).toInt64) &&& (127 : Int64)) ||| (128 : Int64)).toInt32).toInt8.toInt32))) (by rw [e98]; exact Ar100.1) (State.isArrayOf_alike hZ15.alike Ar100.2.1) Ar100.2.2 (inb_of S100 (by decide : ¬ ((7 : Int32) < (0 : Int32)) ∧ (7 : Int32) < (9 : Int32))) (Has.at Hh100 (inb_of S100 (by decide : ¬ ((7 : Int32) < (0 : Int32)) ∧ (7 : Int32) < (9 : Int32))) rfl) (g := (mkF m 316 #[sI p1, sI p2, sI p3, sI p4, sI sel, sR aK, sI cd, sI vv, sI (0 : Int32), sR ob3, sR ob12, sR b_18, sR b_94, sI (3 : Int32), .val (Value.int (((vv &&& (127 : Int32)) ||| (128 : Int32)).toInt8.toInt32)), .val (Value.int (((((vv.toUInt32 >>> ((7 : Int32) &&& 31).toUInt32).toInt32) &&& (127 : Int32)) ||| (128 : Int32)).toInt8.toInt32)), .val (Value.int (((vv.toUInt32 >>> ((14 : Int32) &&& 31).toUInt32).toInt32).toInt8.toInt32)), sI (9 : Int32), .unset] [(Value.int (7 : Int32)), (Value.ref b_94)])) rfl rfl (hb hby at_316) _ kq) ?_
          refine own_Go.by (fun tq kq => XS.iload X98.here hx rfl (hb hby at_317) rfl kq) ?_
          show own_Go _ _ _ _ (T98.setTop (mkF m 319 #[sI p1, sI p2, sI p3, sI p4, sI sel, sR aK, sI cd, sI vv, sI (0 : Int32), sR ob3, sR ob12, sR b_18, sR b_94, sI (3 : Int32), .val (Value.int (((vv &&& (127 : Int32)) ||| (128 : Int32)).toInt8.toInt32)), .val (Value.int (((((vv.toUInt32 >>> ((7 : Int32) &&& 31).toUInt32).toInt32) &&& (127 : Int32)) ||| (128 : Int32)).toInt8.toInt32)), .val (Value.int (((vv.toUInt32 >>> ((14 : Int32) &&& 31).toUInt32).toInt32).toInt8.toInt32)), sI (9 : Int32), .unset] [(Value.int (((((vv.toUInt32 >>> ((7 : Int32) &&& 31).toUInt32).toInt32) &&& (127 : Int32)) ||| (128 : Int32)).toInt8.toInt32)), (Value.int (((((((vv.toInt64).toUInt64 >>> ((7 : Int32) &&& 0x3f).toInt64.toUInt64).toInt64) &&& (127 : Int64)) ||| (128 : Int64)).toInt32).toInt8.toInt32))]))
          refine own_Go.by (fun tq kq => XS.icmpYes X98.here hx rfl (pc0 := 319) (pc' := 324) rfl (hb hby at_319) rfl (teq (own_lo (own_s7 hv21) : (((((((vv.toInt64).toUInt64 >>> ((7 : Int32) &&& 0x3f).toInt64.toUInt64).toInt64) &&& (127 : Int64)) ||| (128 : Int64)).toInt32).toInt8.toInt32) = (((((vv.toUInt32 >>> ((7 : Int32) &&& 31).toUInt32).toInt32) &&& (127 : Int32)) ||| (128 : Int32)).toInt8.toInt32))).1 (by decide) (by decide) kq) ?_
          refine own_Go.by (fun tq kq => XS.iload X98.here hx rfl (hb hby at_324) rfl kq) ?_
          refine own_Go.by (fun tq kq => XS.iconst X98.here hx rfl (hb hby at_326) kq) ?_
          show own_Go _ _ _ _ (T98.setTop (mkF m 327 #[sI p1, sI p2, sI p3, sI p4, sI sel, sR aK, sI cd, sI vv, sI (0 : Int32), sR ob3, sR ob12, sR b_18, sR b_94, sI (3 : Int32), .val (Value.int (((vv &&& (127 : Int32)) ||| (128 : Int32)).toInt8.toInt32)), .val (Value.int (((((vv.toUInt32 >>> ((7 : Int32) &&& 31).toUInt32).toInt32) &&& (127 : Int32)) ||| (128 : Int32)).toInt8.toInt32)), .val (Value.int (((vv.toUInt32 >>> ((14 : Int32) &&& 31).toUInt32).toInt32).toInt8.toInt32)), sI (9 : Int32), .unset] [(Value.int (3 : Int32)), (Value.int (3 : Int32))]))
          refine own_Go.by (fun tq kq => XS.icmpNo X98.here hx rfl (hb hby at_327) rfl (flt (by decide : ¬ ((3 : Int32) < (3 : Int32)))).1 kq) ?_
          refine own_Go.by (fun tq kq => XS.aload X98.here hx rfl (hb hby at_330) rfl rfl kq) ?_
          refine own_Go.by (fun tq kq => XS.bipush X98.here hx rfl (hb hby at_332) kq) ?_
          show own_Go _ _ _ _ (T98.setTop (mkF m 334 #[sI p1, sI p2, sI p3, sI p4, sI sel, sR aK, sI cd, sI vv, sI (0 : Int32), sR ob3, sR ob12, sR b_18, sR b_94, sI (3 : Int32), .val (Value.int (((vv &&& (127 : Int32)) ||| (128 : Int32)).toInt8.toInt32)), .val (Value.int (((((vv.toUInt32 >>> ((7 : Int32) &&& 31).toUInt32).toInt32) &&& (127 : Int32)) ||| (128 : Int32)).toInt8.toInt32)), .val (Value.int (((vv.toUInt32 >>> ((14 : Int32) &&& 31).toUInt32).toInt32).toInt8.toInt32)), sI (9 : Int32), .unset] [(Value.int (8 : Int32)), (Value.ref b_94)]))
          obtain ⟨cl101, Ar101, q101, S101, M101, Hh101, G101⟩ := id p94_1
          refine own_Go.by (fun tq kq => X98.baloadBytes hx (j := (8 : Int32)) (v := (Value.int (((((((vv.toInt64).toUInt64 >>> ((7 : Int32) &&& 0x3f).toInt64.toUInt64).toInt64).toUInt64 >>> ((7 : Int32) &&& 0x3f).toInt64.toUInt64).toInt64).toInt32).toInt8.toInt32))) (by rw [e98]; exact Ar101.1) (State.isArrayOf_alike hZ15.alike Ar101.2.1) Ar101.2.2 (inb_of S101 (by decide : ¬ ((8 : Int32) < (0 : Int32)) ∧ (8 : Int32) < (9 : Int32))) (Has.at Hh101 (inb_of S101 (by decide : ¬ ((8 : Int32) < (0 : Int32)) ∧ (8 : Int32) < (9 : Int32))) rfl) (g := (mkF m 334 #[sI p1, sI p2, sI p3, sI p4, sI sel, sR aK, sI cd, sI vv, sI (0 : Int32), sR ob3, sR ob12, sR b_18, sR b_94, sI (3 : Int32), .val (Value.int (((vv &&& (127 : Int32)) ||| (128 : Int32)).toInt8.toInt32)), .val (Value.int (((((vv.toUInt32 >>> ((7 : Int32) &&& 31).toUInt32).toInt32) &&& (127 : Int32)) ||| (128 : Int32)).toInt8.toInt32)), .val (Value.int (((vv.toUInt32 >>> ((14 : Int32) &&& 31).toUInt32).toInt32).toInt8.toInt32)), sI (9 : Int32), .unset] [(Value.int (8 : Int32)), (Value.ref b_94)])) rfl rfl (hb hby at_334) _ kq) ?_
          refine own_Go.by (fun tq kq => XS.iload X98.here hx rfl (hb hby at_335) rfl kq) ?_
          show own_Go _ _ _ _ (T98.setTop (mkF m 337 #[sI p1, sI p2, sI p3, sI p4, sI sel, sR aK, sI cd, sI vv, sI (0 : Int32), sR ob3, sR ob12, sR b_18, sR b_94, sI (3 : Int32), .val (Value.int (((vv &&& (127 : Int32)) ||| (128 : Int32)).toInt8.toInt32)), .val (Value.int (((((vv.toUInt32 >>> ((7 : Int32) &&& 31).toUInt32).toInt32) &&& (127 : Int32)) ||| (128 : Int32)).toInt8.toInt32)), .val (Value.int (((vv.toUInt32 >>> ((14 : Int32) &&& 31).toUInt32).toInt32).toInt8.toInt32)), sI (9 : Int32), .unset] [(Value.int (((vv.toUInt32 >>> ((14 : Int32) &&& 31).toUInt32).toInt32).toInt8.toInt32)), (Value.int (((((((vv.toInt64).toUInt64 >>> ((7 : Int32) &&& 0x3f).toInt64.toUInt64).toInt64).toUInt64 >>> ((7 : Int32) &&& 0x3f).toInt64.toUInt64).toInt64).toInt32).toInt8.toInt32))]))
          refine own_Go.by (fun tq kq => XS.icmpYes X98.here hx rfl (pc0 := 337) (pc' := 342) rfl (hb hby at_337) rfl (teq ((congrArg (fun z : Int32 => z.toInt8.toInt32) (own_s14 hv21)) : (((((((vv.toInt64).toUInt64 >>> ((7 : Int32) &&& 0x3f).toInt64.toUInt64).toInt64).toUInt64 >>> ((7 : Int32) &&& 0x3f).toInt64.toUInt64).toInt64).toInt32).toInt8.toInt32) = (((vv.toUInt32 >>> ((14 : Int32) &&& 31).toUInt32).toInt32).toInt8.toInt32))).1 (by decide) (by decide) kq) ?_
          refine own_Go.by (fun tq kq => XS.iload X98.here hx rfl (hb hby at_342) rfl kq) ?_
          show own_Go _ _ _ _ (T98.setTop (mkF m 344 #[sI p1, sI p2, sI p3, sI p4, sI sel, sR aK, sI cd, sI vv, sI (0 : Int32), sR ob3, sR ob12, sR b_18, sR b_94, sI (3 : Int32), .val (Value.int (((vv &&& (127 : Int32)) ||| (128 : Int32)).toInt8.toInt32)), .val (Value.int (((((vv.toUInt32 >>> ((7 : Int32) &&& 31).toUInt32).toInt32) &&& (127 : Int32)) ||| (128 : Int32)).toInt8.toInt32)), .val (Value.int (((vv.toUInt32 >>> ((14 : Int32) &&& 31).toUInt32).toInt32).toInt8.toInt32)), sI (9 : Int32), .unset] [(Value.int (0 : Int32))]))
          refine own_Go.by (fun tq kq => XS.ifYes X98.here hx rfl (pc0 := 344) (pc' := 398) rfl (hb hby at_344) rfl ((if0 _ _).trans (teq (by decide : (0 : Int32) = (0 : Int32))).1) (by decide) (by decide) kq) ?_
          refine own_Go.by (fun tq kq => XS.aload X98.here hx rfl (hb hby at_398) rfl rfl kq) ?_
          refine own_Go.by (fun tq kq => XS.iconst X98.here hx rfl (hb hby at_400) kq) ?_
          refine own_Go.by (fun tq kq => XS.aload X98.here hx rfl (hb hby at_401) rfl rfl kq) ?_
          show own_Go _ _ _ _ (T98.setTop (mkF m 403 #[sI p1, sI p2, sI p3, sI p4, sI sel, sR aK, sI cd, sI vv, sI (0 : Int32), sR ob3, sR ob12, sR b_18, sR b_94, sI (3 : Int32), .val (Value.int (((vv &&& (127 : Int32)) ||| (128 : Int32)).toInt8.toInt32)), .val (Value.int (((((vv.toUInt32 >>> ((7 : Int32) &&& 31).toUInt32).toInt32) &&& (127 : Int32)) ||| (128 : Int32)).toInt8.toInt32)), .val (Value.int (((vv.toUInt32 >>> ((14 : Int32) &&& 31).toUInt32).toInt32).toInt8.toInt32)), sI (9 : Int32), .unset] [(Value.ref b_94), (Value.int (0 : Int32)), (Value.ref b_94)]))
          refine own_Go.by (fun tq kq => XS.iconst X98.here hx rfl (hb hby at_403) kq) ?_
          show own_Go _ _ _ _ (T98.setTop (mkF m 404 #[sI p1, sI p2, sI p3, sI p4, sI sel, sR aK, sI cd, sI vv, sI (0 : Int32), sR ob3, sR ob12, sR b_18, sR b_94, sI (3 : Int32), .val (Value.int (((vv &&& (127 : Int32)) ||| (128 : Int32)).toInt8.toInt32)), .val (Value.int (((((vv.toUInt32 >>> ((7 : Int32) &&& 31).toUInt32).toInt32) &&& (127 : Int32)) ||| (128 : Int32)).toInt8.toInt32)), .val (Value.int (((vv.toUInt32 >>> ((14 : Int32) &&& 31).toUInt32).toInt32).toInt8.toInt32)), sI (9 : Int32), .unset] [(Value.int (0 : Int32)), (Value.ref b_94), (Value.int (0 : Int32)), (Value.ref b_94)]))
          obtain ⟨cl102, Ar102, q102, S102, M102, Hh102, G102⟩ := id p94_1
          refine own_Go.by (fun tq kq => X98.baloadBytes hx (j := (0 : Int32)) (v := (Value.int (69 : Int32))) (by rw [e98]; exact Ar102.1) (State.isArrayOf_alike hZ15.alike Ar102.2.1) Ar102.2.2 (inb_of S102 (by decide : ¬ ((0 : Int32) < (0 : Int32)) ∧ (0 : Int32) < (9 : Int32))) (Has.at Hh102 (inb_of S102 (by decide : ¬ ((0 : Int32) < (0 : Int32)) ∧ (0 : Int32) < (9 : Int32))) rfl) (g := (mkF m 404 #[sI p1, sI p2, sI p3, sI p4, sI sel, sR aK, sI cd, sI vv, sI (0 : Int32), sR ob3, sR ob12, sR b_18, sR b_94, sI (3 : Int32), .val (Value.int (((vv &&& (127 : Int32)) ||| (128 : Int32)).toInt8.toInt32)), .val (Value.int (((((vv.toUInt32 >>> ((7 : Int32) &&& 31).toUInt32).toInt32) &&& (127 : Int32)) ||| (128 : Int32)).toInt8.toInt32)), .val (Value.int (((vv.toUInt32 >>> ((14 : Int32) &&& 31).toUInt32).toInt32).toInt8.toInt32)), sI (9 : Int32), .unset] [(Value.int (0 : Int32)), (Value.ref b_94), (Value.int (0 : Int32)), (Value.ref b_94)])) rfl rfl (hb hby at_404) _ kq) ?_
          refine own_Go.by (fun tq kq => XS.iconst X98.here hx rfl (hb hby at_405) kq) ?_
          refine own_Go.by (fun tq kq => XS.iadd X98.here hx rfl (hb hby at_406) rfl kq) ?_
          refine own_Go.by (fun tq kq => XS.i2b X98.here hx rfl (hb hby at_407) rfl kq) ?_
          show own_Go _ _ _ _ (T98.setTop (mkF m 408 #[sI p1, sI p2, sI p3, sI p4, sI sel, sR aK, sI cd, sI vv, sI (0 : Int32), sR ob3, sR ob12, sR b_18, sR b_94, sI (3 : Int32), .val (Value.int (((vv &&& (127 : Int32)) ||| (128 : Int32)).toInt8.toInt32)), .val (Value.int (((((vv.toUInt32 >>> ((7 : Int32) &&& 31).toUInt32).toInt32) &&& (127 : Int32)) ||| (128 : Int32)).toInt8.toInt32)), .val (Value.int (((vv.toUInt32 >>> ((14 : Int32) &&& 31).toUInt32).toInt32).toInt8.toInt32)), sI (9 : Int32), .unset] [(Value.int ((70 : Int32).toInt8.toInt32)), (Value.int (0 : Int32)), (Value.ref b_94)]))
          obtain ⟨cl103, Ar103, q103, S103, M103, Hh103, G103⟩ := id p94_1
          obtain ⟨T104, h104, X104, e104, W104, st104⟩ := stB X98 hx hZ15 e98 Ar103 (j := (0 : Int32)) (inb_of S103 ⟨(by decide : ¬ ((0 : Int32) < (0 : Int32))), (by decide : (0 : Int32) < (9 : Int32))⟩) (g := (mkF m 408 #[sI p1, sI p2, sI p3, sI p4, sI sel, sR aK, sI cd, sI vv, sI (0 : Int32), sR ob3, sR ob12, sR b_18, sR b_94, sI (3 : Int32), .val (Value.int (((vv &&& (127 : Int32)) ||| (128 : Int32)).toInt8.toInt32)), .val (Value.int (((((vv.toUInt32 >>> ((7 : Int32) &&& 31).toUInt32).toInt32) &&& (127 : Int32)) ||| (128 : Int32)).toInt8.toInt32)), .val (Value.int (((vv.toUInt32 >>> ((14 : Int32) &&& 31).toUInt32).toInt32).toInt8.toInt32)), sI (9 : Int32), .unset] [(Value.int ((70 : Int32).toInt8.toInt32)), (Value.int (0 : Int32)), (Value.ref b_94)])) rfl rfl (hb hby at_408)
          refine own_Go.by st104 ?_
          have N104 := Fr.snoc X104 N98 g96
          have O105 := O95.wr W104 g96
          have K105 := K95.wr W104 (Or.inr z96)
          have hk_105 := Nat.le_trans hk_95 (Keep.of_wr W104).1
          rw [show nar .byte ((70 : Int32).toInt8.toInt32) = ((70 : Int32).toInt8.toInt32) from own_b8 _] at W104
          have V104 : Arv Z h104 b_94 k2_94 .byte (9 : Int32) ((own_cp ((((own_hd cd).set 6 (Value.int (((((vv.toInt64) &&& (127 : Int64)) ||| (128 : Int64)).toInt32).toInt8.toInt32))).set 7 (Value.int (((((((vv.toInt64).toUInt64 >>> ((7 : Int32) &&& 0x3f).toInt64.toUInt64).toInt64) &&& (127 : Int64)) ||| (128 : Int64)).toInt32).toInt8.toInt32))).set 8 (Value.int (((((((vv.toInt64).toUInt64 >>> ((7 : Int32) &&& 0x3f).toInt64.toUInt64).toInt64).toUInt64 >>> ((7 : Int32) &&& 0x3f).toInt64.toUInt64).toInt64).toInt32).toInt8.toInt32))) 9).set 0 (Value.int ((70 : Int32).toInt8.toInt32))) (Value.int (0 : Int32)) := Arv.set Ar103 q103 S103 M103 Hh103 G103 (own_fitB (own_b8 _)) W104 0 (rfl) (Nat.le_of_ble_eq_true rfl)
          refine own_Go.by (fun tq kq => XS.aload X104.here hx rfl (hb hby at_409) rfl rfl kq) ?_
          refine own_Go.by (fun tq kq => XS.iconst X104.here hx rfl (hb hby at_411) kq) ?_
          refine own_Go.by (fun tq kq => XS.iconst X104.here hx rfl (hb hby at_412) kq) ?_
          show own_Go _ _ _ _ (T104.setTop (mkF m 413 #[sI p1, sI p2, sI p3, sI p4, sI sel, sR aK, sI cd, sI vv, sI (0 : Int32), sR ob3, sR ob12, sR b_18, sR b_94, sI (3 : Int32), .val (Value.int (((vv &&& (127 : Int32)) ||| (128 : Int32)).toInt8.toInt32)), .val (Value.int (((((vv.toUInt32 >>> ((7 : Int32) &&& 31).toUInt32).toInt32) &&& (127 : Int32)) ||| (128 : Int32)).toInt8.toInt32)), .val (Value.int (((vv.toUInt32 >>> ((14 : Int32) &&& 31).toUInt32).toInt32).toInt8.toInt32)), sI (9 : Int32), .unset] [(Value.int (0 : Int32)), (Value.int (1 : Int32)), (Value.ref b_18)]))
          have c106 := (((p18_1.keep K88q (ninS (Ne.symm (Nat.ne_of_lt (Nat.lt_of_lt_of_le A12.lt (Nat.le_trans K15q.1 p18_0)))) (ninS (Ne.symm (Nat.ne_of_lt (Nat.lt_of_lt_of_le p15_4.lt p18_0))) nin0))).keep K94q nin0).other W104 (Nat.ne_of_lt (Nat.lt_of_lt_of_le p18_1.lt (Nat.le_trans K88q.1 p94_0))))
          obtain ⟨cl107, Ar107, q107, S107, M107, Hh107, G107⟩ := id c106
          obtain ⟨T108, h108, X108, e108, W108, st108⟩ := stB X104 hx hZ15 e104 Ar107 (j := (1 : Int32)) (inb_of S107 ⟨(by decide : ¬ ((1 : Int32) < (0 : Int32))), (by decide : (1 : Int32) < (6 : Int32))⟩) (g := (mkF m 413 #[sI p1, sI p2, sI p3, sI p4, sI sel, sR aK, sI cd, sI vv, sI (0 : Int32), sR ob3, sR ob12, sR b_18, sR b_94, sI (3 : Int32), .val (Value.int (((vv &&& (127 : Int32)) ||| (128 : Int32)).toInt8.toInt32)), .val (Value.int (((((vv.toUInt32 >>> ((7 : Int32) &&& 31).toUInt32).toInt32) &&& (127 : Int32)) ||| (128 : Int32)).toInt8.toInt32)), .val (Value.int (((vv.toUInt32 >>> ((14 : Int32) &&& 31).toUInt32).toInt32).toInt8.toInt32)), sI (9 : Int32), .unset] [(Value.int (0 : Int32)), (Value.int (1 : Int32)), (Value.ref b_18)])) rfl rfl (hb hby at_413)
          refine own_Go.by st108 ?_
          have N108 := Fr.snoc X108 N104 g20
          have O109 := O105.wr W108 g20
          have K109 := K105.wr W108 (Or.inr z20)
          have hk_109 := Nat.le_trans hk_105 (Keep.of_wr W108).1
          rw [show nar .byte (0 : Int32) = (0 : Int32) from (rfl : ((0 : Int32).toInt8.toInt32) = (0 : Int32))] at W108
          have V108 : Arv Z h108 b_18 k2_18 .byte (6 : Int32) ((own_cp (own_hd cd) 6).set 1 (Value.int (0 : Int32))) (Value.int (0 : Int32)) := Arv.set Ar107 q107 S107 M107 Hh107 G107 (own_fitB ((rfl : ((0 : Int32).toInt8.toInt32) = (0 : Int32)))) W108 1 (rfl) (Nat.le_of_ble_eq_true rfl)
          refine own_Go.by (fun tq kq => XS.aload X108.here hx rfl (hb hby at_414) rfl rfl kq) ?_
          show own_Go _ _ _ _ (T108.setTop (mkF m 416 #[sI p1, sI p2, sI p3, sI p4, sI sel, sR aK, sI cd, sI vv, sI (0 : Int32), sR ob3, sR ob12, sR b_18, sR b_94, sI (3 : Int32), .val (Value.int (((vv &&& (127 : Int32)) ||| (128 : Int32)).toInt8.toInt32)), .val (Value.int (((((vv.toUInt32 >>> ((7 : Int32) &&& 31).toUInt32).toInt32) &&& (127 : Int32)) ||| (128 : Int32)).toInt8.toInt32)), .val (Value.int (((vv.toUInt32 >>> ((14 : Int32) &&& 31).toUInt32).toInt32).toInt8.toInt32)), sI (9 : Int32), .unset] [(Value.ref ob12)]))
          have c111 := (((p88_0.keep K94q).wr W104).wr W108)
          have c112 := (((p88_1.keep K94q nin0).other W104 (Or.inl (Nat.ne_of_lt (Nat.lt_of_lt_of_le A12.lt (Nat.le_trans K15q.1 (Nat.le_trans K18q.1 (Nat.le_trans K88q.1 p94_0))))))).other W108 (Or.inl (Nat.ne_of_lt (Nat.lt_of_lt_of_le A12.lt (Nat.le_trans K15q.1 p18_0)))))
          have c113 := (((p88_2.keep K94q nin0).other W104 (Or.inl (Nat.ne_of_lt (Nat.lt_of_lt_of_le A12.lt (Nat.le_trans K15q.1 (Nat.le_trans K18q.1 (Nat.le_trans K88q.1 p94_0))))))).other W108 (Or.inl (Nat.ne_of_lt (Nat.lt_of_lt_of_le A12.lt (Nat.le_trans K15q.1 p18_0)))))
          have c114 := (((p88_3.keep K94q nin0).other W104 (Nat.ne_of_lt (Nat.lt_of_lt_of_le p15_4.lt (Nat.le_trans K18q.1 (Nat.le_trans K88q.1 p94_0))))).other W108 (Nat.ne_of_lt (Nat.lt_of_lt_of_le p15_4.lt p18_0)))
          obtain ⟨cq110, kq110, q110a, q110b, q110c⟩ := isOf hZ15 e108 c111
          obtain ⟨_, _, ⟨T110, L110, k110, n110⟩, -, X110, ⟨Lc110, hQ110, l110, y110, z110⟩, st110⟩ := X108.virtualBack hx (y := (⟨"com/example/ebbtide/ebbtide/core/Encoder", "toByteArray", "()[B"⟩ : MethodName)) (z := (⟨"com/example/ebbtide/ebbtide/core/Encoder", "toByteArray", "()[B"⟩ : MethodName)) hown15 (mvT hZ15 (hw _ (List.mem_of_getElem? (i := 55) rfl))) (mvT hZ15 (hw _ (List.mem_of_getElem? (i := 56) rfl))) (notFace_of_selects (args := #[]) (mvT hZ15 (hw _ (List.mem_of_getElem? (i := 58) rfl)))) (mvT hZ15 (hw _ (List.mem_of_getElem? (i := 58) rfl))) (mvT hZ15 (hw _ (List.mem_of_getElem? (i := 57) rfl))) (by decide) (backOf (W := 0) (rm8_256_9 l Z a0 hw [] ob12 b_15 k2_15 ((((own_hd cd).set 6 (Value.int (((((vv.toInt64) &&& (127 : Int64)) ||| (128 : Int64)).toInt32).toInt8.toInt32))).set 7 (Value.int (((((((vv.toInt64).toUInt64 >>> ((7 : Int32) &&& 0x3f).toInt64.toUInt64).toInt64) &&& (127 : Int64)) ||| (128 : Int64)).toInt32).toInt8.toInt32))).set 8 (Value.int (((((((vv.toInt64).toUInt64 >>> ((7 : Int32) &&& 0x3f).toInt64.toUInt64).toInt64).toUInt64 >>> ((7 : Int32) &&& 0x3f).toInt64.toUInt64).toInt64).toInt32).toInt8.toInt32))) h108 n0 O109 c111 c112 c113 c114) hZ15 (hw _ (List.mem_of_getElem? (i := 59) rfl)) (hw _ (List.mem_of_getElem? (i := 8) rfl)) (by decide) (by decide)) q110a q110c (g := (mkF m 416 #[sI p1, sI p2, sI p3, sI p4, sI sel, sR aK, sI cd, sI vv, sI (0 : Int32), sR ob3, sR ob12, sR b_18, sR b_94, sI (3 : Int32), .val (Value.int (((vv &&& (127 : Int32)) ||| (128 : Int32)).toInt8.toInt32)), .val (Value.int (((((vv.toUInt32 >>> ((7 : Int32) &&& 31).toUInt32).toInt32) &&& (127 : Int32)) ||| (128 : Int32)).toInt8.toInt32)), .val (Value.int (((vv.toUInt32 >>> ((14 : Int32) &&& 31).toUInt32).toInt32).toInt8.toInt32)), sI (9 : Int32), .unset] [(Value.ref ob12)])) rfl (by rw [hml]; rfl) (Steps.refl _) (argsL := []) (rest := []) (lenOf own_pd9 rfl) rfl (by show 2 * 0 + _ ≤ _; exact Nat.le_of_eq rfl) (hb hby at_416) (fun _ _ => ⟨rfl, e108, (by decide : 7 + 1 ≤ _), (by decide : 625 + 9 ≤ _)⟩)
          dsimp only [Pt.U, Pt.locs, Pt.cells, Pt.slots] at X110 l110 y110 z110 st110 hQ110
          subst l110 y110 z110
          refine own_Go.by (fun tq kq => st110.trans kq) ?_
          obtain ⟨b_110, k2_110, rfl, N110q, K110q, p110_0, p110_1⟩ := hQ110
          have N110 := Fr.app N108 N110q
          have O115 := O109.keep K110q all0
          have K115 := K109.trans K110q all0
          have hk_115 := Nat.le_trans hk_109 K110q.1
          have g116 : n0 ≤ b_110 := Nat.le_trans (own_old_le O109) p110_0
          have z116 : h0.size ≤ b_110 := Nat.le_trans K109.1 p110_0
          refine own_Go.by (fun tq kq => XS.astore X110.here hx rfl (hb hby at_419) rfl rfl (l' := #[sI p1, sI p2, sI p3, sI p4, sI sel, sR aK, sI cd, sI vv, sI (0 : Int32), sR ob3, sR ob12, sR b_18, sR b_94, sI (3 : Int32), .val (Value.int (((vv &&& (127 : Int32)) ||| (128 : Int32)).toInt8.toInt32)), .val (Value.int (((((vv.toUInt32 >>> ((7 : Int32) &&& 31).toUInt32).toInt32) &&& (127 : Int32)) ||| (128 : Int32)).toInt8.toInt32)), .val (Value.int (((vv.toUInt32 >>> ((14 : Int32) &&& 31).toUInt32).toInt32).toInt8.toInt32)), sI (9 : Int32), sR b_110]) rfl kq) ?_
          refine own_Go.by (fun tq kq => XS.aload X110.here hx rfl (hb hby at_421) rfl rfl kq) ?_
          show own_Go _ _ _ _ (T110.setTop (mkF m 423 #[sI p1, sI p2, sI p3, sI p4, sI sel, sR aK, sI cd, sI vv, sI (0 : Int32), sR ob3, sR ob12, sR b_18, sR b_94, sI (3 : Int32), .val (Value.int (((vv &&& (127 : Int32)) ||| (128 : Int32)).toInt8.toInt32)), .val (Value.int (((((vv.toUInt32 >>> ((7 : Int32) &&& 31).toUInt32).toInt32) &&& (127 : Int32)) ||| (128 : Int32)).toInt8.toInt32)), .val (Value.int (((vv.toUInt32 >>> ((14 : Int32) &&& 31).toUInt32).toInt32).toInt8.toInt32)), sI (9 : Int32), sR b_110] [(Value.ref b_110)]))
          obtain ⟨cl117, Ar117, q117, S117, M117, Hh117, G117⟩ := id p110_1
          refine own_Go.by (fun tq kq => X110.arraylength hx Ar117.1 (State.isArrayOf_alike hZ15.alike Ar117.2.1) (g := (mkF m 423 #[sI p1, sI p2, sI p3, sI p4, sI sel, sR aK, sI cd, sI vv, sI (0 : Int32), sR ob3, sR ob12, sR b_18, sR b_94, sI (3 : Int32), .val (Value.int (((vv &&& (127 : Int32)) ||| (128 : Int32)).toInt8.toInt32)), .val (Value.int (((((vv.toUInt32 >>> ((7 : Int32) &&& 31).toUInt32).toInt32) &&& (127 : Int32)) ||| (128 : Int32)).toInt8.toInt32)), .val (Value.int (((vv.toUInt32 >>> ((14 : Int32) &&& 31).toUInt32).toInt32).toInt8.toInt32)), sI (9 : Int32), sR b_110] [(Value.ref b_110)])) rfl rfl (hb hby at_423) _ kq) ?_
          rw [len_of S117 M117]
          refine own_Go.by (fun tq kq => XS.iload X110.here hx rfl (hb hby at_424) rfl kq) ?_
          show own_Go _ _ _ _ (T110.setTop (mkF m 426 #[sI p1, sI p2, sI p3, sI p4, sI sel, sR aK, sI cd, sI vv, sI (0 : Int32), sR ob3, sR ob12, sR b_18, sR b_94, sI (3 : Int32), .val (Value.int (((vv &&& (127 : Int32)) ||| (128 : Int32)).toInt8.toInt32)), .val (Value.int (((((vv.toUInt32 >>> ((7 : Int32) &&& 31).toUInt32).toInt32) &&& (127 : Int32)) ||| (128 : Int32)).toInt8.toInt32)), .val (Value.int (((vv.toUInt32 >>> ((14 : Int32) &&& 31).toUInt32).toInt32).toInt8.toInt32)), sI (9 : Int32), sR b_110] [(Value.int (9 : Int32)), (Value.int (9 : Int32))]))
          refine own_Go.by (fun tq kq => XS.icmpNo X110.here hx rfl (hb hby at_426) rfl (teq (by decide : (9 : Int32) = (9 : Int32))).2 kq) ?_
          refine own_Go.by (fun tq kq => XS.aload X110.here hx rfl (hb hby at_429) rfl rfl kq) ?_
          refine own_Go.by (fun tq kq => XS.iload X110.here hx rfl (hb hby at_431) rfl kq) ?_
          show own_Go _ _ _ _ (T110.setTop (mkF m 433 #[sI p1, sI p2, sI p3, sI p4, sI sel, sR aK, sI cd, sI vv, sI (0 : Int32), sR ob3, sR ob12, sR b_18, sR b_94, sI (3 : Int32), .val (Value.int (((vv &&& (127 : Int32)) ||| (128 : Int32)).toInt8.toInt32)), .val (Value.int (((((vv.toUInt32 >>> ((7 : Int32) &&& 31).toUInt32).toInt32) &&& (127 : Int32)) ||| (128 : Int32)).toInt8.toInt32)), .val (Value.int (((vv.toUInt32 >>> ((14 : Int32) &&& 31).toUInt32).toInt32).toInt8.toInt32)), sI (9 : Int32), sR b_110] [(Value.int cd), (Value.ref b_110)]))
          obtain ⟨_, _, ⟨T118, L118, k118, n118⟩, -, X118, ⟨Lc118, hQ118, l118, y118, z118⟩, st118⟩ := Jvm.LawKit.callS X110 hx (y := (⟨"com/example/ebbtide/ebbtide/core/EncoderToByteArrayPinLaw", "header", "([BI)Z"⟩ : MethodName)) hown15 (mvT hZ15 (hw _ (List.mem_of_getElem? (i := 72) rfl))) (mvT hZ15 (hw _ (List.mem_of_getElem? (i := 73) rfl))) (mvT hZ15 (hw _ (List.mem_of_getElem? (i := 74) rfl))) (mvT hZ15 (hw _ (List.mem_of_getElem? (i := 75) rfl))) (by decide) (backOf (W := 0) (rm11 l Z a0 hw [] b_110 k2_110 (9 : Int32) (own_cp ((((own_hd cd).set 6 (Value.int (((((vv.toInt64) &&& (127 : Int64)) ||| (128 : Int64)).toInt32).toInt8.toInt32))).set 7 (Value.int (((((((vv.toInt64).toUInt64 >>> ((7 : Int32) &&& 0x3f).toInt64.toUInt64).toInt64) &&& (127 : Int64)) ||| (128 : Int64)).toInt32).toInt8.toInt32))).set 8 (Value.int (((((((vv.toInt64).toUInt64 >>> ((7 : Int32) &&& 0x3f).toInt64.toUInt64).toInt64).toUInt64 >>> ((7 : Int32) &&& 0x3f).toInt64.toUInt64).toInt64).toInt32).toInt8.toInt32))) 9) cd T110.heap n0 O115 p110_1 (by decide : ¬ ((9 : Int32) < (6 : Int32))) (by decide : ¬ ((0 : Int32) < (0 : Int32)) ∧ (0 : Int32) < (9 : Int32)) (by decide : ¬ ((1 : Int32) < (0 : Int32)) ∧ (1 : Int32) < (9 : Int32)) (by decide : ¬ ((2 : Int32) < (0 : Int32)) ∧ (2 : Int32) < (9 : Int32)) (by decide : ¬ ((3 : Int32) < (0 : Int32)) ∧ (3 : Int32) < (9 : Int32)) (by decide : ¬ ((4 : Int32) < (0 : Int32)) ∧ (4 : Int32) < (9 : Int32)) (by decide : ¬ ((5 : Int32) < (0 : Int32)) ∧ (5 : Int32) < (9 : Int32)) (rfl : (own_cp ((((own_hd cd).set 6 (Value.int (((((vv.toInt64) &&& (127 : Int64)) ||| (128 : Int64)).toInt32).toInt8.toInt32))).set 7 (Value.int (((((((vv.toInt64).toUInt64 >>> ((7 : Int32) &&& 0x3f).toInt64.toUInt64).toInt64) &&& (127 : Int64)) ||| (128 : Int64)).toInt32).toInt8.toInt32))).set 8 (Value.int (((((((vv.toInt64).toUInt64 >>> ((7 : Int32) &&& 0x3f).toInt64.toUInt64).toInt64).toUInt64 >>> ((7 : Int32) &&& 0x3f).toInt64.toUInt64).toInt64).toInt32).toInt8.toInt32))) 9).getD (0 : Int32).toNatClampNeg (Value.int (0 : Int32)) = (Value.int (69 : Int32))) (rfl : (own_cp ((((own_hd cd).set 6 (Value.int (((((vv.toInt64) &&& (127 : Int64)) ||| (128 : Int64)).toInt32).toInt8.toInt32))).set 7 (Value.int (((((((vv.toInt64).toUInt64 >>> ((7 : Int32) &&& 0x3f).toInt64.toUInt64).toInt64) &&& (127 : Int64)) ||| (128 : Int64)).toInt32).toInt8.toInt32))).set 8 (Value.int (((((((vv.toInt64).toUInt64 >>> ((7 : Int32) &&& 0x3f).toInt64.toUInt64).toInt64).toUInt64 >>> ((7 : Int32) &&& 0x3f).toInt64.toUInt64).toInt64).toInt32).toInt8.toInt32))) 9).getD (1 : Int32).toNatClampNeg (Value.int (0 : Int32)) = (Value.int (66 : Int32))) (rfl : (own_cp ((((own_hd cd).set 6 (Value.int (((((vv.toInt64) &&& (127 : Int64)) ||| (128 : Int64)).toInt32).toInt8.toInt32))).set 7 (Value.int (((((((vv.toInt64).toUInt64 >>> ((7 : Int32) &&& 0x3f).toInt64.toUInt64).toInt64) &&& (127 : Int64)) ||| (128 : Int64)).toInt32).toInt8.toInt32))).set 8 (Value.int (((((((vv.toInt64).toUInt64 >>> ((7 : Int32) &&& 0x3f).toInt64.toUInt64).toInt64).toUInt64 >>> ((7 : Int32) &&& 0x3f).toInt64.toUInt64).toInt64).toInt32).toInt8.toInt32))) 9).getD (2 : Int32).toNatClampNeg (Value.int (0 : Int32)) = (Value.int (66 : Int32))) (rfl : (own_cp ((((own_hd cd).set 6 (Value.int (((((vv.toInt64) &&& (127 : Int64)) ||| (128 : Int64)).toInt32).toInt8.toInt32))).set 7 (Value.int (((((((vv.toInt64).toUInt64 >>> ((7 : Int32) &&& 0x3f).toInt64.toUInt64).toInt64) &&& (127 : Int64)) ||| (128 : Int64)).toInt32).toInt8.toInt32))).set 8 (Value.int (((((((vv.toInt64).toUInt64 >>> ((7 : Int32) &&& 0x3f).toInt64.toUInt64).toInt64).toUInt64 >>> ((7 : Int32) &&& 0x3f).toInt64.toUInt64).toInt64).toInt32).toInt8.toInt32))) 9).getD (3 : Int32).toNatClampNeg (Value.int (0 : Int32)) = (Value.int (84 : Int32))) (rfl : (own_cp ((((own_hd cd).set 6 (Value.int (((((vv.toInt64) &&& (127 : Int64)) ||| (128 : Int64)).toInt32).toInt8.toInt32))).set 7 (Value.int (((((((vv.toInt64).toUInt64 >>> ((7 : Int32) &&& 0x3f).toInt64.toUInt64).toInt64) &&& (127 : Int64)) ||| (128 : Int64)).toInt32).toInt8.toInt32))).set 8 (Value.int (((((((vv.toInt64).toUInt64 >>> ((7 : Int32) &&& 0x3f).toInt64.toUInt64).toInt64).toUInt64 >>> ((7 : Int32) &&& 0x3f).toInt64.toUInt64).toInt64).toInt32).toInt8.toInt32))) 9).getD (4 : Int32).toNatClampNeg (Value.int (0 : Int32)) = (Value.int (3 : Int32))) (rfl : (own_cp ((((own_hd cd).set 6 (Value.int (((((vv.toInt64) &&& (127 : Int64)) ||| (128 : Int64)).toInt32).toInt8.toInt32))).set 7 (Value.int (((((((vv.toInt64).toUInt64 >>> ((7 : Int32) &&& 0x3f).toInt64.toUInt64).toInt64) &&& (127 : Int64)) ||| (128 : Int64)).toInt32).toInt8.toInt32))).set 8 (Value.int (((((((vv.toInt64).toUInt64 >>> ((7 : Int32) &&& 0x3f).toInt64.toUInt64).toInt64).toUInt64 >>> ((7 : Int32) &&& 0x3f).toInt64.toUInt64).toInt64).toInt32).toInt8.toInt32))) 9).getD (5 : Int32).toNatClampNeg (Value.int (0 : Int32)) = (Value.int cd))) hZ15 (hw _ (List.mem_of_getElem? (i := 75) rfl)) (hw _ (List.mem_of_getElem? (i := 74) rfl)) (by decide) (by decide)) (g := (mkF m 433 #[sI p1, sI p2, sI p3, sI p4, sI sel, sR aK, sI cd, sI vv, sI (0 : Int32), sR ob3, sR ob12, sR b_18, sR b_94, sI (3 : Int32), .val (Value.int (((vv &&& (127 : Int32)) ||| (128 : Int32)).toInt8.toInt32)), .val (Value.int (((((vv.toUInt32 >>> ((7 : Int32) &&& 31).toUInt32).toInt32) &&& (127 : Int32)) ||| (128 : Int32)).toInt8.toInt32)), .val (Value.int (((vv.toUInt32 >>> ((14 : Int32) &&& 31).toUInt32).toInt32).toInt8.toInt32)), sI (9 : Int32), sR b_110] [(Value.int cd), (Value.ref b_110)])) rfl (by rw [hml]; rfl) (argsL := [(Value.ref b_110), (Value.int cd)]) (rest := []) (lenOf own_pd10 rfl) rfl (by show 2 * 0 + _ ≤ _; exact Nat.le_of_eq rfl) (hb hby at_433) (fun _ _ => ⟨rfl, rfl, (by decide : 8 + 0 ≤ _), (by decide : 634 + 0 ≤ _)⟩)
          dsimp only [Pt.U, Pt.locs, Pt.cells, Pt.slots] at X118 l118 y118 z118 st118 hQ118
          subst l118 y118 z118
          refine own_Go.by st118 ?_
          obtain ⟨rfl, N118q, e118⟩ := hQ118
          have N118 := Fr.app N110 N118q
          show own_Go _ _ _ _ (T118.setTop (mkF m 436 #[sI p1, sI p2, sI p3, sI p4, sI sel, sR aK, sI cd, sI vv, sI (0 : Int32), sR ob3, sR ob12, sR b_18, sR b_94, sI (3 : Int32), .val (Value.int (((vv &&& (127 : Int32)) ||| (128 : Int32)).toInt8.toInt32)), .val (Value.int (((((vv.toUInt32 >>> ((7 : Int32) &&& 31).toUInt32).toInt32) &&& (127 : Int32)) ||| (128 : Int32)).toInt8.toInt32)), .val (Value.int (((vv.toUInt32 >>> ((14 : Int32) &&& 31).toUInt32).toInt32).toInt8.toInt32)), sI (9 : Int32), sR b_110] [(Value.int (1 : Int32))]))
          refine own_Go.by (fun tq kq => XS.ifNo X118.here hx rfl (hb hby at_436) rfl ((if0 _ _).trans (feq (by decide : ¬ ((1 : Int32) = (0 : Int32)))).1) kq) ?_
          refine own_Go.by (fun tq kq => XS.aload X118.here hx rfl (hb hby at_439) rfl rfl kq) ?_
          refine own_Go.by (fun tq kq => XS.bipush X118.here hx rfl (hb hby at_441) kq) ?_
          show own_Go _ _ _ _ (T118.setTop (mkF m 443 #[sI p1, sI p2, sI p3, sI p4, sI sel, sR aK, sI cd, sI vv, sI (0 : Int32), sR ob3, sR ob12, sR b_18, sR b_94, sI (3 : Int32), .val (Value.int (((vv &&& (127 : Int32)) ||| (128 : Int32)).toInt8.toInt32)), .val (Value.int (((((vv.toUInt32 >>> ((7 : Int32) &&& 31).toUInt32).toInt32) &&& (127 : Int32)) ||| (128 : Int32)).toInt8.toInt32)), .val (Value.int (((vv.toUInt32 >>> ((14 : Int32) &&& 31).toUInt32).toInt32).toInt8.toInt32)), sI (9 : Int32), sR b_110] [(Value.int (6 : Int32)), (Value.ref b_110)]))
          obtain ⟨cl119, Ar119, q119, S119, M119, Hh119, G119⟩ := id p110_1
          refine own_Go.by (fun tq kq => X118.baloadBytes hx (j := (6 : Int32)) (v := (Value.int (((((vv.toInt64) &&& (127 : Int64)) ||| (128 : Int64)).toInt32).toInt8.toInt32))) (by rw [e118]; exact Ar119.1) (State.isArrayOf_alike hZ15.alike Ar119.2.1) Ar119.2.2 (inb_of S119 (by decide : ¬ ((6 : Int32) < (0 : Int32)) ∧ (6 : Int32) < (9 : Int32))) (Has.at Hh119 (inb_of S119 (by decide : ¬ ((6 : Int32) < (0 : Int32)) ∧ (6 : Int32) < (9 : Int32))) rfl) (g := (mkF m 443 #[sI p1, sI p2, sI p3, sI p4, sI sel, sR aK, sI cd, sI vv, sI (0 : Int32), sR ob3, sR ob12, sR b_18, sR b_94, sI (3 : Int32), .val (Value.int (((vv &&& (127 : Int32)) ||| (128 : Int32)).toInt8.toInt32)), .val (Value.int (((((vv.toUInt32 >>> ((7 : Int32) &&& 31).toUInt32).toInt32) &&& (127 : Int32)) ||| (128 : Int32)).toInt8.toInt32)), .val (Value.int (((vv.toUInt32 >>> ((14 : Int32) &&& 31).toUInt32).toInt32).toInt8.toInt32)), sI (9 : Int32), sR b_110] [(Value.int (6 : Int32)), (Value.ref b_110)])) rfl rfl (hb hby at_443) _ kq) ?_
          refine own_Go.by (fun tq kq => XS.iload X118.here hx rfl (hb hby at_444) rfl kq) ?_
          show own_Go _ _ _ _ (T118.setTop (mkF m 446 #[sI p1, sI p2, sI p3, sI p4, sI sel, sR aK, sI cd, sI vv, sI (0 : Int32), sR ob3, sR ob12, sR b_18, sR b_94, sI (3 : Int32), .val (Value.int (((vv &&& (127 : Int32)) ||| (128 : Int32)).toInt8.toInt32)), .val (Value.int (((((vv.toUInt32 >>> ((7 : Int32) &&& 31).toUInt32).toInt32) &&& (127 : Int32)) ||| (128 : Int32)).toInt8.toInt32)), .val (Value.int (((vv.toUInt32 >>> ((14 : Int32) &&& 31).toUInt32).toInt32).toInt8.toInt32)), sI (9 : Int32), sR b_110] [(Value.int (((vv &&& (127 : Int32)) ||| (128 : Int32)).toInt8.toInt32)), (Value.int (((((vv.toInt64) &&& (127 : Int64)) ||| (128 : Int64)).toInt32).toInt8.toInt32))]))
          refine own_Go.by (fun tq kq => XS.icmpNo X118.here hx rfl (hb hby at_446) rfl (teq (own_lo (own_e64 vv) : (((((vv.toInt64) &&& (127 : Int64)) ||| (128 : Int64)).toInt32).toInt8.toInt32) = (((vv &&& (127 : Int32)) ||| (128 : Int32)).toInt8.toInt32))).2 kq) ?_
          refine own_Go.by (fun tq kq => XS.aload X118.here hx rfl (hb hby at_449) rfl rfl kq) ?_
          show own_Go _ _ _ _ (T118.setTop (mkF m 451 #[sI p1, sI p2, sI p3, sI p4, sI sel, sR aK, sI cd, sI vv, sI (0 : Int32), sR ob3, sR ob12, sR b_18, sR b_94, sI (3 : Int32), .val (Value.int (((vv &&& (127 : Int32)) ||| (128 : Int32)).toInt8.toInt32)), .val (Value.int (((((vv.toUInt32 >>> ((7 : Int32) &&& 31).toUInt32).toInt32) &&& (127 : Int32)) ||| (128 : Int32)).toInt8.toInt32)), .val (Value.int (((vv.toUInt32 >>> ((14 : Int32) &&& 31).toUInt32).toInt32).toInt8.toInt32)), sI (9 : Int32), sR b_110] [(Value.ref b_18)]))
          have c120 := (V108.keep K110q nin0)
          obtain ⟨cl121, Ar121, q121, S121, M121, Hh121, G121⟩ := id c120
          refine own_Go.by (fun tq kq => X118.arraylength hx (by rw [e118]; exact Ar121.1) (State.isArrayOf_alike hZ15.alike Ar121.2.1) (g := (mkF m 451 #[sI p1, sI p2, sI p3, sI p4, sI sel, sR aK, sI cd, sI vv, sI (0 : Int32), sR ob3, sR ob12, sR b_18, sR b_94, sI (3 : Int32), .val (Value.int (((vv &&& (127 : Int32)) ||| (128 : Int32)).toInt8.toInt32)), .val (Value.int (((((vv.toUInt32 >>> ((7 : Int32) &&& 31).toUInt32).toInt32) &&& (127 : Int32)) ||| (128 : Int32)).toInt8.toInt32)), .val (Value.int (((vv.toUInt32 >>> ((14 : Int32) &&& 31).toUInt32).toInt32).toInt8.toInt32)), sI (9 : Int32), sR b_110] [(Value.ref b_18)])) rfl rfl (hb hby at_451) _ kq) ?_
          rw [len_of S121 M121]
          refine own_Go.by (fun tq kq => XS.bipush X118.here hx rfl (hb hby at_452) kq) ?_
          show own_Go _ _ _ _ (T118.setTop (mkF m 454 #[sI p1, sI p2, sI p3, sI p4, sI sel, sR aK, sI cd, sI vv, sI (0 : Int32), sR ob3, sR ob12, sR b_18, sR b_94, sI (3 : Int32), .val (Value.int (((vv &&& (127 : Int32)) ||| (128 : Int32)).toInt8.toInt32)), .val (Value.int (((((vv.toUInt32 >>> ((7 : Int32) &&& 31).toUInt32).toInt32) &&& (127 : Int32)) ||| (128 : Int32)).toInt8.toInt32)), .val (Value.int (((vv.toUInt32 >>> ((14 : Int32) &&& 31).toUInt32).toInt32).toInt8.toInt32)), sI (9 : Int32), sR b_110] [(Value.int (6 : Int32)), (Value.int (6 : Int32))]))
          refine own_Go.by (fun tq kq => XS.icmpNo X118.here hx rfl (hb hby at_454) rfl (teq (by decide : (6 : Int32) = (6 : Int32))).2 kq) ?_
          refine own_Go.by (fun tq kq => XS.iconst X118.here hx rfl (hb hby at_457) kq) ?_
          refine own_Go.by (fun tq kq => XS.goto X118.here hx rfl (pc0 := 458) (pc' := 462) rfl (hb hby at_458) (by decide) (by decide) kq) ?_
          show own_Go _ _ _ _ (T118.setTop (mkF m 462 #[sI p1, sI p2, sI p3, sI p4, sI sel, sR aK, sI cd, sI vv, sI (0 : Int32), sR ob3, sR ob12, sR b_18, sR b_94, sI (3 : Int32), .val (Value.int (((vv &&& (127 : Int32)) ||| (128 : Int32)).toInt8.toInt32)), .val (Value.int (((((vv.toUInt32 >>> ((7 : Int32) &&& 31).toUInt32).toInt32) &&& (127 : Int32)) ||| (128 : Int32)).toInt8.toInt32)), .val (Value.int (((vv.toUInt32 >>> ((14 : Int32) &&& 31).toUInt32).toInt32).toInt8.toInt32)), sI (9 : Int32), sR b_110] [(Value.int (1 : Int32))]))
          obtain ⟨fs, hr, hrun, hended, hRE⟩ := Stand.leaveW (s := s) (vm₁ := T15.vm) X118 hS15 (by rw [e118]; exact hk_115) (v := some (Value.int (nar .boolean (1 : Int32)))) (fun h => by rw [Bd.returns] at h; cases h)
          refine own_Go.fin (retN X118 hx (t := .boolean) Bd.returns (by simp) (hb hby at_462) hr) ⟨hrun, hended, _, _, rfl, ?_, own_rew hRE (by decide) (by decide)⟩
          show Q0 Z p1 p2 p3 p4 aW aD aF aM kM h0 n0 _ T118.heap _
          rw [e118]
          exact ⟨rfl, N118, K115⟩
    ·
      refine own_Go.by (fun tq kq => XS.ifNo X1.here hx rfl (hb hby at_58) rfl ((if0 _ _).trans (feq hc58_2).1) kq) ?_
      refine own_Go.by (fun tq kq => XS.iconst X1.here hx rfl (hb hby at_61) kq) ?_
      refine own_Go.by (fun tq kq => XS.goto X1.here hx rfl (pc0 := 62) (pc' := 66) rfl (hb hby at_62) (by decide) (by decide) kq) ?_
      refine own_Go.by (fun tq kq => XS.istore X1.here hx rfl (hb hby at_66) rfl (l' := #[sI p1, sI p2, sI p3, sI p4, sI sel, sR aK, sI cd, sI vv, sI (1 : Int32), .unset, .unset, .unset, .unset, .unset, .unset, .unset, .unset, .unset, .unset]) rfl kq) ?_
      show own_Go _ _ _ _ (T1.setTop (mkF m 68 #[sI p1, sI p2, sI p3, sI p4, sI sel, sR aK, sI cd, sI vv, sI (1 : Int32), .unset, .unset, .unset, .unset, .unset, .unset, .unset, .unset, .unset, .unset] []))
      refine own_Go.by (fun tq kq => XS.sipush X1.here hx rfl (hb hby at_68) kq) ?_
      show own_Go _ _ _ _ (T1.setTop (mkF m 71 #[sI p1, sI p2, sI p3, sI p4, sI sel, sR aK, sI cd, sI vv, sI (1 : Int32), .unset, .unset, .unset, .unset, .unset, .unset, .unset, .unset, .unset, .unset] [(Value.int (300 : Int32))]))
      obtain ⟨T122, h122, k122, X122, e122, E122, A122, Ea122, st122⟩ := newPE X1 hx hZ (hw _ (List.mem_of_getElem? (i := 5) rfl)) e1 (g := (mkF m 71 #[sI p1, sI p2, sI p3, sI p4, sI sel, sR aK, sI cd, sI vv, sI (1 : Int32), .unset, .unset, .unset, .unset, .unset, .unset, .unset, .unset, .unset, .unset] [(Value.int (300 : Int32))])) rfl (hb hby at_71) rfl (by decide : ¬ ((300 : Int32) < (0 : Int32))) (cap := 300) (by decide : (300 : Int32).toNatClampNeg ≤ 300) (by decide) (by decide) (by decide) (ad := "[B") rfl
      obtain ⟨ob122, y122⟩ : ∃ z, z = h0.size := ⟨_, rfl⟩
      rw [← y122] at A122 Ea122 st122
      refine own_Go.by st122 ?_
      have O123 := O0.ext E122
      have K123 := K0.ext E122
      have g124 : n0 ≤ ob122 := Nat.le_trans (own_old_le O0) (Nat.le_of_eq y122.symm)
      have z124 : h0.size ≤ ob122 := Nat.le_trans K0.1 (Nat.le_of_eq y122.symm)
      have V122 : Arv Z h122 ob122 k122 .byte (300 : Int32) (List.replicate 300 (Value.int (0 : Int32))) (Value.int (0 : Int32)) := (Arv.new A122 (by decide : ¬ ((300 : Int32) < (0 : Int32)))).pad (pad_rep [] (Value.int (0 : Int32)) 300)
      refine own_Go.by (fun tq kq => XS.astore X122.here hx rfl (hb hby at_73) rfl rfl (l' := #[sI p1, sI p2, sI p3, sI p4, sI sel, sR aK, sI cd, sI vv, sI (1 : Int32), sR ob122, .unset, .unset, .unset, .unset, .unset, .unset, .unset, .unset, .unset]) rfl kq) ?_
      refine own_Go.by (fun tq kq => XS.aload X122.here hx rfl (hb hby at_75) rfl rfl kq) ?_
      refine own_Go.by (fun tq kq => XS.iconst X122.here hx rfl (hb hby at_77) kq) ?_
      show own_Go _ _ _ _ (T122.setTop (mkF m 78 #[sI p1, sI p2, sI p3, sI p4, sI sel, sR aK, sI cd, sI vv, sI (1 : Int32), sR ob122, .unset, .unset, .unset, .unset, .unset, .unset, .unset, .unset, .unset] [(Value.int (0 : Int32)), (Value.ref ob122)]))
      refine own_Go.by (fun tq kq => XS.iloadN X122.here hx rfl (hb hby at_78) rfl kq) ?_
      refine own_Go.by (fun tq kq => XS.i2b X122.here hx rfl (hb hby at_79) rfl kq) ?_
      show own_Go _ _ _ _ (T122.setTop (mkF m 80 #[sI p1, sI p2, sI p3, sI p4, sI sel, sR aK, sI cd, sI vv, sI (1 : Int32), sR ob122, .unset, .unset, .unset, .unset, .unset, .unset, .unset, .unset, .unset] [(Value.int (p3.toInt8.toInt32)), (Value.int (0 : Int32)), (Value.ref ob122)]))
      obtain ⟨cl125, Ar125, q125, S125, M125, Hh125, G125⟩ := id V122
      obtain ⟨T126, h126, X126, e126, W126, st126⟩ := stB X122 hx hZ e122 Ar125 (j := (0 : Int32)) (inb_of S125 ⟨(by decide : ¬ ((0 : Int32) < (0 : Int32))), (by decide : (0 : Int32) < (300 : Int32))⟩) (g := (mkF m 80 #[sI p1, sI p2, sI p3, sI p4, sI sel, sR aK, sI cd, sI vv, sI (1 : Int32), sR ob122, .unset, .unset, .unset, .unset, .unset, .unset, .unset, .unset, .unset] [(Value.int (p3.toInt8.toInt32)), (Value.int (0 : Int32)), (Value.ref ob122)])) rfl rfl (hb hby at_80)
      refine own_Go.by st126 ?_
      have N126 := Fr.snoc X126 N0 g124
      have O127 := O123.wr W126 g124
      have K127 := K123.wr W126 (Or.inr z124)
      rw [show nar .byte (p3.toInt8.toInt32) = (p3.toInt8.toInt32) from own_b8 _] at W126
      have V126 : Arv Z h126 ob122 k122 .byte (300 : Int32) ((List.replicate 300 (Value.int (0 : Int32))).set 0 (Value.int (p3.toInt8.toInt32))) (Value.int (0 : Int32)) := Arv.set Ar125 q125 S125 M125 Hh125 G125 (own_fitB (own_b8 _)) W126 0 (rfl) (Nat.le_of_ble_eq_true rfl)
      refine own_Go.by (fun tq kq => XS.aload X126.here hx rfl (hb hby at_81) rfl rfl kq) ?_
      refine own_Go.by (fun tq kq => XS.sipush X126.here hx rfl (hb hby at_83) kq) ?_
      refine own_Go.by (fun tq kq => XS.iloadN X126.here hx rfl (hb hby at_86) rfl kq) ?_
      show own_Go _ _ _ _ (T126.setTop (mkF m 87 #[sI p1, sI p2, sI p3, sI p4, sI sel, sR aK, sI cd, sI vv, sI (1 : Int32), sR ob122, .unset, .unset, .unset, .unset, .unset, .unset, .unset, .unset, .unset] [(Value.int p3), (Value.int (299 : Int32)), (Value.ref ob122)]))
      refine own_Go.by (fun tq kq => XS.bipush X126.here hx rfl (hb hby at_87) kq) ?_
      refine own_Go.by (fun tq kq => XS.ishr X126.here hx rfl (hb hby at_89) rfl kq) ?_
      refine own_Go.by (fun tq kq => XS.i2b X126.here hx rfl (hb hby at_90) rfl kq) ?_
      show own_Go _ _ _ _ (T126.setTop (mkF m 91 #[sI p1, sI p2, sI p3, sI p4, sI sel, sR aK, sI cd, sI vv, sI (1 : Int32), sR ob122, .unset, .unset, .unset, .unset, .unset, .unset, .unset, .unset, .unset] [(Value.int ((p3 >>> ((8 : Int32) &&& 31)).toInt8.toInt32)), (Value.int (299 : Int32)), (Value.ref ob122)]))
      obtain ⟨cl128, Ar128, q128, S128, M128, Hh128, G128⟩ := id V126
      obtain ⟨T129, h129, X129, e129, W129, st129⟩ := stB X126 hx hZ e126 Ar128 (j := (299 : Int32)) (inb_of S128 ⟨(by decide : ¬ ((299 : Int32) < (0 : Int32))), (by decide : (299 : Int32) < (300 : Int32))⟩) (g := (mkF m 91 #[sI p1, sI p2, sI p3, sI p4, sI sel, sR aK, sI cd, sI vv, sI (1 : Int32), sR ob122, .unset, .unset, .unset, .unset, .unset, .unset, .unset, .unset, .unset] [(Value.int ((p3 >>> ((8 : Int32) &&& 31)).toInt8.toInt32)), (Value.int (299 : Int32)), (Value.ref ob122)])) rfl rfl (hb hby at_91)
      refine own_Go.by st129 ?_
      have N129 := Fr.snoc X129 N126 g124
      have O130 := O127.wr W129 g124
      have K130 := K127.wr W129 (Or.inr z124)
      rw [show nar .byte ((p3 >>> ((8 : Int32) &&& 31)).toInt8.toInt32) = ((p3 >>> ((8 : Int32) &&& 31)).toInt8.toInt32) from own_b8 _] at W129
      have V129 : Arv Z h129 ob122 k122 .byte (300 : Int32) (((List.replicate 300 (Value.int (0 : Int32))).set 0 (Value.int (p3.toInt8.toInt32))).set 299 (Value.int ((p3 >>> ((8 : Int32) &&& 31)).toInt8.toInt32))) (Value.int (0 : Int32)) := Arv.set Ar128 q128 S128 M128 Hh128 G128 (own_fitB (own_b8 _)) W129 299 (rfl) (Nat.le_of_ble_eq_true rfl)
      show own_Go _ _ _ _ (T129.setTop (mkF m 92 #[sI p1, sI p2, sI p3, sI p4, sI sel, sR aK, sI cd, sI vv, sI (1 : Int32), sR ob122, .unset, .unset, .unset, .unset, .unset, .unset, .unset, .unset, .unset] []))
      obtain ⟨T131, h131, X131, e131, E131, A131, D131, -, st131⟩ := newO X129 hx hZ hown (hw _ (List.mem_of_getElem? (i := 6) rfl)) (hw _ (List.mem_of_getElem? (i := 7) rfl)) (hw _ (List.mem_of_getElem? (i := 8) rfl)) e129 (g := (mkF m 92 #[sI p1, sI p2, sI p3, sI p4, sI sel, sR aK, sI cd, sI vv, sI (1 : Int32), sR ob122, .unset, .unset, .unset, .unset, .unset, .unset, .unset, .unset, .unset] [])) rfl (hb hby at_92) (by decide) (by decide)
      obtain ⟨ob131, y131⟩ : ∃ z, z = h129.size := ⟨_, rfl⟩
      rw [← y131] at A131 D131 st131
      refine own_Go.by st131 ?_
      have O132 := O130.ext E131
      have K132 := K130.ext E131
      have g133 : n0 ≤ ob131 := Nat.le_trans (own_old_le O130) (Nat.le_of_eq y131.symm)
      have z133 : h0.size ≤ ob131 := Nat.le_trans K130.1 (Nat.le_of_eq y131.symm)
      have F131_bytes : Fld Z h131 ob131 "com/example/ebbtide/ebbtide/core/Encoder" "bytes" "[B" .null := D131 (Or.inl (hw _ (List.mem_of_getElem? (i := 16) rfl))) (ty := (.array .byte)) (by decide)
      have F131_length : Fld Z h131 ob131 "com/example/ebbtide/ebbtide/core/Encoder" "length" "I" (Value.int (0 : Int32)) := D131 (Or.inl (hw _ (List.mem_of_getElem? (i := 39) rfl))) (ty := .int) (by decide)
      refine own_Go.by (fun tq kq => XS.dup X131.here hx rfl (hb hby at_95) rfl rfl kq) ?_
      refine own_Go.by (fun tq kq => XS.aload X131.here hx rfl (hb hby at_96) rfl rfl kq) ?_
      show own_Go _ _ _ _ (T131.setTop (mkF m 98 #[sI p1, sI p2, sI p3, sI p4, sI sel, sR aK, sI cd, sI vv, sI (1 : Int32), sR ob122, .unset, .unset, .unset, .unset, .unset, .unset, .unset, .unset, .unset] [(Value.ref aK), (Value.ref ob131), (Value.ref ob131)]))
      obtain ⟨_, _, ⟨T134, L134, k134, n134⟩, -, X134, hs134, hg134, ⟨Lc134, hQ134, l134, y134, z134⟩, st134⟩ := X131.specialBackS hx (y := (⟨"com/example/ebbtide/ebbtide/core/Encoder", "<init>", "(Lcom/example/ebbtide/ebbtide/core/SummaryKind;)V"⟩ : MethodName)) rfl hown (mvT hZ (hw _ (List.mem_of_getElem? (i := 9) rfl))) (mvT hZ (hw _ (List.mem_of_getElem? (i := 10) rfl))) (mvT hZ (hw _ (List.mem_of_getElem? (i := 11) rfl))) (by decide) (backOfS (W := 1) (rm1 l Z a0 hw [] ob131 aK cd aM kM h131 n0 O132 A131 g133 F131_bytes F131_length H9 H10 hkind.1 hkind.2 ((own_cd h_aK_cd).1 : ((cd.toInt64) &&& (-128 : Int64)) = (0 : Int64)) ((own_cd h_aK_cd).2 : (((cd.toInt64).toInt32).toInt8.toInt32) = cd)) hZ (hw _ (List.mem_of_getElem? (i := 11) rfl)) (hw _ (List.mem_of_getElem? (i := 8) rfl)) (by decide) (by decide)) (g := (mkF m 98 #[sI p1, sI p2, sI p3, sI p4, sI sel, sR aK, sI cd, sI vv, sI (1 : Int32), sR ob122, .unset, .unset, .unset, .unset, .unset, .unset, .unset, .unset, .unset] [(Value.ref aK), (Value.ref ob131), (Value.ref ob131)])) rfl (by rw [hml]; rfl) (Steps.refl _) (a := ob131) (argsL := [(Value.ref aK)]) (rest := [(Value.ref ob131)]) (lenOf own_pd8 rfl) rfl (by show 2 * 0 + _ ≤ _; exact Nat.le_of_eq rfl) (hb hby at_98) (fun _ _ => ⟨rfl, e131, (by decide : 2 + 3 ≤ _), (by decide : 302 + 308 ≤ _)⟩)
      dsimp only [Pt.U, Pt.locs, Pt.cells, Pt.slots] at X134 l134 y134 z134 st134 hQ134 hs134 hg134
      subst l134 y134 z134
      obtain ⟨X134, hS134, hZ134, hown134⟩ := rebS (s := s) (vm0 := s.vm) hS0 (Nat.zero_le _) X134 hs134 hg134 hZ hown
      refine own_Go.by (fun tq kq => st134.trans kq) ?_
      obtain ⟨b_134, k2_134, rfl, N134q, K134q, p134_0, p134_1, p134_2, p134_3, p134_4⟩ := hQ134
      have N134 := Fr.app N129 N134q
      have O135 := O132.keep K134q (allS g133 all0)
      have K135 := K132.trans K134q (allS (Or.inr z133) all0)
      have g136 : n0 ≤ b_134 := Nat.le_trans (own_old_le O132) p134_0
      have z136 : h0.size ≤ b_134 := Nat.le_trans K132.1 p134_0
      refine own_Go.by (fun tq kq => XS.astore X134.here hx rfl (hb hby at_101) rfl rfl (l' := #[sI p1, sI p2, sI p3, sI p4, sI sel, sR aK, sI cd, sI vv, sI (1 : Int32), sR ob122, sR ob131, .unset, .unset, .unset, .unset, .unset, .unset, .unset, .unset]) rfl kq) ?_
      refine own_Go.by (fun tq kq => XS.aload X134.here hx rfl (hb hby at_103) rfl rfl kq) ?_
      show own_Go _ _ _ _ (T134.setTop (mkF m 105 #[sI p1, sI p2, sI p3, sI p4, sI sel, sR aK, sI cd, sI vv, sI (1 : Int32), sR ob122, sR ob131, .unset, .unset, .unset, .unset, .unset, .unset, .unset, .unset] [(Value.ref ob131)]))
      obtain ⟨cq137, kq137, q137a, q137b, q137c⟩ := isOf hZ134 rfl p134_1
      obtain ⟨_, _, ⟨T137, L137, k137, n137⟩, -, X137, ⟨Lc137, hQ137, l137, y137, z137⟩, st137⟩ := X134.virtualBack hx (y := (⟨"com/example/ebbtide/ebbtide/core/Encoder", "toByteArray", "()[B"⟩ : MethodName)) (z := (⟨"com/example/ebbtide/ebbtide/core/Encoder", "toByteArray", "()[B"⟩ : MethodName)) hown134 (mvT hZ134 (hw _ (List.mem_of_getElem? (i := 55) rfl))) (mvT hZ134 (hw _ (List.mem_of_getElem? (i := 56) rfl))) (notFace_of_selects (args := #[]) (mvT hZ134 (hw _ (List.mem_of_getElem? (i := 58) rfl)))) (mvT hZ134 (hw _ (List.mem_of_getElem? (i := 58) rfl))) (mvT hZ134 (hw _ (List.mem_of_getElem? (i := 57) rfl))) (by decide) (backOf (W := 0) (rm8_256_6 l Z a0 hw [] ob131 b_134 k2_134 (own_hd cd) T134.heap n0 O135 p134_1 p134_2 p134_3 p134_4) hZ134 (hw _ (List.mem_of_getElem? (i := 59) rfl)) (hw _ (List.mem_of_getElem? (i := 8) rfl)) (by decide) (by decide)) q137a q137c (g := (mkF m 105 #[sI p1, sI p2, sI p3, sI p4, sI sel, sR aK, sI cd, sI vv, sI (1 : Int32), sR ob122, sR ob131, .unset, .unset, .unset, .unset, .unset, .unset, .unset, .unset] [(Value.ref ob131)])) rfl (by rw [hml]; rfl) (Steps.refl _) (argsL := []) (rest := []) (lenOf own_pd9 rfl) rfl (by show 2 * 0 + _ ≤ _; exact Nat.le_of_eq rfl) (hb hby at_105) (fun _ _ => ⟨rfl, rfl, (by decide : 5 + 1 ≤ _), (by decide : 610 + 6 ≤ _)⟩)
      dsimp only [Pt.U, Pt.locs, Pt.cells, Pt.slots] at X137 l137 y137 z137 st137 hQ137
      subst l137 y137 z137
      refine own_Go.by (fun tq kq => st137.trans kq) ?_
      obtain ⟨b_137, k2_137, rfl, N137q, K137q, p137_0, p137_1⟩ := hQ137
      have N137 := Fr.app N134 N137q
      have O138 := O135.keep K137q all0
      have K138 := K135.trans K137q all0
      have hk_138 := K137q.1
      have g139 : n0 ≤ b_137 := Nat.le_trans (own_old_le O135) p137_0
      have z139 : h0.size ≤ b_137 := Nat.le_trans K135.1 p137_0
      refine own_Go.by (fun tq kq => XS.astore X137.here hx rfl (hb hby at_108) rfl rfl (l' := #[sI p1, sI p2, sI p3, sI p4, sI sel, sR aK, sI cd, sI vv, sI (1 : Int32), sR ob122, sR ob131, sR b_137, .unset, .unset, .unset, .unset, .unset, .unset, .unset]) rfl kq) ?_
      refine own_Go.by (fun tq kq => XS.aload X137.here hx rfl (hb hby at_110) rfl rfl kq) ?_
      show own_Go _ _ _ _ (T137.setTop (mkF m 112 #[sI p1, sI p2, sI p3, sI p4, sI sel, sR aK, sI cd, sI vv, sI (1 : Int32), sR ob122, sR ob131, sR b_137, .unset, .unset, .unset, .unset, .unset, .unset, .unset] [(Value.ref b_137)]))
      obtain ⟨cl140, Ar140, q140, S140, M140, Hh140, G140⟩ := id p137_1
      refine own_Go.by (fun tq kq => X137.arraylength hx Ar140.1 (State.isArrayOf_alike hZ134.alike Ar140.2.1) (g := (mkF m 112 #[sI p1, sI p2, sI p3, sI p4, sI sel, sR aK, sI cd, sI vv, sI (1 : Int32), sR ob122, sR ob131, sR b_137, .unset, .unset, .unset, .unset, .unset, .unset, .unset] [(Value.ref b_137)])) rfl rfl (hb hby at_112) _ kq) ?_
      rw [len_of S140 M140]
      refine own_Go.by (fun tq kq => XS.bipush X137.here hx rfl (hb hby at_113) kq) ?_
      show own_Go _ _ _ _ (T137.setTop (mkF m 115 #[sI p1, sI p2, sI p3, sI p4, sI sel, sR aK, sI cd, sI vv, sI (1 : Int32), sR ob122, sR ob131, sR b_137, .unset, .unset, .unset, .unset, .unset, .unset, .unset] [(Value.int (6 : Int32)), (Value.int (6 : Int32))]))
      refine own_Go.by (fun tq kq => XS.icmpNo X137.here hx rfl (hb hby at_115) rfl (teq (by decide : (6 : Int32) = (6 : Int32))).2 kq) ?_
      refine own_Go.by (fun tq kq => XS.aload X137.here hx rfl (hb hby at_118) rfl rfl kq) ?_
      refine own_Go.by (fun tq kq => XS.iload X137.here hx rfl (hb hby at_120) rfl kq) ?_
      show own_Go _ _ _ _ (T137.setTop (mkF m 122 #[sI p1, sI p2, sI p3, sI p4, sI sel, sR aK, sI cd, sI vv, sI (1 : Int32), sR ob122, sR ob131, sR b_137, .unset, .unset, .unset, .unset, .unset, .unset, .unset] [(Value.int cd), (Value.ref b_137)]))
      obtain ⟨_, _, ⟨T141, L141, k141, n141⟩, -, X141, ⟨Lc141, hQ141, l141, y141, z141⟩, st141⟩ := Jvm.LawKit.callS X137 hx (y := (⟨"com/example/ebbtide/ebbtide/core/EncoderToByteArrayPinLaw", "header", "([BI)Z"⟩ : MethodName)) hown134 (mvT hZ134 (hw _ (List.mem_of_getElem? (i := 72) rfl))) (mvT hZ134 (hw _ (List.mem_of_getElem? (i := 73) rfl))) (mvT hZ134 (hw _ (List.mem_of_getElem? (i := 74) rfl))) (mvT hZ134 (hw _ (List.mem_of_getElem? (i := 75) rfl))) (by decide) (backOf (W := 0) (rm11 l Z a0 hw [] b_137 k2_137 (6 : Int32) (own_cp (own_hd cd) 6) cd T137.heap n0 O138 p137_1 (by decide : ¬ ((6 : Int32) < (6 : Int32))) (by decide : ¬ ((0 : Int32) < (0 : Int32)) ∧ (0 : Int32) < (6 : Int32)) (by decide : ¬ ((1 : Int32) < (0 : Int32)) ∧ (1 : Int32) < (6 : Int32)) (by decide : ¬ ((2 : Int32) < (0 : Int32)) ∧ (2 : Int32) < (6 : Int32)) (by decide : ¬ ((3 : Int32) < (0 : Int32)) ∧ (3 : Int32) < (6 : Int32)) (by decide : ¬ ((4 : Int32) < (0 : Int32)) ∧ (4 : Int32) < (6 : Int32)) (by decide : ¬ ((5 : Int32) < (0 : Int32)) ∧ (5 : Int32) < (6 : Int32)) (rfl : (own_cp (own_hd cd) 6).getD (0 : Int32).toNatClampNeg (Value.int (0 : Int32)) = (Value.int (69 : Int32))) (rfl : (own_cp (own_hd cd) 6).getD (1 : Int32).toNatClampNeg (Value.int (0 : Int32)) = (Value.int (66 : Int32))) (rfl : (own_cp (own_hd cd) 6).getD (2 : Int32).toNatClampNeg (Value.int (0 : Int32)) = (Value.int (66 : Int32))) (rfl : (own_cp (own_hd cd) 6).getD (3 : Int32).toNatClampNeg (Value.int (0 : Int32)) = (Value.int (84 : Int32))) (rfl : (own_cp (own_hd cd) 6).getD (4 : Int32).toNatClampNeg (Value.int (0 : Int32)) = (Value.int (3 : Int32))) (rfl : (own_cp (own_hd cd) 6).getD (5 : Int32).toNatClampNeg (Value.int (0 : Int32)) = (Value.int cd))) hZ134 (hw _ (List.mem_of_getElem? (i := 75) rfl)) (hw _ (List.mem_of_getElem? (i := 74) rfl)) (by decide) (by decide)) (g := (mkF m 122 #[sI p1, sI p2, sI p3, sI p4, sI sel, sR aK, sI cd, sI vv, sI (1 : Int32), sR ob122, sR ob131, sR b_137, .unset, .unset, .unset, .unset, .unset, .unset, .unset] [(Value.int cd), (Value.ref b_137)])) rfl (by rw [hml]; rfl) (argsL := [(Value.ref b_137), (Value.int cd)]) (rest := []) (lenOf own_pd10 rfl) rfl (by show 2 * 0 + _ ≤ _; exact Nat.le_of_eq rfl) (hb hby at_122) (fun _ _ => ⟨rfl, rfl, (by decide : 6 + 0 ≤ _), (by decide : 616 + 0 ≤ _)⟩)
      dsimp only [Pt.U, Pt.locs, Pt.cells, Pt.slots] at X141 l141 y141 z141 st141 hQ141
      subst l141 y141 z141
      refine own_Go.by st141 ?_
      obtain ⟨rfl, N141q, e141⟩ := hQ141
      have N141 := Fr.app N137 N141q
      show own_Go _ _ _ _ (T141.setTop (mkF m 125 #[sI p1, sI p2, sI p3, sI p4, sI sel, sR aK, sI cd, sI vv, sI (1 : Int32), sR ob122, sR ob131, sR b_137, .unset, .unset, .unset, .unset, .unset, .unset, .unset] [(Value.int (1 : Int32))]))
      refine own_Go.by (fun tq kq => XS.ifYes X141.here hx rfl (pc0 := 125) (pc' := 130) rfl (hb hby at_125) rfl ((if0 _ _).trans (feq (by decide : ¬ ((1 : Int32) = (0 : Int32)))).2) (by decide) (by decide) kq) ?_
      have hv21 := own_v21 hv_vv
      have h64 : (vv.toInt64).toInt = vv.toInt := c_i2l vv
      have hsh := own_sh7 (x := (vv.toInt64)) (by omega)
      have e128 : (128 : Int32).toInt = 128 := rfl
      have e16k : (16384 : Int32).toInt = 16384 := rfl
      by_cases hs1 : vv < (128 : Int32)
      ·
        have hs1' := hs1
        rw [Int32.lt_iff_toInt_lt] at hs1'
        refine own_Go.by (fun tq kq => XS.aload X141.here hx rfl (hb hby at_130) rfl rfl kq) ?_
        refine own_Go.by (fun tq kq => XS.iload X141.here hx rfl (hb hby at_132) rfl kq) ?_
        refine own_Go.by (fun tq kq => XS.i2l X141.here hx rfl (hb hby at_134) rfl kq) ?_
        show own_Go _ _ _ _ (T141.setTop (mkF m 135 #[sI p1, sI p2, sI p3, sI p4, sI sel, sR aK, sI cd, sI vv, sI (1 : Int32), sR ob122, sR ob131, sR b_137, .unset, .unset, .unset, .unset, .unset, .unset, .unset] [(Value.long (vv.toInt64)), (Value.ref ob131)]))
        have c143 := (p134_1.keep K137q)
        have c144 := (p134_2.keep K137q nin0)
        have c145 := (p134_3.keep K137q nin0)
        have c146 := (p134_4.keep K137q nin0)
        obtain ⟨cq142, kq142, q142a, q142b, q142c⟩ := isOf hZ134 e141 c143
        obtain ⟨_, _, ⟨T142, L142, k142, n142⟩, -, X142, ⟨Lc142, hQ142, l142, y142, z142⟩, st142⟩ := X141.virtualBack hx (y := (⟨"com/example/ebbtide/ebbtide/core/Encoder", "unsigned", "(J)V"⟩ : MethodName)) (z := (⟨"com/example/ebbtide/ebbtide/core/Encoder", "unsigned", "(J)V"⟩ : MethodName)) hown134 (mvT hZ134 (hw _ (List.mem_of_getElem? (i := 76) rfl))) (mvT hZ134 (hw _ (List.mem_of_getElem? (i := 43) rfl))) (notFace_of_selects (args := #[]) (mvT hZ134 (hw _ (List.mem_of_getElem? (i := 45) rfl)))) (mvT hZ134 (hw _ (List.mem_of_getElem? (i := 45) rfl))) (mvT hZ134 (hw _ (List.mem_of_getElem? (i := 44) rfl))) (by decide) (backOf (W := 0) (rm6_1 l Z a0 hw [] ob131 b_134 k2_134 (own_hd cd) (6 : Int32) (vv.toInt64) 6 T137.heap n0 O138 c143 c144 c145 c146 g133 g136 (Nat.ne_of_lt (Nat.lt_of_lt_of_le A131.lt p134_0)) (by decide : ¬ ((2147483639 : Int64) < (((6 : Int32).toInt64) + ((1 : Int32).toInt64)))) (by decide : ¬ (((256 : Int32).toInt64) < (((6 : Int32).toInt64) + ((1 : Int32).toInt64)))) (by decide : ¬ ((6 : Int32) < (0 : Int32)) ∧ (6 : Int32) < (256 : Int32)) (rfl : (6 : Int32).toNatClampNeg = 6) (Nat.le_of_ble_eq_true rfl : 6 < (own_hd cd).length) ((own_m128 (by omega)).mpr (by omega) : ((vv.toInt64) &&& (-128 : Int64)) = (0 : Int64))) hZ134 (hw _ (List.mem_of_getElem? (i := 46) rfl)) (hw _ (List.mem_of_getElem? (i := 8) rfl)) (by decide) (by decide)) q142a q142c (g := (mkF m 135 #[sI p1, sI p2, sI p3, sI p4, sI sel, sR aK, sI cd, sI vv, sI (1 : Int32), sR ob122, sR ob131, sR b_137, .unset, .unset, .unset, .unset, .unset, .unset, .unset] [(Value.long (vv.toInt64)), (Value.ref ob131)])) rfl (by rw [hml]; rfl) (Steps.refl _) (argsL := [(Value.long (vv.toInt64))]) (rest := []) (lenOf own_pd5 rfl) rfl (by show 2 * 0 + _ ≤ _; exact Nat.le_of_eq rfl) (hb hby at_135) (fun _ _ => ⟨rfl, e141, (by decide : 6 + 0 ≤ _), (by decide : 616 + 0 ≤ _)⟩)
        dsimp only [Pt.U, Pt.locs, Pt.cells, Pt.slots] at X142 l142 y142 z142 st142 hQ142
        subst l142 y142 z142
        refine own_Go.by (fun tq kq => st142.trans kq) ?_
        obtain ⟨rfl, N142q, K142q, p142_0, p142_1, p142_2, p142_3⟩ := hQ142
        have N142 := Fr.app N141 N142q
        have O147 := O138.keep K142q (allS g133 (allS g136 all0))
        have K147 := K138.trans K142q (allS (Or.inr z133) (allS (Or.inr z136) all0))
        have hk_147 := Nat.le_trans hk_138 K142q.1
        refine own_Go.by (fun tq kq => XS.iload X142.here hx rfl (hb hby at_138) rfl kq) ?_
        show own_Go _ _ _ _ (T142.setTop (mkF m 140 #[sI p1, sI p2, sI p3, sI p4, sI sel, sR aK, sI cd, sI vv, sI (1 : Int32), sR ob122, sR ob131, sR b_137, .unset, .unset, .unset, .unset, .unset, .unset, .unset] [(Value.int (1 : Int32))]))
        refine own_Go.by (fun tq kq => XS.ifNo X142.here hx rfl (hb hby at_140) rfl ((if0 _ _).trans (feq (by decide : ¬ ((1 : Int32) = (0 : Int32)))).1) kq) ?_
        refine own_Go.by (fun tq kq => XS.aload X142.here hx rfl (hb hby at_143) rfl rfl kq) ?_
        refine own_Go.by (fun tq kq => XS.aload X142.here hx rfl (hb hby at_145) rfl rfl kq) ?_
        show own_Go _ _ _ _ (T142.setTop (mkF m 147 #[sI p1, sI p2, sI p3, sI p4, sI sel, sR aK, sI cd, sI vv, sI (1 : Int32), sR ob122, sR ob131, sR b_137, .unset, .unset, .unset, .unset, .unset, .unset, .unset] [(Value.ref ob122), (Value.ref ob131)]))
        have c149 := ((((V129.ext E131).keep K134q (ninS (Nat.ne_of_lt (Nat.lt_of_lt_of_le A122.lt (Nat.le_trans (Keep.of_wr W126).1 (Nat.le_trans (Keep.of_wr W129).1 (Nat.le_of_eq y131.symm))))) nin0)).keep K137q nin0).keep K142q (ninS (Nat.ne_of_lt (Nat.lt_of_lt_of_le A122.lt (Nat.le_trans (Keep.of_wr W126).1 (Nat.le_trans (Keep.of_wr W129).1 (Nat.le_of_eq y131.symm))))) (ninS (Nat.ne_of_lt (Nat.lt_of_lt_of_le A122.lt (Nat.le_trans (Keep.of_wr W126).1 (Nat.le_trans (Keep.of_wr W129).1 (Nat.le_trans E131.1 p134_0))))) nin0)))
        obtain ⟨cq148, kq148, q148a, q148b, q148c⟩ := isOf hZ134 rfl p142_0
        obtain ⟨_, _, ⟨T148, L148, k148, n148⟩, -, X148, hs148, hg148, ⟨Lc148, hQ148, l148, y148, z148⟩, st148⟩ := X142.virtualBackS hx (y := (⟨"com/example/ebbtide/ebbtide/core/Encoder", "bytes", "([B)V"⟩ : MethodName)) (z := (⟨"com/example/ebbtide/ebbtide/core/Encoder", "bytes", "([B)V"⟩ : MethodName)) hown134 (mvT hZ134 (hw _ (List.mem_of_getElem? (i := 77) rfl))) (mvT hZ134 (hw _ (List.mem_of_getElem? (i := 78) rfl))) (notFace_of_selects (args := #[]) (mvT hZ134 (hw _ (List.mem_of_getElem? (i := 80) rfl)))) (mvT hZ134 (hw _ (List.mem_of_getElem? (i := 80) rfl))) (mvT hZ134 (hw _ (List.mem_of_getElem? (i := 79) rfl))) (by decide) (backOfS (W := 0) (rm12_7 l Z a0 hw [] ob131 b_134 k2_134 ((own_hd cd).set 6 (Value.int (((vv.toInt64).toInt32).toInt8.toInt32))) ob122 k122 (((List.replicate 300 (Value.int (0 : Int32))).set 0 (Value.int (p3.toInt8.toInt32))).set 299 (Value.int ((p3 >>> ((8 : Int32) &&& 31)).toInt8.toInt32))) T142.heap n0 O147 p142_0 p142_1 p142_2 p142_3 g133 c149 (Nat.ne_of_lt (Nat.lt_of_lt_of_le A122.lt (Nat.le_trans (Keep.of_wr W126).1 (Nat.le_trans (Keep.of_wr W129).1 (Nat.le_of_eq y131.symm)))))) hZ134 (hw _ (List.mem_of_getElem? (i := 81) rfl)) (hw _ (List.mem_of_getElem? (i := 8) rfl)) (by decide) (by decide)) q148a q148c (g := (mkF m 147 #[sI p1, sI p2, sI p3, sI p4, sI sel, sR aK, sI cd, sI vv, sI (1 : Int32), sR ob122, sR ob131, sR b_137, .unset, .unset, .unset, .unset, .unset, .unset, .unset] [(Value.ref ob122), (Value.ref ob131)])) rfl (by rw [hml]; rfl) (Steps.refl _) (argsL := [(Value.ref ob122)]) (rest := []) (lenOf own_pd11 rfl) rfl (by show 2 * 0 + _ ≤ _; exact Nat.le_of_eq rfl) (hb hby at_147) (fun _ _ => ⟨rfl, rfl, (by decide : 6 + 3 ≤ _), (by decide : 616 + 568 ≤ _)⟩)
        dsimp only [Pt.U, Pt.locs, Pt.cells, Pt.slots] at X148 l148 y148 z148 st148 hQ148 hs148 hg148
        subst l148 y148 z148
        obtain ⟨X148, hS148, hZ148, hown148⟩ := rebS (s := s) (vm0 := T134.vm) hS134 hk_147 X148 hs148 hg148 hZ134 hown134
        refine own_Go.by (fun tq kq => st148.trans kq) ?_
        obtain ⟨b_148, k2_148, rfl, N148q, K148q, p148_0, p148_1, p148_2, p148_3, p148_4⟩ := hQ148
        have N148 := Fr.app N142 N148q
        have O150 := O147.keep K148q (allS g133 all0)
        have K150 := K147.trans K148q (allS (Or.inr z133) all0)
        have g151 : n0 ≤ b_148 := Nat.le_trans (own_old_le O147) p148_0
        have z151 : h0.size ≤ b_148 := Nat.le_trans K147.1 p148_0
        refine own_Go.by (fun tq kq => XS.aload X148.here hx rfl (hb hby at_150) rfl rfl kq) ?_
        show own_Go _ _ _ _ (T148.setTop (mkF m 152 #[sI p1, sI p2, sI p3, sI p4, sI sel, sR aK, sI cd, sI vv, sI (1 : Int32), sR ob122, sR ob131, sR b_137, .unset, .unset, .unset, .unset, .unset, .unset, .unset] [(Value.ref ob131)]))
        obtain ⟨cq152, kq152, q152a, q152b, q152c⟩ := isOf hZ148 rfl p148_1
        obtain ⟨_, _, ⟨T152, L152, k152, n152⟩, -, X152, ⟨Lc152, hQ152, l152, y152, z152⟩, st152⟩ := X148.virtualBack hx (y := (⟨"com/example/ebbtide/ebbtide/core/Encoder", "toByteArray", "()[B"⟩ : MethodName)) (z := (⟨"com/example/ebbtide/ebbtide/core/Encoder", "toByteArray", "()[B"⟩ : MethodName)) hown148 (mvT hZ148 (hw _ (List.mem_of_getElem? (i := 55) rfl))) (mvT hZ148 (hw _ (List.mem_of_getElem? (i := 56) rfl))) (notFace_of_selects (args := #[]) (mvT hZ148 (hw _ (List.mem_of_getElem? (i := 58) rfl)))) (mvT hZ148 (hw _ (List.mem_of_getElem? (i := 58) rfl))) (mvT hZ148 (hw _ (List.mem_of_getElem? (i := 57) rfl))) (by decide) (backOf (W := 0) (rm8_512_307 l Z a0 hw [] ob131 b_148 k2_148 (((own_cp ((own_hd cd).set 6 (Value.int (((vv.toInt64).toInt32).toInt8.toInt32))) 256 ++ List.replicate 256 (Value.int (0 : Int32)))).take (7 : Int32).toNatClampNeg ++ ((List.range (300 : Int32).toNatClampNeg).map fun i => ((((List.replicate 300 (Value.int (0 : Int32))).set 0 (Value.int (p3.toInt8.toInt32))).set 299 (Value.int ((p3 >>> ((8 : Int32) &&& 31)).toInt8.toInt32)))).getD ((0 : Int32).toNatClampNeg + i) (Value.int (0 : Int32))) ++ ((own_cp ((own_hd cd).set 6 (Value.int (((vv.toInt64).toInt32).toInt8.toInt32))) 256 ++ List.replicate 256 (Value.int (0 : Int32)))).drop ((7 : Int32).toNatClampNeg + (300 : Int32).toNatClampNeg)) T148.heap n0 O150 p148_1 p148_2 p148_3 p148_4) hZ148 (hw _ (List.mem_of_getElem? (i := 59) rfl)) (hw _ (List.mem_of_getElem? (i := 8) rfl)) (by decide) (by decide)) q152a q152c (g := (mkF m 152 #[sI p1, sI p2, sI p3, sI p4, sI sel, sR aK, sI cd, sI vv, sI (1 : Int32), sR ob122, sR ob131, sR b_137, .unset, .unset, .unset, .unset, .unset, .unset, .unset] [(Value.ref ob131)])) rfl (by rw [hml]; rfl) (Steps.refl _) (argsL := []) (rest := []) (lenOf own_pd9 rfl) rfl (by show 2 * 0 + _ ≤ _; exact Nat.le_of_eq rfl) (hb hby at_152) (fun _ _ => ⟨rfl, rfl, (by decide : 9 + 1 ≤ _), (by decide : 1184 + 307 ≤ _)⟩)
        dsimp only [Pt.U, Pt.locs, Pt.cells, Pt.slots] at X152 l152 y152 z152 st152 hQ152
        subst l152 y152 z152
        refine own_Go.by (fun tq kq => st152.trans kq) ?_
        obtain ⟨b_152, k2_152, rfl, N152q, K152q, p152_0, p152_1⟩ := hQ152
        have N152 := Fr.app N148 N152q
        have O153 := O150.keep K152q all0
        have K153 := K150.trans K152q all0
        have hk_153 := K152q.1
        have g154 : n0 ≤ b_152 := Nat.le_trans (own_old_le O150) p152_0
        have z154 : h0.size ≤ b_152 := Nat.le_trans K150.1 p152_0
        refine own_Go.by (fun tq kq => XS.astore X152.here hx rfl (hb hby at_155) rfl rfl (l' := #[sI p1, sI p2, sI p3, sI p4, sI sel, sR aK, sI cd, sI vv, sI (1 : Int32), sR ob122, sR ob131, sR b_137, sR b_152, .unset, .unset, .unset, .unset, .unset, .unset]) rfl kq) ?_
        refine own_Go.by (fun tq kq => XS.iconst X152.here hx rfl (hb hby at_157) kq) ?_
        refine own_Go.by (fun tq kq => XS.istore X152.here hx rfl (hb hby at_158) rfl (l' := #[sI p1, sI p2, sI p3, sI p4, sI sel, sR aK, sI cd, sI vv, sI (1 : Int32), sR ob122, sR ob131, sR b_137, sR b_152, .unset, .unset, sI (0 : Int32), .unset, .unset, .unset]) rfl kq) ?_
        show own_Go _ _ _ _ (T152.setTop (mkF m 160 #[sI p1, sI p2, sI p3, sI p4, sI sel, sR aK, sI cd, sI vv, sI (1 : Int32), sR ob122, sR ob131, sR b_137, sR b_152, .unset, .unset, sI (0 : Int32), .unset, .unset, .unset] []))
        refine own_Go.by (fun tq kq => XS.iconst X152.here hx rfl (hb hby at_160) kq) ?_
        refine own_Go.by (fun tq kq => XS.istore X152.here hx rfl (hb hby at_161) rfl (l' := #[sI p1, sI p2, sI p3, sI p4, sI sel, sR aK, sI cd, sI vv, sI (1 : Int32), sR ob122, sR ob131, sR b_137, sR b_152, .unset, .unset, sI (0 : Int32), sI (0 : Int32), .unset, .unset]) rfl kq) ?_
        refine own_Go.by (fun tq kq => XS.iload X152.here hx rfl (hb hby at_163) rfl kq) ?_
        refine own_Go.by (fun tq kq => XS.sipush X152.here hx rfl (hb hby at_165) kq) ?_
        show own_Go _ _ _ _ (T152.setTop (mkF m 168 #[sI p1, sI p2, sI p3, sI p4, sI sel, sR aK, sI cd, sI vv, sI (1 : Int32), sR ob122, sR ob131, sR b_137, sR b_152, .unset, .unset, sI (0 : Int32), sI (0 : Int32), .unset, .unset] [(Value.int (128 : Int32)), (Value.int vv)]))
        refine own_Go.by (fun tq kq => XS.icmpNo X152.here hx rfl (hb hby at_168) rfl (tlt hs1).2.1 kq) ?_
        refine own_Go.by (fun tq kq => XS.iconst X152.here hx rfl (hb hby at_171) kq) ?_
        refine own_Go.by (fun tq kq => XS.istore X152.here hx rfl (hb hby at_172) rfl (l' := #[sI p1, sI p2, sI p3, sI p4, sI sel, sR aK, sI cd, sI vv, sI (1 : Int32), sR ob122, sR ob131, sR b_137, sR b_152, sI (1 : Int32), .unset, sI (0 : Int32), sI (0 : Int32), .unset, .unset]) rfl kq) ?_
        refine own_Go.by (fun tq kq => XS.iload X152.here hx rfl (hb hby at_174) rfl kq) ?_
        show own_Go _ _ _ _ (T152.setTop (mkF m 176 #[sI p1, sI p2, sI p3, sI p4, sI sel, sR aK, sI cd, sI vv, sI (1 : Int32), sR ob122, sR ob131, sR b_137, sR b_152, sI (1 : Int32), .unset, sI (0 : Int32), sI (0 : Int32), .unset, .unset] [(Value.int vv)]))
        refine own_Go.by (fun tq kq => XS.i2b X152.here hx rfl (hb hby at_176) rfl kq) ?_
        refine own_Go.by (fun tq kq => XS.istore X152.here hx rfl (hb hby at_177) rfl (l' := #[sI p1, sI p2, sI p3, sI p4, sI sel, sR aK, sI cd, sI vv, sI (1 : Int32), sR ob122, sR ob131, sR b_137, sR b_152, sI (1 : Int32), sI (vv.toInt8.toInt32), sI (0 : Int32), sI (0 : Int32), .unset, .unset]) rfl kq) ?_
        refine own_Go.by (fun tq kq => XS.goto X152.here hx rfl (pc0 := 179) (pc' := 254) rfl (hb hby at_179) (by decide) (by decide) kq) ?_
        refine own_Go.by (fun tq kq => XS.bipush X152.here hx rfl (hb hby at_254) kq) ?_
        show own_Go _ _ _ _ (T152.setTop (mkF m 256 #[sI p1, sI p2, sI p3, sI p4, sI sel, sR aK, sI cd, sI vv, sI (1 : Int32), sR ob122, sR ob131, sR b_137, sR b_152, sI (1 : Int32), sI (vv.toInt8.toInt32), sI (0 : Int32), sI (0 : Int32), .unset, .unset] [(Value.int (6 : Int32))]))
        refine own_Go.by (fun tq kq => XS.iload X152.here hx rfl (hb hby at_256) rfl kq) ?_
        refine own_Go.by (fun tq kq => XS.iadd X152.here hx rfl (hb hby at_258) rfl kq) ?_
        refine own_Go.by (fun tq kq => XS.iload X152.here hx rfl (hb hby at_259) rfl kq) ?_
        show own_Go _ _ _ _ (T152.setTop (mkF m 261 #[sI p1, sI p2, sI p3, sI p4, sI sel, sR aK, sI cd, sI vv, sI (1 : Int32), sR ob122, sR ob131, sR b_137, sR b_152, sI (1 : Int32), sI (vv.toInt8.toInt32), sI (0 : Int32), sI (0 : Int32), .unset, .unset] [(Value.int (1 : Int32)), (Value.int (7 : Int32))]))
        refine own_Go.by (fun tq kq => XS.ifNo X152.here hx rfl (hb hby at_261) rfl ((if0 _ _).trans (feq (by decide : ¬ ((1 : Int32) = (0 : Int32)))).1) kq) ?_
        refine own_Go.by (fun tq kq => XS.sipush X152.here hx rfl (hb hby at_264) kq) ?_
        refine own_Go.by (fun tq kq => XS.goto X152.here hx rfl (pc0 := 267) (pc' := 271) rfl (hb hby at_267) (by decide) (by decide) kq) ?_
        refine own_Go.by (fun tq kq => XS.iadd X152.here hx rfl (hb hby at_271) rfl kq) ?_
        show own_Go _ _ _ _ (T152.setTop (mkF m 272 #[sI p1, sI p2, sI p3, sI p4, sI sel, sR aK, sI cd, sI vv, sI (1 : Int32), sR ob122, sR ob131, sR b_137, sR b_152, sI (1 : Int32), sI (vv.toInt8.toInt32), sI (0 : Int32), sI (0 : Int32), .unset, .unset] [(Value.int (307 : Int32))]))
        refine own_Go.by (fun tq kq => XS.istore X152.here hx rfl (hb hby at_272) rfl (l' := #[sI p1, sI p2, sI p3, sI p4, sI sel, sR aK, sI cd, sI vv, sI (1 : Int32), sR ob122, sR ob131, sR b_137, sR b_152, sI (1 : Int32), sI (vv.toInt8.toInt32), sI (0 : Int32), sI (0 : Int32), sI (307 : Int32), .unset]) rfl kq) ?_
        refine own_Go.by (fun tq kq => XS.aload X152.here hx rfl (hb hby at_274) rfl rfl kq) ?_
        show own_Go _ _ _ _ (T152.setTop (mkF m 276 #[sI p1, sI p2, sI p3, sI p4, sI sel, sR aK, sI cd, sI vv, sI (1 : Int32), sR ob122, sR ob131, sR b_137, sR b_152, sI (1 : Int32), sI (vv.toInt8.toInt32), sI (0 : Int32), sI (0 : Int32), sI (307 : Int32), .unset] [(Value.ref b_152)]))
        obtain ⟨cl155, Ar155, q155, S155, M155, Hh155, G155⟩ := id p152_1
        refine own_Go.by (fun tq kq => X152.arraylength hx Ar155.1 (State.isArrayOf_alike hZ148.alike Ar155.2.1) (g := (mkF m 276 #[sI p1, sI p2, sI p3, sI p4, sI sel, sR aK, sI cd, sI vv, sI (1 : Int32), sR ob122, sR ob131, sR b_137, sR b_152, sI (1 : Int32), sI (vv.toInt8.toInt32), sI (0 : Int32), sI (0 : Int32), sI (307 : Int32), .unset] [(Value.ref b_152)])) rfl rfl (hb hby at_276) _ kq) ?_
        rw [len_of S155 M155]
        refine own_Go.by (fun tq kq => XS.iload X152.here hx rfl (hb hby at_277) rfl kq) ?_
        show own_Go _ _ _ _ (T152.setTop (mkF m 279 #[sI p1, sI p2, sI p3, sI p4, sI sel, sR aK, sI cd, sI vv, sI (1 : Int32), sR ob122, sR ob131, sR b_137, sR b_152, sI (1 : Int32), sI (vv.toInt8.toInt32), sI (0 : Int32), sI (0 : Int32), sI (307 : Int32), .unset] [(Value.int (307 : Int32)), (Value.int (307 : Int32))]))
        refine own_Go.by (fun tq kq => XS.icmpNo X152.here hx rfl (hb hby at_279) rfl (teq (by decide : (307 : Int32) = (307 : Int32))).2 kq) ?_
        refine own_Go.by (fun tq kq => XS.aload X152.here hx rfl (hb hby at_282) rfl rfl kq) ?_
        refine own_Go.by (fun tq kq => XS.iload X152.here hx rfl (hb hby at_284) rfl kq) ?_
        show own_Go _ _ _ _ (T152.setTop (mkF m 286 #[sI p1, sI p2, sI p3, sI p4, sI sel, sR aK, sI cd, sI vv, sI (1 : Int32), sR ob122, sR ob131, sR b_137, sR b_152, sI (1 : Int32), sI (vv.toInt8.toInt32), sI (0 : Int32), sI (0 : Int32), sI (307 : Int32), .unset] [(Value.int cd), (Value.ref b_152)]))
        obtain ⟨_, _, ⟨T156, L156, k156, n156⟩, -, X156, ⟨Lc156, hQ156, l156, y156, z156⟩, st156⟩ := Jvm.LawKit.callS X152 hx (y := (⟨"com/example/ebbtide/ebbtide/core/EncoderToByteArrayPinLaw", "header", "([BI)Z"⟩ : MethodName)) hown148 (mvT hZ148 (hw _ (List.mem_of_getElem? (i := 72) rfl))) (mvT hZ148 (hw _ (List.mem_of_getElem? (i := 73) rfl))) (mvT hZ148 (hw _ (List.mem_of_getElem? (i := 74) rfl))) (mvT hZ148 (hw _ (List.mem_of_getElem? (i := 75) rfl))) (by decide) (backOf (W := 0) (rm11 l Z a0 hw [] b_152 k2_152 (307 : Int32) (own_cp (((own_cp ((own_hd cd).set 6 (Value.int (((vv.toInt64).toInt32).toInt8.toInt32))) 256 ++ List.replicate 256 (Value.int (0 : Int32)))).take (7 : Int32).toNatClampNeg ++ ((List.range (300 : Int32).toNatClampNeg).map fun i => ((((List.replicate 300 (Value.int (0 : Int32))).set 0 (Value.int (p3.toInt8.toInt32))).set 299 (Value.int ((p3 >>> ((8 : Int32) &&& 31)).toInt8.toInt32)))).getD ((0 : Int32).toNatClampNeg + i) (Value.int (0 : Int32))) ++ ((own_cp ((own_hd cd).set 6 (Value.int (((vv.toInt64).toInt32).toInt8.toInt32))) 256 ++ List.replicate 256 (Value.int (0 : Int32)))).drop ((7 : Int32).toNatClampNeg + (300 : Int32).toNatClampNeg)) 307) cd T152.heap n0 O153 p152_1 (by decide : ¬ ((307 : Int32) < (6 : Int32))) (by decide : ¬ ((0 : Int32) < (0 : Int32)) ∧ (0 : Int32) < (307 : Int32)) (by decide : ¬ ((1 : Int32) < (0 : Int32)) ∧ (1 : Int32) < (307 : Int32)) (by decide : ¬ ((2 : Int32) < (0 : Int32)) ∧ (2 : Int32) < (307 : Int32)) (by decide : ¬ ((3 : Int32) < (0 : Int32)) ∧ (3 : Int32) < (307 : Int32)) (by decide : ¬ ((4 : Int32) < (0 : Int32)) ∧ (4 : Int32) < (307 : Int32)) (by decide : ¬ ((5 : Int32) < (0 : Int32)) ∧ (5 : Int32) < (307 : Int32)) (rfl : (own_cp (((own_cp ((own_hd cd).set 6 (Value.int (((vv.toInt64).toInt32).toInt8.toInt32))) 256 ++ List.replicate 256 (Value.int (0 : Int32)))).take (7 : Int32).toNatClampNeg ++ ((List.range (300 : Int32).toNatClampNeg).map fun i => ((((List.replicate 300 (Value.int (0 : Int32))).set 0 (Value.int (p3.toInt8.toInt32))).set 299 (Value.int ((p3 >>> ((8 : Int32) &&& 31)).toInt8.toInt32)))).getD ((0 : Int32).toNatClampNeg + i) (Value.int (0 : Int32))) ++ ((own_cp ((own_hd cd).set 6 (Value.int (((vv.toInt64).toInt32).toInt8.toInt32))) 256 ++ List.replicate 256 (Value.int (0 : Int32)))).drop ((7 : Int32).toNatClampNeg + (300 : Int32).toNatClampNeg)) 307).getD (0 : Int32).toNatClampNeg (Value.int (0 : Int32)) = (Value.int (69 : Int32))) (rfl : (own_cp (((own_cp ((own_hd cd).set 6 (Value.int (((vv.toInt64).toInt32).toInt8.toInt32))) 256 ++ List.replicate 256 (Value.int (0 : Int32)))).take (7 : Int32).toNatClampNeg ++ ((List.range (300 : Int32).toNatClampNeg).map fun i => ((((List.replicate 300 (Value.int (0 : Int32))).set 0 (Value.int (p3.toInt8.toInt32))).set 299 (Value.int ((p3 >>> ((8 : Int32) &&& 31)).toInt8.toInt32)))).getD ((0 : Int32).toNatClampNeg + i) (Value.int (0 : Int32))) ++ ((own_cp ((own_hd cd).set 6 (Value.int (((vv.toInt64).toInt32).toInt8.toInt32))) 256 ++ List.replicate 256 (Value.int (0 : Int32)))).drop ((7 : Int32).toNatClampNeg + (300 : Int32).toNatClampNeg)) 307).getD (1 : Int32).toNatClampNeg (Value.int (0 : Int32)) = (Value.int (66 : Int32))) (rfl : (own_cp (((own_cp ((own_hd cd).set 6 (Value.int (((vv.toInt64).toInt32).toInt8.toInt32))) 256 ++ List.replicate 256 (Value.int (0 : Int32)))).take (7 : Int32).toNatClampNeg ++ ((List.range (300 : Int32).toNatClampNeg).map fun i => ((((List.replicate 300 (Value.int (0 : Int32))).set 0 (Value.int (p3.toInt8.toInt32))).set 299 (Value.int ((p3 >>> ((8 : Int32) &&& 31)).toInt8.toInt32)))).getD ((0 : Int32).toNatClampNeg + i) (Value.int (0 : Int32))) ++ ((own_cp ((own_hd cd).set 6 (Value.int (((vv.toInt64).toInt32).toInt8.toInt32))) 256 ++ List.replicate 256 (Value.int (0 : Int32)))).drop ((7 : Int32).toNatClampNeg + (300 : Int32).toNatClampNeg)) 307).getD (2 : Int32).toNatClampNeg (Value.int (0 : Int32)) = (Value.int (66 : Int32))) (rfl : (own_cp (((own_cp ((own_hd cd).set 6 (Value.int (((vv.toInt64).toInt32).toInt8.toInt32))) 256 ++ List.replicate 256 (Value.int (0 : Int32)))).take (7 : Int32).toNatClampNeg ++ ((List.range (300 : Int32).toNatClampNeg).map fun i => ((((List.replicate 300 (Value.int (0 : Int32))).set 0 (Value.int (p3.toInt8.toInt32))).set 299 (Value.int ((p3 >>> ((8 : Int32) &&& 31)).toInt8.toInt32)))).getD ((0 : Int32).toNatClampNeg + i) (Value.int (0 : Int32))) ++ ((own_cp ((own_hd cd).set 6 (Value.int (((vv.toInt64).toInt32).toInt8.toInt32))) 256 ++ List.replicate 256 (Value.int (0 : Int32)))).drop ((7 : Int32).toNatClampNeg + (300 : Int32).toNatClampNeg)) 307).getD (3 : Int32).toNatClampNeg (Value.int (0 : Int32)) = (Value.int (84 : Int32))) (rfl : (own_cp (((own_cp ((own_hd cd).set 6 (Value.int (((vv.toInt64).toInt32).toInt8.toInt32))) 256 ++ List.replicate 256 (Value.int (0 : Int32)))).take (7 : Int32).toNatClampNeg ++ ((List.range (300 : Int32).toNatClampNeg).map fun i => ((((List.replicate 300 (Value.int (0 : Int32))).set 0 (Value.int (p3.toInt8.toInt32))).set 299 (Value.int ((p3 >>> ((8 : Int32) &&& 31)).toInt8.toInt32)))).getD ((0 : Int32).toNatClampNeg + i) (Value.int (0 : Int32))) ++ ((own_cp ((own_hd cd).set 6 (Value.int (((vv.toInt64).toInt32).toInt8.toInt32))) 256 ++ List.replicate 256 (Value.int (0 : Int32)))).drop ((7 : Int32).toNatClampNeg + (300 : Int32).toNatClampNeg)) 307).getD (4 : Int32).toNatClampNeg (Value.int (0 : Int32)) = (Value.int (3 : Int32))) (rfl : (own_cp (((own_cp ((own_hd cd).set 6 (Value.int (((vv.toInt64).toInt32).toInt8.toInt32))) 256 ++ List.replicate 256 (Value.int (0 : Int32)))).take (7 : Int32).toNatClampNeg ++ ((List.range (300 : Int32).toNatClampNeg).map fun i => ((((List.replicate 300 (Value.int (0 : Int32))).set 0 (Value.int (p3.toInt8.toInt32))).set 299 (Value.int ((p3 >>> ((8 : Int32) &&& 31)).toInt8.toInt32)))).getD ((0 : Int32).toNatClampNeg + i) (Value.int (0 : Int32))) ++ ((own_cp ((own_hd cd).set 6 (Value.int (((vv.toInt64).toInt32).toInt8.toInt32))) 256 ++ List.replicate 256 (Value.int (0 : Int32)))).drop ((7 : Int32).toNatClampNeg + (300 : Int32).toNatClampNeg)) 307).getD (5 : Int32).toNatClampNeg (Value.int (0 : Int32)) = (Value.int cd))) hZ148 (hw _ (List.mem_of_getElem? (i := 75) rfl)) (hw _ (List.mem_of_getElem? (i := 74) rfl)) (by decide) (by decide)) (g := (mkF m 286 #[sI p1, sI p2, sI p3, sI p4, sI sel, sR aK, sI cd, sI vv, sI (1 : Int32), sR ob122, sR ob131, sR b_137, sR b_152, sI (1 : Int32), sI (vv.toInt8.toInt32), sI (0 : Int32), sI (0 : Int32), sI (307 : Int32), .unset] [(Value.int cd), (Value.ref b_152)])) rfl (by rw [hml]; rfl) (argsL := [(Value.ref b_152), (Value.int cd)]) (rest := []) (lenOf own_pd10 rfl) rfl (by show 2 * 0 + _ ≤ _; exact Nat.le_of_eq rfl) (hb hby at_286) (fun _ _ => ⟨rfl, rfl, (by decide : 10 + 0 ≤ _), (by decide : 1491 + 0 ≤ _)⟩)
        dsimp only [Pt.U, Pt.locs, Pt.cells, Pt.slots] at X156 l156 y156 z156 st156 hQ156
        subst l156 y156 z156
        refine own_Go.by st156 ?_
        obtain ⟨rfl, N156q, e156⟩ := hQ156
        have N156 := Fr.app N152 N156q
        show own_Go _ _ _ _ (T156.setTop (mkF m 289 #[sI p1, sI p2, sI p3, sI p4, sI sel, sR aK, sI cd, sI vv, sI (1 : Int32), sR ob122, sR ob131, sR b_137, sR b_152, sI (1 : Int32), sI (vv.toInt8.toInt32), sI (0 : Int32), sI (0 : Int32), sI (307 : Int32), .unset] [(Value.int (1 : Int32))]))
        refine own_Go.by (fun tq kq => XS.ifYes X156.here hx rfl (pc0 := 289) (pc' := 294) rfl (hb hby at_289) rfl ((if0 _ _).trans (feq (by decide : ¬ ((1 : Int32) = (0 : Int32)))).2) (by decide) (by decide) kq) ?_
        refine own_Go.by (fun tq kq => XS.aload X156.here hx rfl (hb hby at_294) rfl rfl kq) ?_
        refine own_Go.by (fun tq kq => XS.bipush X156.here hx rfl (hb hby at_296) kq) ?_
        show own_Go _ _ _ _ (T156.setTop (mkF m 298 #[sI p1, sI p2, sI p3, sI p4, sI sel, sR aK, sI cd, sI vv, sI (1 : Int32), sR ob122, sR ob131, sR b_137, sR b_152, sI (1 : Int32), sI (vv.toInt8.toInt32), sI (0 : Int32), sI (0 : Int32), sI (307 : Int32), .unset] [(Value.int (6 : Int32)), (Value.ref b_152)]))
        obtain ⟨cl157, Ar157, q157, S157, M157, Hh157, G157⟩ := id p152_1
        refine own_Go.by (fun tq kq => X156.baloadBytes hx (j := (6 : Int32)) (v := (Value.int (((vv.toInt64).toInt32).toInt8.toInt32))) (by rw [e156]; exact Ar157.1) (State.isArrayOf_alike hZ148.alike Ar157.2.1) Ar157.2.2 (inb_of S157 (by decide : ¬ ((6 : Int32) < (0 : Int32)) ∧ (6 : Int32) < (307 : Int32))) (Has.at Hh157 (inb_of S157 (by decide : ¬ ((6 : Int32) < (0 : Int32)) ∧ (6 : Int32) < (307 : Int32))) rfl) (g := (mkF m 298 #[sI p1, sI p2, sI p3, sI p4, sI sel, sR aK, sI cd, sI vv, sI (1 : Int32), sR ob122, sR ob131, sR b_137, sR b_152, sI (1 : Int32), sI (vv.toInt8.toInt32), sI (0 : Int32), sI (0 : Int32), sI (307 : Int32), .unset] [(Value.int (6 : Int32)), (Value.ref b_152)])) rfl rfl (hb hby at_298) _ kq) ?_
        refine own_Go.by (fun tq kq => XS.iload X156.here hx rfl (hb hby at_299) rfl kq) ?_
        show own_Go _ _ _ _ (T156.setTop (mkF m 301 #[sI p1, sI p2, sI p3, sI p4, sI sel, sR aK, sI cd, sI vv, sI (1 : Int32), sR ob122, sR ob131, sR b_137, sR b_152, sI (1 : Int32), sI (vv.toInt8.toInt32), sI (0 : Int32), sI (0 : Int32), sI (307 : Int32), .unset] [(Value.int (vv.toInt8.toInt32)), (Value.int (((vv.toInt64).toInt32).toInt8.toInt32))]))
        refine own_Go.by (fun tq kq => XS.icmpYes X156.here hx rfl (pc0 := 301) (pc' := 306) rfl (hb hby at_301) rfl (teq (own_e0 vv : (((vv.toInt64).toInt32).toInt8.toInt32) = (vv.toInt8.toInt32))).1 (by decide) (by decide) kq) ?_
        refine own_Go.by (fun tq kq => XS.iload X156.here hx rfl (hb hby at_306) rfl kq) ?_
        refine own_Go.by (fun tq kq => XS.iconst X156.here hx rfl (hb hby at_308) kq) ?_
        show own_Go _ _ _ _ (T156.setTop (mkF m 309 #[sI p1, sI p2, sI p3, sI p4, sI sel, sR aK, sI cd, sI vv, sI (1 : Int32), sR ob122, sR ob131, sR b_137, sR b_152, sI (1 : Int32), sI (vv.toInt8.toInt32), sI (0 : Int32), sI (0 : Int32), sI (307 : Int32), .unset] [(Value.int (2 : Int32)), (Value.int (1 : Int32))]))
        refine own_Go.by (fun tq kq => XS.icmpYes X156.here hx rfl (pc0 := 309) (pc' := 324) rfl (hb hby at_309) rfl (tlt (by decide : (1 : Int32) < (2 : Int32))).1 (by decide) (by decide) kq) ?_
        refine own_Go.by (fun tq kq => XS.iload X156.here hx rfl (hb hby at_324) rfl kq) ?_
        refine own_Go.by (fun tq kq => XS.iconst X156.here hx rfl (hb hby at_326) kq) ?_
        show own_Go _ _ _ _ (T156.setTop (mkF m 327 #[sI p1, sI p2, sI p3, sI p4, sI sel, sR aK, sI cd, sI vv, sI (1 : Int32), sR ob122, sR ob131, sR b_137, sR b_152, sI (1 : Int32), sI (vv.toInt8.toInt32), sI (0 : Int32), sI (0 : Int32), sI (307 : Int32), .unset] [(Value.int (3 : Int32)), (Value.int (1 : Int32))]))
        refine own_Go.by (fun tq kq => XS.icmpYes X156.here hx rfl (pc0 := 327) (pc' := 342) rfl (hb hby at_327) rfl (tlt (by decide : (1 : Int32) < (3 : Int32))).1 (by decide) (by decide) kq) ?_
        refine own_Go.by (fun tq kq => XS.iload X156.here hx rfl (hb hby at_342) rfl kq) ?_
        show own_Go _ _ _ _ (T156.setTop (mkF m 344 #[sI p1, sI p2, sI p3, sI p4, sI sel, sR aK, sI cd, sI vv, sI (1 : Int32), sR ob122, sR ob131, sR b_137, sR b_152, sI (1 : Int32), sI (vv.toInt8.toInt32), sI (0 : Int32), sI (0 : Int32), sI (307 : Int32), .unset] [(Value.int (1 : Int32))]))
        refine own_Go.by (fun tq kq => XS.ifNo X156.here hx rfl (hb hby at_344) rfl ((if0 _ _).trans (feq (by decide : ¬ ((1 : Int32) = (0 : Int32)))).1) kq) ?_
        refine own_Go.by (fun tq kq => XS.bipush X156.here hx rfl (hb hby at_347) kq) ?_
        refine own_Go.by (fun tq kq => XS.iload X156.here hx rfl (hb hby at_349) rfl kq) ?_
        refine own_Go.by (fun tq kq => XS.iadd X156.here hx rfl (hb hby at_351) rfl kq) ?_
        show own_Go _ _ _ _ (T156.setTop (mkF m 352 #[sI p1, sI p2, sI p3, sI p4, sI sel, sR aK, sI cd, sI vv, sI (1 : Int32), sR ob122, sR ob131, sR b_137, sR b_152, sI (1 : Int32), sI (vv.toInt8.toInt32), sI (0 : Int32), sI (0 : Int32), sI (307 : Int32), .unset] [(Value.int (7 : Int32))]))
        refine own_Go.by (fun tq kq => XS.istore X156.here hx rfl (hb hby at_352) rfl (l' := #[sI p1, sI p2, sI p3, sI p4, sI sel, sR aK, sI cd, sI vv, sI (1 : Int32), sR ob122, sR ob131, sR b_137, sR b_152, sI (1 : Int32), sI (vv.toInt8.toInt32), sI (0 : Int32), sI (0 : Int32), sI (307 : Int32), sI (7 : Int32)]) rfl kq) ?_
        refine own_Go.by (fun tq kq => XS.aload X156.here hx rfl (hb hby at_354) rfl rfl kq) ?_
        refine own_Go.by (fun tq kq => XS.iload X156.here hx rfl (hb hby at_356) rfl kq) ?_
        show own_Go _ _ _ _ (T156.setTop (mkF m 358 #[sI p1, sI p2, sI p3, sI p4, sI sel, sR aK, sI cd, sI vv, sI (1 : Int32), sR ob122, sR ob131, sR b_137, sR b_152, sI (1 : Int32), sI (vv.toInt8.toInt32), sI (0 : Int32), sI (0 : Int32), sI (307 : Int32), sI (7 : Int32)] [(Value.int (7 : Int32)), (Value.ref b_152)]))
        obtain ⟨cl158, Ar158, q158, S158, M158, Hh158, G158⟩ := id p152_1
        refine own_Go.by (fun tq kq => X156.baloadBytes hx (j := (7 : Int32)) (v := (Value.int (p3.toInt8.toInt32))) (by rw [e156]; exact Ar158.1) (State.isArrayOf_alike hZ148.alike Ar158.2.1) Ar158.2.2 (inb_of S158 (by decide : ¬ ((7 : Int32) < (0 : Int32)) ∧ (7 : Int32) < (307 : Int32))) (Has.at Hh158 (inb_of S158 (by decide : ¬ ((7 : Int32) < (0 : Int32)) ∧ (7 : Int32) < (307 : Int32))) rfl) (g := (mkF m 358 #[sI p1, sI p2, sI p3, sI p4, sI sel, sR aK, sI cd, sI vv, sI (1 : Int32), sR ob122, sR ob131, sR b_137, sR b_152, sI (1 : Int32), sI (vv.toInt8.toInt32), sI (0 : Int32), sI (0 : Int32), sI (307 : Int32), sI (7 : Int32)] [(Value.int (7 : Int32)), (Value.ref b_152)])) rfl rfl (hb hby at_358) _ kq) ?_
        refine own_Go.by (fun tq kq => XS.aload X156.here hx rfl (hb hby at_359) rfl rfl kq) ?_
        refine own_Go.by (fun tq kq => XS.iconst X156.here hx rfl (hb hby at_361) kq) ?_
        show own_Go _ _ _ _ (T156.setTop (mkF m 362 #[sI p1, sI p2, sI p3, sI p4, sI sel, sR aK, sI cd, sI vv, sI (1 : Int32), sR ob122, sR ob131, sR b_137, sR b_152, sI (1 : Int32), sI (vv.toInt8.toInt32), sI (0 : Int32), sI (0 : Int32), sI (307 : Int32), sI (7 : Int32)] [(Value.int (0 : Int32)), (Value.ref ob122), (Value.int (p3.toInt8.toInt32))]))
        have c159 := ((c149.keep K148q (ninS (Nat.ne_of_lt (Nat.lt_of_lt_of_le A122.lt (Nat.le_trans (Keep.of_wr W126).1 (Nat.le_trans (Keep.of_wr W129).1 (Nat.le_of_eq y131.symm))))) nin0)).keep K152q nin0)
        obtain ⟨cl160, Ar160, q160, S160, M160, Hh160, G160⟩ := id c159
        refine own_Go.by (fun tq kq => X156.baloadBytes hx (j := (0 : Int32)) (v := (Value.int (p3.toInt8.toInt32))) (by rw [e156]; exact Ar160.1) (State.isArrayOf_alike hZ148.alike Ar160.2.1) Ar160.2.2 (inb_of S160 (by decide : ¬ ((0 : Int32) < (0 : Int32)) ∧ (0 : Int32) < (300 : Int32))) (Has.at Hh160 (inb_of S160 (by decide : ¬ ((0 : Int32) < (0 : Int32)) ∧ (0 : Int32) < (300 : Int32))) rfl) (g := (mkF m 362 #[sI p1, sI p2, sI p3, sI p4, sI sel, sR aK, sI cd, sI vv, sI (1 : Int32), sR ob122, sR ob131, sR b_137, sR b_152, sI (1 : Int32), sI (vv.toInt8.toInt32), sI (0 : Int32), sI (0 : Int32), sI (307 : Int32), sI (7 : Int32)] [(Value.int (0 : Int32)), (Value.ref ob122), (Value.int (p3.toInt8.toInt32))])) rfl rfl (hb hby at_362) _ kq) ?_
        show own_Go _ _ _ _ (T156.setTop (mkF m 363 #[sI p1, sI p2, sI p3, sI p4, sI sel, sR aK, sI cd, sI vv, sI (1 : Int32), sR ob122, sR ob131, sR b_137, sR b_152, sI (1 : Int32), sI (vv.toInt8.toInt32), sI (0 : Int32), sI (0 : Int32), sI (307 : Int32), sI (7 : Int32)] [(Value.int (p3.toInt8.toInt32)), (Value.int (p3.toInt8.toInt32))]))
        refine own_Go.by (fun tq kq => XS.icmpNo X156.here hx rfl (hb hby at_363) rfl (teq (rfl : (p3.toInt8.toInt32) = (p3.toInt8.toInt32))).2 kq) ?_
        refine own_Go.by (fun tq kq => XS.aload X156.here hx rfl (hb hby at_366) rfl rfl kq) ?_
        refine own_Go.by (fun tq kq => XS.iload X156.here hx rfl (hb hby at_368) rfl kq) ?_
        refine own_Go.by (fun tq kq => XS.sipush X156.here hx rfl (hb hby at_370) kq) ?_
        show own_Go _ _ _ _ (T156.setTop (mkF m 373 #[sI p1, sI p2, sI p3, sI p4, sI sel, sR aK, sI cd, sI vv, sI (1 : Int32), sR ob122, sR ob131, sR b_137, sR b_152, sI (1 : Int32), sI (vv.toInt8.toInt32), sI (0 : Int32), sI (0 : Int32), sI (307 : Int32), sI (7 : Int32)] [(Value.int (150 : Int32)), (Value.int (7 : Int32)), (Value.ref b_152)]))
        refine own_Go.by (fun tq kq => XS.iadd X156.here hx rfl (hb hby at_373) rfl kq) ?_
        show own_Go _ _ _ _ (T156.setTop (mkF m 374 #[sI p1, sI p2, sI p3, sI p4, sI sel, sR aK, sI cd, sI vv, sI (1 : Int32), sR ob122, sR ob131, sR b_137, sR b_152, sI (1 : Int32), sI (vv.toInt8.toInt32), sI (0 : Int32), sI (0 : Int32), sI (307 : Int32), sI (7 : Int32)] [(Value.int (157 : Int32)), (Value.ref b_152)]))
        obtain ⟨cl161, Ar161, q161, S161, M161, Hh161, G161⟩ := id p152_1
        refine own_Go.by (fun tq kq => X156.baloadBytes hx (j := (157 : Int32)) (v := (Value.int (0 : Int32))) (by rw [e156]; exact Ar161.1) (State.isArrayOf_alike hZ148.alike Ar161.2.1) Ar161.2.2 (inb_of S161 (by decide : ¬ ((157 : Int32) < (0 : Int32)) ∧ (157 : Int32) < (307 : Int32))) (Has.at Hh161 (inb_of S161 (by decide : ¬ ((157 : Int32) < (0 : Int32)) ∧ (157 : Int32) < (307 : Int32))) rfl) (g := (mkF m 374 #[sI p1, sI p2, sI p3, sI p4, sI sel, sR aK, sI cd, sI vv, sI (1 : Int32), sR ob122, sR ob131, sR b_137, sR b_152, sI (1 : Int32), sI (vv.toInt8.toInt32), sI (0 : Int32), sI (0 : Int32), sI (307 : Int32), sI (7 : Int32)] [(Value.int (157 : Int32)), (Value.ref b_152)])) rfl rfl (hb hby at_374) _ kq) ?_
        show own_Go _ _ _ _ (T156.setTop (mkF m 375 #[sI p1, sI p2, sI p3, sI p4, sI sel, sR aK, sI cd, sI vv, sI (1 : Int32), sR ob122, sR ob131, sR b_137, sR b_152, sI (1 : Int32), sI (vv.toInt8.toInt32), sI (0 : Int32), sI (0 : Int32), sI (307 : Int32), sI (7 : Int32)] [(Value.int (0 : Int32))]))
        refine own_Go.by (fun tq kq => XS.ifNo X156.here hx rfl (hb hby at_375) rfl ((if0 _ _).trans (teq (by decide : (0 : Int32) = (0 : Int32))).2) kq) ?_
        refine own_Go.by (fun tq kq => XS.aload X156.here hx rfl (hb hby at_378) rfl rfl kq) ?_
        refine own_Go.by (fun tq kq => XS.iload X156.here hx rfl (hb hby at_380) rfl kq) ?_
        refine own_Go.by (fun tq kq => XS.sipush X156.here hx rfl (hb hby at_382) kq) ?_
        show own_Go _ _ _ _ (T156.setTop (mkF m 385 #[sI p1, sI p2, sI p3, sI p4, sI sel, sR aK, sI cd, sI vv, sI (1 : Int32), sR ob122, sR ob131, sR b_137, sR b_152, sI (1 : Int32), sI (vv.toInt8.toInt32), sI (0 : Int32), sI (0 : Int32), sI (307 : Int32), sI (7 : Int32)] [(Value.int (299 : Int32)), (Value.int (7 : Int32)), (Value.ref b_152)]))
        refine own_Go.by (fun tq kq => XS.iadd X156.here hx rfl (hb hby at_385) rfl kq) ?_
        show own_Go _ _ _ _ (T156.setTop (mkF m 386 #[sI p1, sI p2, sI p3, sI p4, sI sel, sR aK, sI cd, sI vv, sI (1 : Int32), sR ob122, sR ob131, sR b_137, sR b_152, sI (1 : Int32), sI (vv.toInt8.toInt32), sI (0 : Int32), sI (0 : Int32), sI (307 : Int32), sI (7 : Int32)] [(Value.int (306 : Int32)), (Value.ref b_152)]))
        obtain ⟨cl162, Ar162, q162, S162, M162, Hh162, G162⟩ := id p152_1
        refine own_Go.by (fun tq kq => X156.baloadBytes hx (j := (306 : Int32)) (v := (Value.int ((p3 >>> ((8 : Int32) &&& 31)).toInt8.toInt32))) (by rw [e156]; exact Ar162.1) (State.isArrayOf_alike hZ148.alike Ar162.2.1) Ar162.2.2 (inb_of S162 (by decide : ¬ ((306 : Int32) < (0 : Int32)) ∧ (306 : Int32) < (307 : Int32))) (Has.at Hh162 (inb_of S162 (by decide : ¬ ((306 : Int32) < (0 : Int32)) ∧ (306 : Int32) < (307 : Int32))) rfl) (g := (mkF m 386 #[sI p1, sI p2, sI p3, sI p4, sI sel, sR aK, sI cd, sI vv, sI (1 : Int32), sR ob122, sR ob131, sR b_137, sR b_152, sI (1 : Int32), sI (vv.toInt8.toInt32), sI (0 : Int32), sI (0 : Int32), sI (307 : Int32), sI (7 : Int32)] [(Value.int (306 : Int32)), (Value.ref b_152)])) rfl rfl (hb hby at_386) _ kq) ?_
        refine own_Go.by (fun tq kq => XS.aload X156.here hx rfl (hb hby at_387) rfl rfl kq) ?_
        refine own_Go.by (fun tq kq => XS.sipush X156.here hx rfl (hb hby at_389) kq) ?_
        show own_Go _ _ _ _ (T156.setTop (mkF m 392 #[sI p1, sI p2, sI p3, sI p4, sI sel, sR aK, sI cd, sI vv, sI (1 : Int32), sR ob122, sR ob131, sR b_137, sR b_152, sI (1 : Int32), sI (vv.toInt8.toInt32), sI (0 : Int32), sI (0 : Int32), sI (307 : Int32), sI (7 : Int32)] [(Value.int (299 : Int32)), (Value.ref ob122), (Value.int ((p3 >>> ((8 : Int32) &&& 31)).toInt8.toInt32))]))
        obtain ⟨cl163, Ar163, q163, S163, M163, Hh163, G163⟩ := id c159
        refine own_Go.by (fun tq kq => X156.baloadBytes hx (j := (299 : Int32)) (v := (Value.int ((p3 >>> ((8 : Int32) &&& 31)).toInt8.toInt32))) (by rw [e156]; exact Ar163.1) (State.isArrayOf_alike hZ148.alike Ar163.2.1) Ar163.2.2 (inb_of S163 (by decide : ¬ ((299 : Int32) < (0 : Int32)) ∧ (299 : Int32) < (300 : Int32))) (Has.at Hh163 (inb_of S163 (by decide : ¬ ((299 : Int32) < (0 : Int32)) ∧ (299 : Int32) < (300 : Int32))) rfl) (g := (mkF m 392 #[sI p1, sI p2, sI p3, sI p4, sI sel, sR aK, sI cd, sI vv, sI (1 : Int32), sR ob122, sR ob131, sR b_137, sR b_152, sI (1 : Int32), sI (vv.toInt8.toInt32), sI (0 : Int32), sI (0 : Int32), sI (307 : Int32), sI (7 : Int32)] [(Value.int (299 : Int32)), (Value.ref ob122), (Value.int ((p3 >>> ((8 : Int32) &&& 31)).toInt8.toInt32))])) rfl rfl (hb hby at_392) _ kq) ?_
        show own_Go _ _ _ _ (T156.setTop (mkF m 393 #[sI p1, sI p2, sI p3, sI p4, sI sel, sR aK, sI cd, sI vv, sI (1 : Int32), sR ob122, sR ob131, sR b_137, sR b_152, sI (1 : Int32), sI (vv.toInt8.toInt32), sI (0 : Int32), sI (0 : Int32), sI (307 : Int32), sI (7 : Int32)] [(Value.int ((p3 >>> ((8 : Int32) &&& 31)).toInt8.toInt32)), (Value.int ((p3 >>> ((8 : Int32) &&& 31)).toInt8.toInt32))]))
        refine own_Go.by (fun tq kq => XS.icmpYes X156.here hx rfl (pc0 := 393) (pc' := 398) rfl (hb hby at_393) rfl (teq (rfl : ((p3 >>> ((8 : Int32) &&& 31)).toInt8.toInt32) = ((p3 >>> ((8 : Int32) &&& 31)).toInt8.toInt32))).1 (by decide) (by decide) kq) ?_
        refine own_Go.by (fun tq kq => XS.aload X156.here hx rfl (hb hby at_398) rfl rfl kq) ?_
        refine own_Go.by (fun tq kq => XS.iconst X156.here hx rfl (hb hby at_400) kq) ?_
        refine own_Go.by (fun tq kq => XS.aload X156.here hx rfl (hb hby at_401) rfl rfl kq) ?_
        show own_Go _ _ _ _ (T156.setTop (mkF m 403 #[sI p1, sI p2, sI p3, sI p4, sI sel, sR aK, sI cd, sI vv, sI (1 : Int32), sR ob122, sR ob131, sR b_137, sR b_152, sI (1 : Int32), sI (vv.toInt8.toInt32), sI (0 : Int32), sI (0 : Int32), sI (307 : Int32), sI (7 : Int32)] [(Value.ref b_152), (Value.int (0 : Int32)), (Value.ref b_152)]))
        refine own_Go.by (fun tq kq => XS.iconst X156.here hx rfl (hb hby at_403) kq) ?_
        show own_Go _ _ _ _ (T156.setTop (mkF m 404 #[sI p1, sI p2, sI p3, sI p4, sI sel, sR aK, sI cd, sI vv, sI (1 : Int32), sR ob122, sR ob131, sR b_137, sR b_152, sI (1 : Int32), sI (vv.toInt8.toInt32), sI (0 : Int32), sI (0 : Int32), sI (307 : Int32), sI (7 : Int32)] [(Value.int (0 : Int32)), (Value.ref b_152), (Value.int (0 : Int32)), (Value.ref b_152)]))
        obtain ⟨cl164, Ar164, q164, S164, M164, Hh164, G164⟩ := id p152_1
        refine own_Go.by (fun tq kq => X156.baloadBytes hx (j := (0 : Int32)) (v := (Value.int (69 : Int32))) (by rw [e156]; exact Ar164.1) (State.isArrayOf_alike hZ148.alike Ar164.2.1) Ar164.2.2 (inb_of S164 (by decide : ¬ ((0 : Int32) < (0 : Int32)) ∧ (0 : Int32) < (307 : Int32))) (Has.at Hh164 (inb_of S164 (by decide : ¬ ((0 : Int32) < (0 : Int32)) ∧ (0 : Int32) < (307 : Int32))) rfl) (g := (mkF m 404 #[sI p1, sI p2, sI p3, sI p4, sI sel, sR aK, sI cd, sI vv, sI (1 : Int32), sR ob122, sR ob131, sR b_137, sR b_152, sI (1 : Int32), sI (vv.toInt8.toInt32), sI (0 : Int32), sI (0 : Int32), sI (307 : Int32), sI (7 : Int32)] [(Value.int (0 : Int32)), (Value.ref b_152), (Value.int (0 : Int32)), (Value.ref b_152)])) rfl rfl (hb hby at_404) _ kq) ?_
        refine own_Go.by (fun tq kq => XS.iconst X156.here hx rfl (hb hby at_405) kq) ?_
        refine own_Go.by (fun tq kq => XS.iadd X156.here hx rfl (hb hby at_406) rfl kq) ?_
        refine own_Go.by (fun tq kq => XS.i2b X156.here hx rfl (hb hby at_407) rfl kq) ?_
        show own_Go _ _ _ _ (T156.setTop (mkF m 408 #[sI p1, sI p2, sI p3, sI p4, sI sel, sR aK, sI cd, sI vv, sI (1 : Int32), sR ob122, sR ob131, sR b_137, sR b_152, sI (1 : Int32), sI (vv.toInt8.toInt32), sI (0 : Int32), sI (0 : Int32), sI (307 : Int32), sI (7 : Int32)] [(Value.int ((70 : Int32).toInt8.toInt32)), (Value.int (0 : Int32)), (Value.ref b_152)]))
        obtain ⟨cl165, Ar165, q165, S165, M165, Hh165, G165⟩ := id p152_1
        obtain ⟨T166, h166, X166, e166, W166, st166⟩ := stB X156 hx hZ148 e156 Ar165 (j := (0 : Int32)) (inb_of S165 ⟨(by decide : ¬ ((0 : Int32) < (0 : Int32))), (by decide : (0 : Int32) < (307 : Int32))⟩) (g := (mkF m 408 #[sI p1, sI p2, sI p3, sI p4, sI sel, sR aK, sI cd, sI vv, sI (1 : Int32), sR ob122, sR ob131, sR b_137, sR b_152, sI (1 : Int32), sI (vv.toInt8.toInt32), sI (0 : Int32), sI (0 : Int32), sI (307 : Int32), sI (7 : Int32)] [(Value.int ((70 : Int32).toInt8.toInt32)), (Value.int (0 : Int32)), (Value.ref b_152)])) rfl rfl (hb hby at_408)
        refine own_Go.by st166 ?_
        have N166 := Fr.snoc X166 N156 g154
        have O167 := O153.wr W166 g154
        have K167 := K153.wr W166 (Or.inr z154)
        have hk_167 := Nat.le_trans hk_153 (Keep.of_wr W166).1
        rw [show nar .byte ((70 : Int32).toInt8.toInt32) = ((70 : Int32).toInt8.toInt32) from own_b8 _] at W166
        have V166 : Arv Z h166 b_152 k2_152 .byte (307 : Int32) ((own_cp (((own_cp ((own_hd cd).set 6 (Value.int (((vv.toInt64).toInt32).toInt8.toInt32))) 256 ++ List.replicate 256 (Value.int (0 : Int32)))).take (7 : Int32).toNatClampNeg ++ ((List.range (300 : Int32).toNatClampNeg).map fun i => ((((List.replicate 300 (Value.int (0 : Int32))).set 0 (Value.int (p3.toInt8.toInt32))).set 299 (Value.int ((p3 >>> ((8 : Int32) &&& 31)).toInt8.toInt32)))).getD ((0 : Int32).toNatClampNeg + i) (Value.int (0 : Int32))) ++ ((own_cp ((own_hd cd).set 6 (Value.int (((vv.toInt64).toInt32).toInt8.toInt32))) 256 ++ List.replicate 256 (Value.int (0 : Int32)))).drop ((7 : Int32).toNatClampNeg + (300 : Int32).toNatClampNeg)) 307).set 0 (Value.int ((70 : Int32).toInt8.toInt32))) (Value.int (0 : Int32)) := Arv.set Ar165 q165 S165 M165 Hh165 G165 (own_fitB (own_b8 _)) W166 0 (rfl) (Nat.le_of_ble_eq_true rfl)
        refine own_Go.by (fun tq kq => XS.aload X166.here hx rfl (hb hby at_409) rfl rfl kq) ?_
        refine own_Go.by (fun tq kq => XS.iconst X166.here hx rfl (hb hby at_411) kq) ?_
        refine own_Go.by (fun tq kq => XS.iconst X166.here hx rfl (hb hby at_412) kq) ?_
        show own_Go _ _ _ _ (T166.setTop (mkF m 413 #[sI p1, sI p2, sI p3, sI p4, sI sel, sR aK, sI cd, sI vv, sI (1 : Int32), sR ob122, sR ob131, sR b_137, sR b_152, sI (1 : Int32), sI (vv.toInt8.toInt32), sI (0 : Int32), sI (0 : Int32), sI (307 : Int32), sI (7 : Int32)] [(Value.int (0 : Int32)), (Value.int (1 : Int32)), (Value.ref b_137)]))
        have c168 := ((((p137_1.keep K142q (ninS (Ne.symm (Nat.ne_of_lt (Nat.lt_of_lt_of_le A131.lt (Nat.le_trans K134q.1 p137_0)))) (ninS (Ne.symm (Nat.ne_of_lt (Nat.lt_of_lt_of_le p134_4.lt p137_0))) nin0))).keep K148q (ninS (Ne.symm (Nat.ne_of_lt (Nat.lt_of_lt_of_le A131.lt (Nat.le_trans K134q.1 p137_0)))) nin0)).keep K152q nin0).other W166 (Nat.ne_of_lt (Nat.lt_of_lt_of_le p137_1.lt (Nat.le_trans K142q.1 (Nat.le_trans K148q.1 p152_0)))))
        obtain ⟨cl169, Ar169, q169, S169, M169, Hh169, G169⟩ := id c168
        obtain ⟨T170, h170, X170, e170, W170, st170⟩ := stB X166 hx hZ148 e166 Ar169 (j := (1 : Int32)) (inb_of S169 ⟨(by decide : ¬ ((1 : Int32) < (0 : Int32))), (by decide : (1 : Int32) < (6 : Int32))⟩) (g := (mkF m 413 #[sI p1, sI p2, sI p3, sI p4, sI sel, sR aK, sI cd, sI vv, sI (1 : Int32), sR ob122, sR ob131, sR b_137, sR b_152, sI (1 : Int32), sI (vv.toInt8.toInt32), sI (0 : Int32), sI (0 : Int32), sI (307 : Int32), sI (7 : Int32)] [(Value.int (0 : Int32)), (Value.int (1 : Int32)), (Value.ref b_137)])) rfl rfl (hb hby at_413)
        refine own_Go.by st170 ?_
        have N170 := Fr.snoc X170 N166 g139
        have O171 := O167.wr W170 g139
        have K171 := K167.wr W170 (Or.inr z139)
        have hk_171 := Nat.le_trans hk_167 (Keep.of_wr W170).1
        rw [show nar .byte (0 : Int32) = (0 : Int32) from (rfl : ((0 : Int32).toInt8.toInt32) = (0 : Int32))] at W170
        have V170 : Arv Z h170 b_137 k2_137 .byte (6 : Int32) ((own_cp (own_hd cd) 6).set 1 (Value.int (0 : Int32))) (Value.int (0 : Int32)) := Arv.set Ar169 q169 S169 M169 Hh169 G169 (own_fitB ((rfl : ((0 : Int32).toInt8.toInt32) = (0 : Int32)))) W170 1 (rfl) (Nat.le_of_ble_eq_true rfl)
        refine own_Go.by (fun tq kq => XS.aload X170.here hx rfl (hb hby at_414) rfl rfl kq) ?_
        show own_Go _ _ _ _ (T170.setTop (mkF m 416 #[sI p1, sI p2, sI p3, sI p4, sI sel, sR aK, sI cd, sI vv, sI (1 : Int32), sR ob122, sR ob131, sR b_137, sR b_152, sI (1 : Int32), sI (vv.toInt8.toInt32), sI (0 : Int32), sI (0 : Int32), sI (307 : Int32), sI (7 : Int32)] [(Value.ref ob131)]))
        have c173 := (((p148_1.keep K152q).wr W166).wr W170)
        have c174 := (((p148_2.keep K152q nin0).other W166 (Or.inl (Nat.ne_of_lt (Nat.lt_of_lt_of_le A131.lt (Nat.le_trans K134q.1 (Nat.le_trans K137q.1 (Nat.le_trans K142q.1 (Nat.le_trans K148q.1 p152_0)))))))).other W170 (Or.inl (Nat.ne_of_lt (Nat.lt_of_lt_of_le A131.lt (Nat.le_trans K134q.1 p137_0)))))
        have c175 := (((p148_3.keep K152q nin0).other W166 (Or.inl (Nat.ne_of_lt (Nat.lt_of_lt_of_le A131.lt (Nat.le_trans K134q.1 (Nat.le_trans K137q.1 (Nat.le_trans K142q.1 (Nat.le_trans K148q.1 p152_0)))))))).other W170 (Or.inl (Nat.ne_of_lt (Nat.lt_of_lt_of_le A131.lt (Nat.le_trans K134q.1 p137_0)))))
        have c176 := (((p148_4.keep K152q nin0).other W166 (Nat.ne_of_lt (Nat.lt_of_lt_of_le p148_4.lt p152_0))).other W170 (Ne.symm (Nat.ne_of_lt (Nat.lt_of_lt_of_le p137_1.lt (Nat.le_trans K142q.1 p148_0)))))
        obtain ⟨cq172, kq172, q172a, q172b, q172c⟩ := isOf hZ148 e170 c173
        obtain ⟨_, _, ⟨T172, L172, k172, n172⟩, -, X172, ⟨Lc172, hQ172, l172, y172, z172⟩, st172⟩ := X170.virtualBack hx (y := (⟨"com/example/ebbtide/ebbtide/core/Encoder", "toByteArray", "()[B"⟩ : MethodName)) (z := (⟨"com/example/ebbtide/ebbtide/core/Encoder", "toByteArray", "()[B"⟩ : MethodName)) hown148 (mvT hZ148 (hw _ (List.mem_of_getElem? (i := 55) rfl))) (mvT hZ148 (hw _ (List.mem_of_getElem? (i := 56) rfl))) (notFace_of_selects (args := #[]) (mvT hZ148 (hw _ (List.mem_of_getElem? (i := 58) rfl)))) (mvT hZ148 (hw _ (List.mem_of_getElem? (i := 58) rfl))) (mvT hZ148 (hw _ (List.mem_of_getElem? (i := 57) rfl))) (by decide) (backOf (W := 0) (rm8_512_307 l Z a0 hw [] ob131 b_148 k2_148 (((own_cp ((own_hd cd).set 6 (Value.int (((vv.toInt64).toInt32).toInt8.toInt32))) 256 ++ List.replicate 256 (Value.int (0 : Int32)))).take (7 : Int32).toNatClampNeg ++ ((List.range (300 : Int32).toNatClampNeg).map fun i => ((((List.replicate 300 (Value.int (0 : Int32))).set 0 (Value.int (p3.toInt8.toInt32))).set 299 (Value.int ((p3 >>> ((8 : Int32) &&& 31)).toInt8.toInt32)))).getD ((0 : Int32).toNatClampNeg + i) (Value.int (0 : Int32))) ++ ((own_cp ((own_hd cd).set 6 (Value.int (((vv.toInt64).toInt32).toInt8.toInt32))) 256 ++ List.replicate 256 (Value.int (0 : Int32)))).drop ((7 : Int32).toNatClampNeg + (300 : Int32).toNatClampNeg)) h170 n0 O171 c173 c174 c175 c176) hZ148 (hw _ (List.mem_of_getElem? (i := 59) rfl)) (hw _ (List.mem_of_getElem? (i := 8) rfl)) (by decide) (by decide)) q172a q172c (g := (mkF m 416 #[sI p1, sI p2, sI p3, sI p4, sI sel, sR aK, sI cd, sI vv, sI (1 : Int32), sR ob122, sR ob131, sR b_137, sR b_152, sI (1 : Int32), sI (vv.toInt8.toInt32), sI (0 : Int32), sI (0 : Int32), sI (307 : Int32), sI (7 : Int32)] [(Value.ref ob131)])) rfl (by rw [hml]; rfl) (Steps.refl _) (argsL := []) (rest := []) (lenOf own_pd9 rfl) rfl (by show 2 * 0 + _ ≤ _; exact Nat.le_of_eq rfl) (hb hby at_416) (fun _ _ => ⟨rfl, e170, (by decide : 10 + 1 ≤ _), (by decide : 1491 + 307 ≤ _)⟩)
        dsimp only [Pt.U, Pt.locs, Pt.cells, Pt.slots] at X172 l172 y172 z172 st172 hQ172
        subst l172 y172 z172
        refine own_Go.by (fun tq kq => st172.trans kq) ?_
        obtain ⟨b_172, k2_172, rfl, N172q, K172q, p172_0, p172_1⟩ := hQ172
        have N172 := Fr.app N170 N172q
        have O177 := O171.keep K172q all0
        have K177 := K171.trans K172q all0
        have hk_177 := Nat.le_trans hk_171 K172q.1
        have g178 : n0 ≤ b_172 := Nat.le_trans (own_old_le O171) p172_0
        have z178 : h0.size ≤ b_172 := Nat.le_trans K171.1 p172_0
        refine own_Go.by (fun tq kq => XS.astore X172.here hx rfl (hb hby at_419) rfl rfl (l' := #[sI p1, sI p2, sI p3, sI p4, sI sel, sR aK, sI cd, sI vv, sI (1 : Int32), sR ob122, sR ob131, sR b_137, sR b_152, sI (1 : Int32), sI (vv.toInt8.toInt32), sI (0 : Int32), sI (0 : Int32), sI (307 : Int32), sR b_172]) rfl kq) ?_
        refine own_Go.by (fun tq kq => XS.aload X172.here hx rfl (hb hby at_421) rfl rfl kq) ?_
        show own_Go _ _ _ _ (T172.setTop (mkF m 423 #[sI p1, sI p2, sI p3, sI p4, sI sel, sR aK, sI cd, sI vv, sI (1 : Int32), sR ob122, sR ob131, sR b_137, sR b_152, sI (1 : Int32), sI (vv.toInt8.toInt32), sI (0 : Int32), sI (0 : Int32), sI (307 : Int32), sR b_172] [(Value.ref b_172)]))
        obtain ⟨cl179, Ar179, q179, S179, M179, Hh179, G179⟩ := id p172_1
        refine own_Go.by (fun tq kq => X172.arraylength hx Ar179.1 (State.isArrayOf_alike hZ148.alike Ar179.2.1) (g := (mkF m 423 #[sI p1, sI p2, sI p3, sI p4, sI sel, sR aK, sI cd, sI vv, sI (1 : Int32), sR ob122, sR ob131, sR b_137, sR b_152, sI (1 : Int32), sI (vv.toInt8.toInt32), sI (0 : Int32), sI (0 : Int32), sI (307 : Int32), sR b_172] [(Value.ref b_172)])) rfl rfl (hb hby at_423) _ kq) ?_
        rw [len_of S179 M179]
        refine own_Go.by (fun tq kq => XS.iload X172.here hx rfl (hb hby at_424) rfl kq) ?_
        show own_Go _ _ _ _ (T172.setTop (mkF m 426 #[sI p1, sI p2, sI p3, sI p4, sI sel, sR aK, sI cd, sI vv, sI (1 : Int32), sR ob122, sR ob131, sR b_137, sR b_152, sI (1 : Int32), sI (vv.toInt8.toInt32), sI (0 : Int32), sI (0 : Int32), sI (307 : Int32), sR b_172] [(Value.int (307 : Int32)), (Value.int (307 : Int32))]))
        refine own_Go.by (fun tq kq => XS.icmpNo X172.here hx rfl (hb hby at_426) rfl (teq (by decide : (307 : Int32) = (307 : Int32))).2 kq) ?_
        refine own_Go.by (fun tq kq => XS.aload X172.here hx rfl (hb hby at_429) rfl rfl kq) ?_
        refine own_Go.by (fun tq kq => XS.iload X172.here hx rfl (hb hby at_431) rfl kq) ?_
        show own_Go _ _ _ _ (T172.setTop (mkF m 433 #[sI p1, sI p2, sI p3, sI p4, sI sel, sR aK, sI cd, sI vv, sI (1 : Int32), sR ob122, sR ob131, sR b_137, sR b_152, sI (1 : Int32), sI (vv.toInt8.toInt32), sI (0 : Int32), sI (0 : Int32), sI (307 : Int32), sR b_172] [(Value.int cd), (Value.ref b_172)]))
        obtain ⟨_, _, ⟨T180, L180, k180, n180⟩, -, X180, ⟨Lc180, hQ180, l180, y180, z180⟩, st180⟩ := Jvm.LawKit.callS X172 hx (y := (⟨"com/example/ebbtide/ebbtide/core/EncoderToByteArrayPinLaw", "header", "([BI)Z"⟩ : MethodName)) hown148 (mvT hZ148 (hw _ (List.mem_of_getElem? (i := 72) rfl))) (mvT hZ148 (hw _ (List.mem_of_getElem? (i := 73) rfl))) (mvT hZ148 (hw _ (List.mem_of_getElem? (i := 74) rfl))) (mvT hZ148 (hw _ (List.mem_of_getElem? (i := 75) rfl))) (by decide) (backOf (W := 0) (rm11 l Z a0 hw [] b_172 k2_172 (307 : Int32) (own_cp (((own_cp ((own_hd cd).set 6 (Value.int (((vv.toInt64).toInt32).toInt8.toInt32))) 256 ++ List.replicate 256 (Value.int (0 : Int32)))).take (7 : Int32).toNatClampNeg ++ ((List.range (300 : Int32).toNatClampNeg).map fun i => ((((List.replicate 300 (Value.int (0 : Int32))).set 0 (Value.int (p3.toInt8.toInt32))).set 299 (Value.int ((p3 >>> ((8 : Int32) &&& 31)).toInt8.toInt32)))).getD ((0 : Int32).toNatClampNeg + i) (Value.int (0 : Int32))) ++ ((own_cp ((own_hd cd).set 6 (Value.int (((vv.toInt64).toInt32).toInt8.toInt32))) 256 ++ List.replicate 256 (Value.int (0 : Int32)))).drop ((7 : Int32).toNatClampNeg + (300 : Int32).toNatClampNeg)) 307) cd T172.heap n0 O177 p172_1 (by decide : ¬ ((307 : Int32) < (6 : Int32))) (by decide : ¬ ((0 : Int32) < (0 : Int32)) ∧ (0 : Int32) < (307 : Int32)) (by decide : ¬ ((1 : Int32) < (0 : Int32)) ∧ (1 : Int32) < (307 : Int32)) (by decide : ¬ ((2 : Int32) < (0 : Int32)) ∧ (2 : Int32) < (307 : Int32)) (by decide : ¬ ((3 : Int32) < (0 : Int32)) ∧ (3 : Int32) < (307 : Int32)) (by decide : ¬ ((4 : Int32) < (0 : Int32)) ∧ (4 : Int32) < (307 : Int32)) (by decide : ¬ ((5 : Int32) < (0 : Int32)) ∧ (5 : Int32) < (307 : Int32)) (rfl : (own_cp (((own_cp ((own_hd cd).set 6 (Value.int (((vv.toInt64).toInt32).toInt8.toInt32))) 256 ++ List.replicate 256 (Value.int (0 : Int32)))).take (7 : Int32).toNatClampNeg ++ ((List.range (300 : Int32).toNatClampNeg).map fun i => ((((List.replicate 300 (Value.int (0 : Int32))).set 0 (Value.int (p3.toInt8.toInt32))).set 299 (Value.int ((p3 >>> ((8 : Int32) &&& 31)).toInt8.toInt32)))).getD ((0 : Int32).toNatClampNeg + i) (Value.int (0 : Int32))) ++ ((own_cp ((own_hd cd).set 6 (Value.int (((vv.toInt64).toInt32).toInt8.toInt32))) 256 ++ List.replicate 256 (Value.int (0 : Int32)))).drop ((7 : Int32).toNatClampNeg + (300 : Int32).toNatClampNeg)) 307).getD (0 : Int32).toNatClampNeg (Value.int (0 : Int32)) = (Value.int (69 : Int32))) (rfl : (own_cp (((own_cp ((own_hd cd).set 6 (Value.int (((vv.toInt64).toInt32).toInt8.toInt32))) 256 ++ List.replicate 256 (Value.int (0 : Int32)))).take (7 : Int32).toNatClampNeg ++ ((List.range (300 : Int32).toNatClampNeg).map fun i => ((((List.replicate 300 (Value.int (0 : Int32))).set 0 (Value.int (p3.toInt8.toInt32))).set 299 (Value.int ((p3 >>> ((8 : Int32) &&& 31)).toInt8.toInt32)))).getD ((0 : Int32).toNatClampNeg + i) (Value.int (0 : Int32))) ++ ((own_cp ((own_hd cd).set 6 (Value.int (((vv.toInt64).toInt32).toInt8.toInt32))) 256 ++ List.replicate 256 (Value.int (0 : Int32)))).drop ((7 : Int32).toNatClampNeg + (300 : Int32).toNatClampNeg)) 307).getD (1 : Int32).toNatClampNeg (Value.int (0 : Int32)) = (Value.int (66 : Int32))) (rfl : (own_cp (((own_cp ((own_hd cd).set 6 (Value.int (((vv.toInt64).toInt32).toInt8.toInt32))) 256 ++ List.replicate 256 (Value.int (0 : Int32)))).take (7 : Int32).toNatClampNeg ++ ((List.range (300 : Int32).toNatClampNeg).map fun i => ((((List.replicate 300 (Value.int (0 : Int32))).set 0 (Value.int (p3.toInt8.toInt32))).set 299 (Value.int ((p3 >>> ((8 : Int32) &&& 31)).toInt8.toInt32)))).getD ((0 : Int32).toNatClampNeg + i) (Value.int (0 : Int32))) ++ ((own_cp ((own_hd cd).set 6 (Value.int (((vv.toInt64).toInt32).toInt8.toInt32))) 256 ++ List.replicate 256 (Value.int (0 : Int32)))).drop ((7 : Int32).toNatClampNeg + (300 : Int32).toNatClampNeg)) 307).getD (2 : Int32).toNatClampNeg (Value.int (0 : Int32)) = (Value.int (66 : Int32))) (rfl : (own_cp (((own_cp ((own_hd cd).set 6 (Value.int (((vv.toInt64).toInt32).toInt8.toInt32))) 256 ++ List.replicate 256 (Value.int (0 : Int32)))).take (7 : Int32).toNatClampNeg ++ ((List.range (300 : Int32).toNatClampNeg).map fun i => ((((List.replicate 300 (Value.int (0 : Int32))).set 0 (Value.int (p3.toInt8.toInt32))).set 299 (Value.int ((p3 >>> ((8 : Int32) &&& 31)).toInt8.toInt32)))).getD ((0 : Int32).toNatClampNeg + i) (Value.int (0 : Int32))) ++ ((own_cp ((own_hd cd).set 6 (Value.int (((vv.toInt64).toInt32).toInt8.toInt32))) 256 ++ List.replicate 256 (Value.int (0 : Int32)))).drop ((7 : Int32).toNatClampNeg + (300 : Int32).toNatClampNeg)) 307).getD (3 : Int32).toNatClampNeg (Value.int (0 : Int32)) = (Value.int (84 : Int32))) (rfl : (own_cp (((own_cp ((own_hd cd).set 6 (Value.int (((vv.toInt64).toInt32).toInt8.toInt32))) 256 ++ List.replicate 256 (Value.int (0 : Int32)))).take (7 : Int32).toNatClampNeg ++ ((List.range (300 : Int32).toNatClampNeg).map fun i => ((((List.replicate 300 (Value.int (0 : Int32))).set 0 (Value.int (p3.toInt8.toInt32))).set 299 (Value.int ((p3 >>> ((8 : Int32) &&& 31)).toInt8.toInt32)))).getD ((0 : Int32).toNatClampNeg + i) (Value.int (0 : Int32))) ++ ((own_cp ((own_hd cd).set 6 (Value.int (((vv.toInt64).toInt32).toInt8.toInt32))) 256 ++ List.replicate 256 (Value.int (0 : Int32)))).drop ((7 : Int32).toNatClampNeg + (300 : Int32).toNatClampNeg)) 307).getD (4 : Int32).toNatClampNeg (Value.int (0 : Int32)) = (Value.int (3 : Int32))) (rfl : (own_cp (((own_cp ((own_hd cd).set 6 (Value.int (((vv.toInt64).toInt32).toInt8.toInt32))) 256 ++ List.replicate 256 (Value.int (0 : Int32)))).take (7 : Int32).toNatClampNeg ++ ((List.range (300 : Int32).toNatClampNeg).map fun i => ((((List.replicate 300 (Value.int (0 : Int32))).set 0 (Value.int (p3.toInt8.toInt32))).set 299 (Value.int ((p3 >>> ((8 : Int32) &&& 31)).toInt8.toInt32)))).getD ((0 : Int32).toNatClampNeg + i) (Value.int (0 : Int32))) ++ ((own_cp ((own_hd cd).set 6 (Value.int (((vv.toInt64).toInt32).toInt8.toInt32))) 256 ++ List.replicate 256 (Value.int (0 : Int32)))).drop ((7 : Int32).toNatClampNeg + (300 : Int32).toNatClampNeg)) 307).getD (5 : Int32).toNatClampNeg (Value.int (0 : Int32)) = (Value.int cd))) hZ148 (hw _ (List.mem_of_getElem? (i := 75) rfl)) (hw _ (List.mem_of_getElem? (i := 74) rfl)) (by decide) (by decide)) (g := (mkF m 433 #[sI p1, sI p2, sI p3, sI p4, sI sel, sR aK, sI cd, sI vv, sI (1 : Int32), sR ob122, sR ob131, sR b_137, sR b_152, sI (1 : Int32), sI (vv.toInt8.toInt32), sI (0 : Int32), sI (0 : Int32), sI (307 : Int32), sR b_172] [(Value.int cd), (Value.ref b_172)])) rfl (by rw [hml]; rfl) (argsL := [(Value.ref b_172), (Value.int cd)]) (rest := []) (lenOf own_pd10 rfl) rfl (by show 2 * 0 + _ ≤ _; exact Nat.le_of_eq rfl) (hb hby at_433) (fun _ _ => ⟨rfl, rfl, (by decide : 11 + 0 ≤ _), (by decide : 1798 + 0 ≤ _)⟩)
        dsimp only [Pt.U, Pt.locs, Pt.cells, Pt.slots] at X180 l180 y180 z180 st180 hQ180
        subst l180 y180 z180
        refine own_Go.by st180 ?_
        obtain ⟨rfl, N180q, e180⟩ := hQ180
        have N180 := Fr.app N172 N180q
        show own_Go _ _ _ _ (T180.setTop (mkF m 436 #[sI p1, sI p2, sI p3, sI p4, sI sel, sR aK, sI cd, sI vv, sI (1 : Int32), sR ob122, sR ob131, sR b_137, sR b_152, sI (1 : Int32), sI (vv.toInt8.toInt32), sI (0 : Int32), sI (0 : Int32), sI (307 : Int32), sR b_172] [(Value.int (1 : Int32))]))
        refine own_Go.by (fun tq kq => XS.ifNo X180.here hx rfl (hb hby at_436) rfl ((if0 _ _).trans (feq (by decide : ¬ ((1 : Int32) = (0 : Int32)))).1) kq) ?_
        refine own_Go.by (fun tq kq => XS.aload X180.here hx rfl (hb hby at_439) rfl rfl kq) ?_
        refine own_Go.by (fun tq kq => XS.bipush X180.here hx rfl (hb hby at_441) kq) ?_
        show own_Go _ _ _ _ (T180.setTop (mkF m 443 #[sI p1, sI p2, sI p3, sI p4, sI sel, sR aK, sI cd, sI vv, sI (1 : Int32), sR ob122, sR ob131, sR b_137, sR b_152, sI (1 : Int32), sI (vv.toInt8.toInt32), sI (0 : Int32), sI (0 : Int32), sI (307 : Int32), sR b_172] [(Value.int (6 : Int32)), (Value.ref b_172)]))
        obtain ⟨cl181, Ar181, q181, S181, M181, Hh181, G181⟩ := id p172_1
        refine own_Go.by (fun tq kq => X180.baloadBytes hx (j := (6 : Int32)) (v := (Value.int (((vv.toInt64).toInt32).toInt8.toInt32))) (by rw [e180]; exact Ar181.1) (State.isArrayOf_alike hZ148.alike Ar181.2.1) Ar181.2.2 (inb_of S181 (by decide : ¬ ((6 : Int32) < (0 : Int32)) ∧ (6 : Int32) < (307 : Int32))) (Has.at Hh181 (inb_of S181 (by decide : ¬ ((6 : Int32) < (0 : Int32)) ∧ (6 : Int32) < (307 : Int32))) rfl) (g := (mkF m 443 #[sI p1, sI p2, sI p3, sI p4, sI sel, sR aK, sI cd, sI vv, sI (1 : Int32), sR ob122, sR ob131, sR b_137, sR b_152, sI (1 : Int32), sI (vv.toInt8.toInt32), sI (0 : Int32), sI (0 : Int32), sI (307 : Int32), sR b_172] [(Value.int (6 : Int32)), (Value.ref b_172)])) rfl rfl (hb hby at_443) _ kq) ?_
        refine own_Go.by (fun tq kq => XS.iload X180.here hx rfl (hb hby at_444) rfl kq) ?_
        show own_Go _ _ _ _ (T180.setTop (mkF m 446 #[sI p1, sI p2, sI p3, sI p4, sI sel, sR aK, sI cd, sI vv, sI (1 : Int32), sR ob122, sR ob131, sR b_137, sR b_152, sI (1 : Int32), sI (vv.toInt8.toInt32), sI (0 : Int32), sI (0 : Int32), sI (307 : Int32), sR b_172] [(Value.int (vv.toInt8.toInt32)), (Value.int (((vv.toInt64).toInt32).toInt8.toInt32))]))
        refine own_Go.by (fun tq kq => XS.icmpNo X180.here hx rfl (hb hby at_446) rfl (teq (own_e0 vv : (((vv.toInt64).toInt32).toInt8.toInt32) = (vv.toInt8.toInt32))).2 kq) ?_
        refine own_Go.by (fun tq kq => XS.aload X180.here hx rfl (hb hby at_449) rfl rfl kq) ?_
        show own_Go _ _ _ _ (T180.setTop (mkF m 451 #[sI p1, sI p2, sI p3, sI p4, sI sel, sR aK, sI cd, sI vv, sI (1 : Int32), sR ob122, sR ob131, sR b_137, sR b_152, sI (1 : Int32), sI (vv.toInt8.toInt32), sI (0 : Int32), sI (0 : Int32), sI (307 : Int32), sR b_172] [(Value.ref b_137)]))
        have c182 := (V170.keep K172q nin0)
        obtain ⟨cl183, Ar183, q183, S183, M183, Hh183, G183⟩ := id c182
        refine own_Go.by (fun tq kq => X180.arraylength hx (by rw [e180]; exact Ar183.1) (State.isArrayOf_alike hZ148.alike Ar183.2.1) (g := (mkF m 451 #[sI p1, sI p2, sI p3, sI p4, sI sel, sR aK, sI cd, sI vv, sI (1 : Int32), sR ob122, sR ob131, sR b_137, sR b_152, sI (1 : Int32), sI (vv.toInt8.toInt32), sI (0 : Int32), sI (0 : Int32), sI (307 : Int32), sR b_172] [(Value.ref b_137)])) rfl rfl (hb hby at_451) _ kq) ?_
        rw [len_of S183 M183]
        refine own_Go.by (fun tq kq => XS.bipush X180.here hx rfl (hb hby at_452) kq) ?_
        show own_Go _ _ _ _ (T180.setTop (mkF m 454 #[sI p1, sI p2, sI p3, sI p4, sI sel, sR aK, sI cd, sI vv, sI (1 : Int32), sR ob122, sR ob131, sR b_137, sR b_152, sI (1 : Int32), sI (vv.toInt8.toInt32), sI (0 : Int32), sI (0 : Int32), sI (307 : Int32), sR b_172] [(Value.int (6 : Int32)), (Value.int (6 : Int32))]))
        refine own_Go.by (fun tq kq => XS.icmpNo X180.here hx rfl (hb hby at_454) rfl (teq (by decide : (6 : Int32) = (6 : Int32))).2 kq) ?_
        refine own_Go.by (fun tq kq => XS.iconst X180.here hx rfl (hb hby at_457) kq) ?_
        refine own_Go.by (fun tq kq => XS.goto X180.here hx rfl (pc0 := 458) (pc' := 462) rfl (hb hby at_458) (by decide) (by decide) kq) ?_
        show own_Go _ _ _ _ (T180.setTop (mkF m 462 #[sI p1, sI p2, sI p3, sI p4, sI sel, sR aK, sI cd, sI vv, sI (1 : Int32), sR ob122, sR ob131, sR b_137, sR b_152, sI (1 : Int32), sI (vv.toInt8.toInt32), sI (0 : Int32), sI (0 : Int32), sI (307 : Int32), sR b_172] [(Value.int (1 : Int32))]))
        obtain ⟨fs, hr, hrun, hended, hRE⟩ := Stand.leaveW (s := s) (vm₁ := T148.vm) X180 hS148 (by rw [e180]; exact hk_177) (v := some (Value.int (nar .boolean (1 : Int32)))) (fun h => by rw [Bd.returns] at h; cases h)
        refine own_Go.fin (retN X180 hx (t := .boolean) Bd.returns (by simp) (hb hby at_462) hr) ⟨hrun, hended, _, _, rfl, ?_, own_rew hRE (by decide) (by decide)⟩
        show Q0 Z p1 p2 p3 p4 aW aD aF aM kM h0 n0 _ T180.heap _
        rw [e180]
        exact ⟨rfl, N180, K177⟩
      ·
        have hs1' := hs1
        rw [Int32.lt_iff_toInt_lt] at hs1'
        by_cases hs2 : vv < (16384 : Int32)
        ·
          have hs2' := hs2
          rw [Int32.lt_iff_toInt_lt] at hs2'
          refine own_Go.by (fun tq kq => XS.aload X141.here hx rfl (hb hby at_130) rfl rfl kq) ?_
          refine own_Go.by (fun tq kq => XS.iload X141.here hx rfl (hb hby at_132) rfl kq) ?_
          refine own_Go.by (fun tq kq => XS.i2l X141.here hx rfl (hb hby at_134) rfl kq) ?_
          show own_Go _ _ _ _ (T141.setTop (mkF m 135 #[sI p1, sI p2, sI p3, sI p4, sI sel, sR aK, sI cd, sI vv, sI (1 : Int32), sR ob122, sR ob131, sR b_137, .unset, .unset, .unset, .unset, .unset, .unset, .unset] [(Value.long (vv.toInt64)), (Value.ref ob131)]))
          have c185 := (p134_1.keep K137q)
          have c186 := (p134_2.keep K137q nin0)
          have c187 := (p134_3.keep K137q nin0)
          have c188 := (p134_4.keep K137q nin0)
          obtain ⟨cq184, kq184, q184a, q184b, q184c⟩ := isOf hZ134 e141 c185
          obtain ⟨_, _, ⟨T184, L184, k184, n184⟩, -, X184, ⟨Lc184, hQ184, l184, y184, z184⟩, st184⟩ := X141.virtualBack hx (y := (⟨"com/example/ebbtide/ebbtide/core/Encoder", "unsigned", "(J)V"⟩ : MethodName)) (z := (⟨"com/example/ebbtide/ebbtide/core/Encoder", "unsigned", "(J)V"⟩ : MethodName)) hown134 (mvT hZ134 (hw _ (List.mem_of_getElem? (i := 76) rfl))) (mvT hZ134 (hw _ (List.mem_of_getElem? (i := 43) rfl))) (notFace_of_selects (args := #[]) (mvT hZ134 (hw _ (List.mem_of_getElem? (i := 45) rfl)))) (mvT hZ134 (hw _ (List.mem_of_getElem? (i := 45) rfl))) (mvT hZ134 (hw _ (List.mem_of_getElem? (i := 44) rfl))) (by decide) (backOf (W := 0) (rm6_2 l Z a0 hw [] ob131 b_134 k2_134 (own_hd cd) (vv.toInt64) T137.heap n0 O138 c185 c186 c187 c188 g133 g136 (Nat.ne_of_lt (Nat.lt_of_lt_of_le A131.lt p134_0)) (rfl : (own_hd cd).length = 256) (mt (own_m128 (by omega)).mp (by omega) : ¬ (((vv.toInt64) &&& (-128 : Int64)) = (0 : Int64))) ((own_m128 (by omega)).mpr (by omega) : ((((vv.toInt64).toUInt64 >>> ((7 : Int32) &&& 0x3f).toInt64.toUInt64).toInt64) &&& (-128 : Int64)) = (0 : Int64))) hZ134 (hw _ (List.mem_of_getElem? (i := 46) rfl)) (hw _ (List.mem_of_getElem? (i := 8) rfl)) (by decide) (by decide)) q184a q184c (g := (mkF m 135 #[sI p1, sI p2, sI p3, sI p4, sI sel, sR aK, sI cd, sI vv, sI (1 : Int32), sR ob122, sR ob131, sR b_137, .unset, .unset, .unset, .unset, .unset, .unset, .unset] [(Value.long (vv.toInt64)), (Value.ref ob131)])) rfl (by rw [hml]; rfl) (Steps.refl _) (argsL := [(Value.long (vv.toInt64))]) (rest := []) (lenOf own_pd5 rfl) rfl (by show 2 * 0 + _ ≤ _; exact Nat.le_of_eq rfl) (hb hby at_135) (fun _ _ => ⟨rfl, e141, (by decide : 6 + 0 ≤ _), (by decide : 616 + 0 ≤ _)⟩)
          dsimp only [Pt.U, Pt.locs, Pt.cells, Pt.slots] at X184 l184 y184 z184 st184 hQ184
          subst l184 y184 z184
          refine own_Go.by (fun tq kq => st184.trans kq) ?_
          obtain ⟨rfl, N184q, K184q, p184_0, p184_1, p184_2, p184_3⟩ := hQ184
          have N184 := Fr.app N141 N184q
          have O189 := O138.keep K184q (allS g133 (allS g136 all0))
          have K189 := K138.trans K184q (allS (Or.inr z133) (allS (Or.inr z136) all0))
          have hk_189 := Nat.le_trans hk_138 K184q.1
          refine own_Go.by (fun tq kq => XS.iload X184.here hx rfl (hb hby at_138) rfl kq) ?_
          show own_Go _ _ _ _ (T184.setTop (mkF m 140 #[sI p1, sI p2, sI p3, sI p4, sI sel, sR aK, sI cd, sI vv, sI (1 : Int32), sR ob122, sR ob131, sR b_137, .unset, .unset, .unset, .unset, .unset, .unset, .unset] [(Value.int (1 : Int32))]))
          refine own_Go.by (fun tq kq => XS.ifNo X184.here hx rfl (hb hby at_140) rfl ((if0 _ _).trans (feq (by decide : ¬ ((1 : Int32) = (0 : Int32)))).1) kq) ?_
          refine own_Go.by (fun tq kq => XS.aload X184.here hx rfl (hb hby at_143) rfl rfl kq) ?_
          refine own_Go.by (fun tq kq => XS.aload X184.here hx rfl (hb hby at_145) rfl rfl kq) ?_
          show own_Go _ _ _ _ (T184.setTop (mkF m 147 #[sI p1, sI p2, sI p3, sI p4, sI sel, sR aK, sI cd, sI vv, sI (1 : Int32), sR ob122, sR ob131, sR b_137, .unset, .unset, .unset, .unset, .unset, .unset, .unset] [(Value.ref ob122), (Value.ref ob131)]))
          have c191 := ((((V129.ext E131).keep K134q (ninS (Nat.ne_of_lt (Nat.lt_of_lt_of_le A122.lt (Nat.le_trans (Keep.of_wr W126).1 (Nat.le_trans (Keep.of_wr W129).1 (Nat.le_of_eq y131.symm))))) nin0)).keep K137q nin0).keep K184q (ninS (Nat.ne_of_lt (Nat.lt_of_lt_of_le A122.lt (Nat.le_trans (Keep.of_wr W126).1 (Nat.le_trans (Keep.of_wr W129).1 (Nat.le_of_eq y131.symm))))) (ninS (Nat.ne_of_lt (Nat.lt_of_lt_of_le A122.lt (Nat.le_trans (Keep.of_wr W126).1 (Nat.le_trans (Keep.of_wr W129).1 (Nat.le_trans E131.1 p134_0))))) nin0)))
          obtain ⟨cq190, kq190, q190a, q190b, q190c⟩ := isOf hZ134 rfl p184_0
          obtain ⟨_, _, ⟨T190, L190, k190, n190⟩, -, X190, hs190, hg190, ⟨Lc190, hQ190, l190, y190, z190⟩, st190⟩ := X184.virtualBackS hx (y := (⟨"com/example/ebbtide/ebbtide/core/Encoder", "bytes", "([B)V"⟩ : MethodName)) (z := (⟨"com/example/ebbtide/ebbtide/core/Encoder", "bytes", "([B)V"⟩ : MethodName)) hown134 (mvT hZ134 (hw _ (List.mem_of_getElem? (i := 77) rfl))) (mvT hZ134 (hw _ (List.mem_of_getElem? (i := 78) rfl))) (notFace_of_selects (args := #[]) (mvT hZ134 (hw _ (List.mem_of_getElem? (i := 80) rfl)))) (mvT hZ134 (hw _ (List.mem_of_getElem? (i := 80) rfl))) (mvT hZ134 (hw _ (List.mem_of_getElem? (i := 79) rfl))) (by decide) (backOfS (W := 0) (rm12_8 l Z a0 hw [] ob131 b_134 k2_134 (((own_hd cd).set 6 (Value.int (((((vv.toInt64) &&& (127 : Int64)) ||| (128 : Int64)).toInt32).toInt8.toInt32))).set 7 (Value.int (((((vv.toInt64).toUInt64 >>> ((7 : Int32) &&& 0x3f).toInt64.toUInt64).toInt64).toInt32).toInt8.toInt32))) ob122 k122 (((List.replicate 300 (Value.int (0 : Int32))).set 0 (Value.int (p3.toInt8.toInt32))).set 299 (Value.int ((p3 >>> ((8 : Int32) &&& 31)).toInt8.toInt32))) T184.heap n0 O189 p184_0 p184_1 p184_2 p184_3 g133 c191 (Nat.ne_of_lt (Nat.lt_of_lt_of_le A122.lt (Nat.le_trans (Keep.of_wr W126).1 (Nat.le_trans (Keep.of_wr W129).1 (Nat.le_of_eq y131.symm)))))) hZ134 (hw _ (List.mem_of_getElem? (i := 81) rfl)) (hw _ (List.mem_of_getElem? (i := 8) rfl)) (by decide) (by decide)) q190a q190c (g := (mkF m 147 #[sI p1, sI p2, sI p3, sI p4, sI sel, sR aK, sI cd, sI vv, sI (1 : Int32), sR ob122, sR ob131, sR b_137, .unset, .unset, .unset, .unset, .unset, .unset, .unset] [(Value.ref ob122), (Value.ref ob131)])) rfl (by rw [hml]; rfl) (Steps.refl _) (argsL := [(Value.ref ob122)]) (rest := []) (lenOf own_pd11 rfl) rfl (by show 2 * 0 + _ ≤ _; exact Nat.le_of_eq rfl) (hb hby at_147) (fun _ _ => ⟨rfl, rfl, (by decide : 6 + 3 ≤ _), (by decide : 616 + 568 ≤ _)⟩)
          dsimp only [Pt.U, Pt.locs, Pt.cells, Pt.slots] at X190 l190 y190 z190 st190 hQ190 hs190 hg190
          subst l190 y190 z190
          obtain ⟨X190, hS190, hZ190, hown190⟩ := rebS (s := s) (vm0 := T134.vm) hS134 hk_189 X190 hs190 hg190 hZ134 hown134
          refine own_Go.by (fun tq kq => st190.trans kq) ?_
          obtain ⟨b_190, k2_190, rfl, N190q, K190q, p190_0, p190_1, p190_2, p190_3, p190_4⟩ := hQ190
          have N190 := Fr.app N184 N190q
          have O192 := O189.keep K190q (allS g133 all0)
          have K192 := K189.trans K190q (allS (Or.inr z133) all0)
          have g193 : n0 ≤ b_190 := Nat.le_trans (own_old_le O189) p190_0
          have z193 : h0.size ≤ b_190 := Nat.le_trans K189.1 p190_0
          refine own_Go.by (fun tq kq => XS.aload X190.here hx rfl (hb hby at_150) rfl rfl kq) ?_
          show own_Go _ _ _ _ (T190.setTop (mkF m 152 #[sI p1, sI p2, sI p3, sI p4, sI sel, sR aK, sI cd, sI vv, sI (1 : Int32), sR ob122, sR ob131, sR b_137, .unset, .unset, .unset, .unset, .unset, .unset, .unset] [(Value.ref ob131)]))
          obtain ⟨cq194, kq194, q194a, q194b, q194c⟩ := isOf hZ190 rfl p190_1
          obtain ⟨_, _, ⟨T194, L194, k194, n194⟩, -, X194, ⟨Lc194, hQ194, l194, y194, z194⟩, st194⟩ := X190.virtualBack hx (y := (⟨"com/example/ebbtide/ebbtide/core/Encoder", "toByteArray", "()[B"⟩ : MethodName)) (z := (⟨"com/example/ebbtide/ebbtide/core/Encoder", "toByteArray", "()[B"⟩ : MethodName)) hown190 (mvT hZ190 (hw _ (List.mem_of_getElem? (i := 55) rfl))) (mvT hZ190 (hw _ (List.mem_of_getElem? (i := 56) rfl))) (notFace_of_selects (args := #[]) (mvT hZ190 (hw _ (List.mem_of_getElem? (i := 58) rfl)))) (mvT hZ190 (hw _ (List.mem_of_getElem? (i := 58) rfl))) (mvT hZ190 (hw _ (List.mem_of_getElem? (i := 57) rfl))) (by decide) (backOf (W := 0) (rm8_512_308 l Z a0 hw [] ob131 b_190 k2_190 (((own_cp (((own_hd cd).set 6 (Value.int (((((vv.toInt64) &&& (127 : Int64)) ||| (128 : Int64)).toInt32).toInt8.toInt32))).set 7 (Value.int (((((vv.toInt64).toUInt64 >>> ((7 : Int32) &&& 0x3f).toInt64.toUInt64).toInt64).toInt32).toInt8.toInt32))) 256 ++ List.replicate 256 (Value.int (0 : Int32)))).take (8 : Int32).toNatClampNeg ++ ((List.range (300 : Int32).toNatClampNeg).map fun i => ((((List.replicate 300 (Value.int (0 : Int32))).set 0 (Value.int (p3.toInt8.toInt32))).set 299 (Value.int ((p3 >>> ((8 : Int32) &&& 31)).toInt8.toInt32)))).getD ((0 : Int32).toNatClampNeg + i) (Value.int (0 : Int32))) ++ ((own_cp (((own_hd cd).set 6 (Value.int (((((vv.toInt64) &&& (127 : Int64)) ||| (128 : Int64)).toInt32).toInt8.toInt32))).set 7 (Value.int (((((vv.toInt64).toUInt64 >>> ((7 : Int32) &&& 0x3f).toInt64.toUInt64).toInt64).toInt32).toInt8.toInt32))) 256 ++ List.replicate 256 (Value.int (0 : Int32)))).drop ((8 : Int32).toNatClampNeg + (300 : Int32).toNatClampNeg)) T190.heap n0 O192 p190_1 p190_2 p190_3 p190_4) hZ190 (hw _ (List.mem_of_getElem? (i := 59) rfl)) (hw _ (List.mem_of_getElem? (i := 8) rfl)) (by decide) (by decide)) q194a q194c (g := (mkF m 152 #[sI p1, sI p2, sI p3, sI p4, sI sel, sR aK, sI cd, sI vv, sI (1 : Int32), sR ob122, sR ob131, sR b_137, .unset, .unset, .unset, .unset, .unset, .unset, .unset] [(Value.ref ob131)])) rfl (by rw [hml]; rfl) (Steps.refl _) (argsL := []) (rest := []) (lenOf own_pd9 rfl) rfl (by show 2 * 0 + _ ≤ _; exact Nat.le_of_eq rfl) (hb hby at_152) (fun _ _ => ⟨rfl, rfl, (by decide : 9 + 1 ≤ _), (by decide : 1184 + 308 ≤ _)⟩)
          dsimp only [Pt.U, Pt.locs, Pt.cells, Pt.slots] at X194 l194 y194 z194 st194 hQ194
          subst l194 y194 z194
          refine own_Go.by (fun tq kq => st194.trans kq) ?_
          obtain ⟨b_194, k2_194, rfl, N194q, K194q, p194_0, p194_1⟩ := hQ194
          have N194 := Fr.app N190 N194q
          have O195 := O192.keep K194q all0
          have K195 := K192.trans K194q all0
          have hk_195 := K194q.1
          have g196 : n0 ≤ b_194 := Nat.le_trans (own_old_le O192) p194_0
          have z196 : h0.size ≤ b_194 := Nat.le_trans K192.1 p194_0
          refine own_Go.by (fun tq kq => XS.astore X194.here hx rfl (hb hby at_155) rfl rfl (l' := #[sI p1, sI p2, sI p3, sI p4, sI sel, sR aK, sI cd, sI vv, sI (1 : Int32), sR ob122, sR ob131, sR b_137, sR b_194, .unset, .unset, .unset, .unset, .unset, .unset]) rfl kq) ?_
          refine own_Go.by (fun tq kq => XS.iconst X194.here hx rfl (hb hby at_157) kq) ?_
          refine own_Go.by (fun tq kq => XS.istore X194.here hx rfl (hb hby at_158) rfl (l' := #[sI p1, sI p2, sI p3, sI p4, sI sel, sR aK, sI cd, sI vv, sI (1 : Int32), sR ob122, sR ob131, sR b_137, sR b_194, .unset, .unset, sI (0 : Int32), .unset, .unset, .unset]) rfl kq) ?_
          show own_Go _ _ _ _ (T194.setTop (mkF m 160 #[sI p1, sI p2, sI p3, sI p4, sI sel, sR aK, sI cd, sI vv, sI (1 : Int32), sR ob122, sR ob131, sR b_137, sR b_194, .unset, .unset, sI (0 : Int32), .unset, .unset, .unset] []))
          refine own_Go.by (fun tq kq => XS.iconst X194.here hx rfl (hb hby at_160) kq) ?_
          refine own_Go.by (fun tq kq => XS.istore X194.here hx rfl (hb hby at_161) rfl (l' := #[sI p1, sI p2, sI p3, sI p4, sI sel, sR aK, sI cd, sI vv, sI (1 : Int32), sR ob122, sR ob131, sR b_137, sR b_194, .unset, .unset, sI (0 : Int32), sI (0 : Int32), .unset, .unset]) rfl kq) ?_
          refine own_Go.by (fun tq kq => XS.iload X194.here hx rfl (hb hby at_163) rfl kq) ?_
          refine own_Go.by (fun tq kq => XS.sipush X194.here hx rfl (hb hby at_165) kq) ?_
          show own_Go _ _ _ _ (T194.setTop (mkF m 168 #[sI p1, sI p2, sI p3, sI p4, sI sel, sR aK, sI cd, sI vv, sI (1 : Int32), sR ob122, sR ob131, sR b_137, sR b_194, .unset, .unset, sI (0 : Int32), sI (0 : Int32), .unset, .unset] [(Value.int (128 : Int32)), (Value.int vv)]))
          refine own_Go.by (fun tq kq => XS.icmpYes X194.here hx rfl (pc0 := 168) (pc' := 182) rfl (hb hby at_168) rfl (flt hs1).2.1 (by decide) (by decide) kq) ?_
          refine own_Go.by (fun tq kq => XS.iload X194.here hx rfl (hb hby at_182) rfl kq) ?_
          refine own_Go.by (fun tq kq => XS.sipush X194.here hx rfl (hb hby at_184) kq) ?_
          show own_Go _ _ _ _ (T194.setTop (mkF m 187 #[sI p1, sI p2, sI p3, sI p4, sI sel, sR aK, sI cd, sI vv, sI (1 : Int32), sR ob122, sR ob131, sR b_137, sR b_194, .unset, .unset, sI (0 : Int32), sI (0 : Int32), .unset, .unset] [(Value.int (16384 : Int32)), (Value.int vv)]))
          refine own_Go.by (fun tq kq => XS.icmpNo X194.here hx rfl (hb hby at_187) rfl (tlt hs2).2.1 kq) ?_
          refine own_Go.by (fun tq kq => XS.iconst X194.here hx rfl (hb hby at_190) kq) ?_
          refine own_Go.by (fun tq kq => XS.istore X194.here hx rfl (hb hby at_191) rfl (l' := #[sI p1, sI p2, sI p3, sI p4, sI sel, sR aK, sI cd, sI vv, sI (1 : Int32), sR ob122, sR ob131, sR b_137, sR b_194, sI (2 : Int32), .unset, sI (0 : Int32), sI (0 : Int32), .unset, .unset]) rfl kq) ?_
          refine own_Go.by (fun tq kq => XS.iload X194.here hx rfl (hb hby at_193) rfl kq) ?_
          show own_Go _ _ _ _ (T194.setTop (mkF m 195 #[sI p1, sI p2, sI p3, sI p4, sI sel, sR aK, sI cd, sI vv, sI (1 : Int32), sR ob122, sR ob131, sR b_137, sR b_194, sI (2 : Int32), .unset, sI (0 : Int32), sI (0 : Int32), .unset, .unset] [(Value.int vv)]))
          refine own_Go.by (fun tq kq => XS.bipush X194.here hx rfl (hb hby at_195) kq) ?_
          refine own_Go.by (fun tq kq => XS.iand X194.here hx rfl (hb hby at_197) rfl kq) ?_
          refine own_Go.by (fun tq kq => XS.sipush X194.here hx rfl (hb hby at_198) kq) ?_
          refine own_Go.by (fun tq kq => XS.ior X194.here hx rfl (hb hby at_201) rfl kq) ?_
          show own_Go _ _ _ _ (T194.setTop (mkF m 202 #[sI p1, sI p2, sI p3, sI p4, sI sel, sR aK, sI cd, sI vv, sI (1 : Int32), sR ob122, sR ob131, sR b_137, sR b_194, sI (2 : Int32), .unset, sI (0 : Int32), sI (0 : Int32), .unset, .unset] [(Value.int ((vv &&& (127 : Int32)) ||| (128 : Int32)))]))
          refine own_Go.by (fun tq kq => XS.i2b X194.here hx rfl (hb hby at_202) rfl kq) ?_
          refine own_Go.by (fun tq kq => XS.istore X194.here hx rfl (hb hby at_203) rfl (l' := #[sI p1, sI p2, sI p3, sI p4, sI sel, sR aK, sI cd, sI vv, sI (1 : Int32), sR ob122, sR ob131, sR b_137, sR b_194, sI (2 : Int32), .val (Value.int (((vv &&& (127 : Int32)) ||| (128 : Int32)).toInt8.toInt32)), sI (0 : Int32), sI (0 : Int32), .unset, .unset]) rfl kq) ?_
          refine own_Go.by (fun tq kq => XS.iload X194.here hx rfl (hb hby at_205) rfl kq) ?_
          refine own_Go.by (fun tq kq => XS.bipush X194.here hx rfl (hb hby at_207) kq) ?_
          show own_Go _ _ _ _ (T194.setTop (mkF m 209 #[sI p1, sI p2, sI p3, sI p4, sI sel, sR aK, sI cd, sI vv, sI (1 : Int32), sR ob122, sR ob131, sR b_137, sR b_194, sI (2 : Int32), .val (Value.int (((vv &&& (127 : Int32)) ||| (128 : Int32)).toInt8.toInt32)), sI (0 : Int32), sI (0 : Int32), .unset, .unset] [(Value.int (7 : Int32)), (Value.int vv)]))
          refine own_Go.by (fun tq kq => XS.iushr X194.here hx rfl (hb hby at_209) rfl kq) ?_
          refine own_Go.by (fun tq kq => XS.i2b X194.here hx rfl (hb hby at_210) rfl kq) ?_
          refine own_Go.by (fun tq kq => XS.istore X194.here hx rfl (hb hby at_211) rfl (l' := #[sI p1, sI p2, sI p3, sI p4, sI sel, sR aK, sI cd, sI vv, sI (1 : Int32), sR ob122, sR ob131, sR b_137, sR b_194, sI (2 : Int32), .val (Value.int (((vv &&& (127 : Int32)) ||| (128 : Int32)).toInt8.toInt32)), .val (Value.int (((vv.toUInt32 >>> ((7 : Int32) &&& 31).toUInt32).toInt32).toInt8.toInt32)), sI (0 : Int32), .unset, .unset]) rfl kq) ?_
          refine own_Go.by (fun tq kq => XS.goto X194.here hx rfl (pc0 := 213) (pc' := 254) rfl (hb hby at_213) (by decide) (by decide) kq) ?_
          show own_Go _ _ _ _ (T194.setTop (mkF m 254 #[sI p1, sI p2, sI p3, sI p4, sI sel, sR aK, sI cd, sI vv, sI (1 : Int32), sR ob122, sR ob131, sR b_137, sR b_194, sI (2 : Int32), .val (Value.int (((vv &&& (127 : Int32)) ||| (128 : Int32)).toInt8.toInt32)), .val (Value.int (((vv.toUInt32 >>> ((7 : Int32) &&& 31).toUInt32).toInt32).toInt8.toInt32)), sI (0 : Int32), .unset, .unset] []))
          refine own_Go.by (fun tq kq => XS.bipush X194.here hx rfl (hb hby at_254) kq) ?_
          refine own_Go.by (fun tq kq => XS.iload X194.here hx rfl (hb hby at_256) rfl kq) ?_
          refine own_Go.by (fun tq kq => XS.iadd X194.here hx rfl (hb hby at_258) rfl kq) ?_
          refine own_Go.by (fun tq kq => XS.iload X194.here hx rfl (hb hby at_259) rfl kq) ?_
          show own_Go _ _ _ _ (T194.setTop (mkF m 261 #[sI p1, sI p2, sI p3, sI p4, sI sel, sR aK, sI cd, sI vv, sI (1 : Int32), sR ob122, sR ob131, sR b_137, sR b_194, sI (2 : Int32), .val (Value.int (((vv &&& (127 : Int32)) ||| (128 : Int32)).toInt8.toInt32)), .val (Value.int (((vv.toUInt32 >>> ((7 : Int32) &&& 31).toUInt32).toInt32).toInt8.toInt32)), sI (0 : Int32), .unset, .unset] [(Value.int (1 : Int32)), (Value.int (8 : Int32))]))
          refine own_Go.by (fun tq kq => XS.ifNo X194.here hx rfl (hb hby at_261) rfl ((if0 _ _).trans (feq (by decide : ¬ ((1 : Int32) = (0 : Int32)))).1) kq) ?_
          refine own_Go.by (fun tq kq => XS.sipush X194.here hx rfl (hb hby at_264) kq) ?_
          refine own_Go.by (fun tq kq => XS.goto X194.here hx rfl (pc0 := 267) (pc' := 271) rfl (hb hby at_267) (by decide) (by decide) kq) ?_
          refine own_Go.by (fun tq kq => XS.iadd X194.here hx rfl (hb hby at_271) rfl kq) ?_
          show own_Go _ _ _ _ (T194.setTop (mkF m 272 #[sI p1, sI p2, sI p3, sI p4, sI sel, sR aK, sI cd, sI vv, sI (1 : Int32), sR ob122, sR ob131, sR b_137, sR b_194, sI (2 : Int32), .val (Value.int (((vv &&& (127 : Int32)) ||| (128 : Int32)).toInt8.toInt32)), .val (Value.int (((vv.toUInt32 >>> ((7 : Int32) &&& 31).toUInt32).toInt32).toInt8.toInt32)), sI (0 : Int32), .unset, .unset] [(Value.int (308 : Int32))]))
          refine own_Go.by (fun tq kq => XS.istore X194.here hx rfl (hb hby at_272) rfl (l' := #[sI p1, sI p2, sI p3, sI p4, sI sel, sR aK, sI cd, sI vv, sI (1 : Int32), sR ob122, sR ob131, sR b_137, sR b_194, sI (2 : Int32), .val (Value.int (((vv &&& (127 : Int32)) ||| (128 : Int32)).toInt8.toInt32)), .val (Value.int (((vv.toUInt32 >>> ((7 : Int32) &&& 31).toUInt32).toInt32).toInt8.toInt32)), sI (0 : Int32), sI (308 : Int32), .unset]) rfl kq) ?_
          refine own_Go.by (fun tq kq => XS.aload X194.here hx rfl (hb hby at_274) rfl rfl kq) ?_
          show own_Go _ _ _ _ (T194.setTop (mkF m 276 #[sI p1, sI p2, sI p3, sI p4, sI sel, sR aK, sI cd, sI vv, sI (1 : Int32), sR ob122, sR ob131, sR b_137, sR b_194, sI (2 : Int32), .val (Value.int (((vv &&& (127 : Int32)) ||| (128 : Int32)).toInt8.toInt32)), .val (Value.int (((vv.toUInt32 >>> ((7 : Int32) &&& 31).toUInt32).toInt32).toInt8.toInt32)), sI (0 : Int32), sI (308 : Int32), .unset] [(Value.ref b_194)]))
          obtain ⟨cl197, Ar197, q197, S197, M197, Hh197, G197⟩ := id p194_1
          refine own_Go.by (fun tq kq => X194.arraylength hx Ar197.1 (State.isArrayOf_alike hZ190.alike Ar197.2.1) (g := (mkF m 276 #[sI p1, sI p2, sI p3, sI p4, sI sel, sR aK, sI cd, sI vv, sI (1 : Int32), sR ob122, sR ob131, sR b_137, sR b_194, sI (2 : Int32), .val (Value.int (((vv &&& (127 : Int32)) ||| (128 : Int32)).toInt8.toInt32)), .val (Value.int (((vv.toUInt32 >>> ((7 : Int32) &&& 31).toUInt32).toInt32).toInt8.toInt32)), sI (0 : Int32), sI (308 : Int32), .unset] [(Value.ref b_194)])) rfl rfl (hb hby at_276) _ kq) ?_
          rw [len_of S197 M197]
          refine own_Go.by (fun tq kq => XS.iload X194.here hx rfl (hb hby at_277) rfl kq) ?_
          show own_Go _ _ _ _ (T194.setTop (mkF m 279 #[sI p1, sI p2, sI p3, sI p4, sI sel, sR aK, sI cd, sI vv, sI (1 : Int32), sR ob122, sR ob131, sR b_137, sR b_194, sI (2 : Int32), .val (Value.int (((vv &&& (127 : Int32)) ||| (128 : Int32)).toInt8.toInt32)), .val (Value.int (((vv.toUInt32 >>> ((7 : Int32) &&& 31).toUInt32).toInt32).toInt8.toInt32)), sI (0 : Int32), sI (308 : Int32), .unset] [(Value.int (308 : Int32)), (Value.int (308 : Int32))]))
          refine own_Go.by (fun tq kq => XS.icmpNo X194.here hx rfl (hb hby at_279) rfl (teq (by decide : (308 : Int32) = (308 : Int32))).2 kq) ?_
          refine own_Go.by (fun tq kq => XS.aload X194.here hx rfl (hb hby at_282) rfl rfl kq) ?_
          refine own_Go.by (fun tq kq => XS.iload X194.here hx rfl (hb hby at_284) rfl kq) ?_
          show own_Go _ _ _ _ (T194.setTop (mkF m 286 #[sI p1, sI p2, sI p3, sI p4, sI sel, sR aK, sI cd, sI vv, sI (1 : Int32), sR ob122, sR ob131, sR b_137, sR b_194, sI (2 : Int32), .val (Value.int (((vv &&& (127 : Int32)) ||| (128 : Int32)).toInt8.toInt32)), .val (Value.int (((vv.toUInt32 >>> ((7 : Int32) &&& 31).toUInt32).toInt32).toInt8.toInt32)), sI (0 : Int32), sI (308 : Int32), .unset] [(Value.int cd), (Value.ref b_194)]))
          obtain ⟨_, _, ⟨T198, L198, k198, n198⟩, -, X198, ⟨Lc198, hQ198, l198, y198, z198⟩, st198⟩ := Jvm.LawKit.callS X194 hx (y := (⟨"com/example/ebbtide/ebbtide/core/EncoderToByteArrayPinLaw", "header", "([BI)Z"⟩ : MethodName)) hown190 (mvT hZ190 (hw _ (List.mem_of_getElem? (i := 72) rfl))) (mvT hZ190 (hw _ (List.mem_of_getElem? (i := 73) rfl))) (mvT hZ190 (hw _ (List.mem_of_getElem? (i := 74) rfl))) (mvT hZ190 (hw _ (List.mem_of_getElem? (i := 75) rfl))) (by decide) (backOf (W := 0) (rm11 l Z a0 hw [] b_194 k2_194 (308 : Int32) (own_cp (((own_cp (((own_hd cd).set 6 (Value.int (((((vv.toInt64) &&& (127 : Int64)) ||| (128 : Int64)).toInt32).toInt8.toInt32))).set 7 (Value.int (((((vv.toInt64).toUInt64 >>> ((7 : Int32) &&& 0x3f).toInt64.toUInt64).toInt64).toInt32).toInt8.toInt32))) 256 ++ List.replicate 256 (Value.int (0 : Int32)))).take (8 : Int32).toNatClampNeg ++ ((List.range (300 : Int32).toNatClampNeg).map fun i => ((((List.replicate 300 (Value.int (0 : Int32))).set 0 (Value.int (p3.toInt8.toInt32))).set 299 (Value.int ((p3 >>> ((8 : Int32) &&& 31)).toInt8.toInt32)))).getD ((0 : Int32).toNatClampNeg + i) (Value.int (0 : Int32))) ++ ((own_cp (((own_hd cd).set 6 (Value.int (((((vv.toInt64) &&& (127 : Int64)) ||| (128 : Int64)).toInt32).toInt8.toInt32))).set 7 (Value.int (((((vv.toInt64).toUInt64 >>> ((7 : Int32) &&& 0x3f).toInt64.toUInt64).toInt64).toInt32).toInt8.toInt32))) 256 ++ List.replicate 256 (Value.int (0 : Int32)))).drop ((8 : Int32).toNatClampNeg + (300 : Int32).toNatClampNeg)) 308) cd T194.heap n0 O195 p194_1 (by decide : ¬ ((308 : Int32) < (6 : Int32))) (by decide : ¬ ((0 : Int32) < (0 : Int32)) ∧ (0 : Int32) < (308 : Int32)) (by decide : ¬ ((1 : Int32) < (0 : Int32)) ∧ (1 : Int32) < (308 : Int32)) (by decide : ¬ ((2 : Int32) < (0 : Int32)) ∧ (2 : Int32) < (308 : Int32)) (by decide : ¬ ((3 : Int32) < (0 : Int32)) ∧ (3 : Int32) < (308 : Int32)) (by decide : ¬ ((4 : Int32) < (0 : Int32)) ∧ (4 : Int32) < (308 : Int32)) (by decide : ¬ ((5 : Int32) < (0 : Int32)) ∧ (5 : Int32) < (308 : Int32)) (rfl : (own_cp (((own_cp (((own_hd cd).set 6 (Value.int (((((vv.toInt64) &&& (127 : Int64)) ||| (128 : Int64)).toInt32).toInt8.toInt32))).set 7 (Value.int (((((vv.toInt64).toUInt64 >>> ((7 : Int32) &&& 0x3f).toInt64.toUInt64).toInt64).toInt32).toInt8.toInt32))) 256 ++ List.replicate 256 (Value.int (0 : Int32)))).take (8 : Int32).toNatClampNeg ++ ((List.range (300 : Int32).toNatClampNeg).map fun i => ((((List.replicate 300 (Value.int (0 : Int32))).set 0 (Value.int (p3.toInt8.toInt32))).set 299 (Value.int ((p3 >>> ((8 : Int32) &&& 31)).toInt8.toInt32)))).getD ((0 : Int32).toNatClampNeg + i) (Value.int (0 : Int32))) ++ ((own_cp (((own_hd cd).set 6 (Value.int (((((vv.toInt64) &&& (127 : Int64)) ||| (128 : Int64)).toInt32).toInt8.toInt32))).set 7 (Value.int (((((vv.toInt64).toUInt64 >>> ((7 : Int32) &&& 0x3f).toInt64.toUInt64).toInt64).toInt32).toInt8.toInt32))) 256 ++ List.replicate 256 (Value.int (0 : Int32)))).drop ((8 : Int32).toNatClampNeg + (300 : Int32).toNatClampNeg)) 308).getD (0 : Int32).toNatClampNeg (Value.int (0 : Int32)) = (Value.int (69 : Int32))) (rfl : (own_cp (((own_cp (((own_hd cd).set 6 (Value.int (((((vv.toInt64) &&& (127 : Int64)) ||| (128 : Int64)).toInt32).toInt8.toInt32))).set 7 (Value.int (((((vv.toInt64).toUInt64 >>> ((7 : Int32) &&& 0x3f).toInt64.toUInt64).toInt64).toInt32).toInt8.toInt32))) 256 ++ List.replicate 256 (Value.int (0 : Int32)))).take (8 : Int32).toNatClampNeg ++ ((List.range (300 : Int32).toNatClampNeg).map fun i => ((((List.replicate 300 (Value.int (0 : Int32))).set 0 (Value.int (p3.toInt8.toInt32))).set 299 (Value.int ((p3 >>> ((8 : Int32) &&& 31)).toInt8.toInt32)))).getD ((0 : Int32).toNatClampNeg + i) (Value.int (0 : Int32))) ++ ((own_cp (((own_hd cd).set 6 (Value.int (((((vv.toInt64) &&& (127 : Int64)) ||| (128 : Int64)).toInt32).toInt8.toInt32))).set 7 (Value.int (((((vv.toInt64).toUInt64 >>> ((7 : Int32) &&& 0x3f).toInt64.toUInt64).toInt64).toInt32).toInt8.toInt32))) 256 ++ List.replicate 256 (Value.int (0 : Int32)))).drop ((8 : Int32).toNatClampNeg + (300 : Int32).toNatClampNeg)) 308).getD (1 : Int32).toNatClampNeg (Value.int (0 : Int32)) = (Value.int (66 : Int32))) (rfl : (own_cp (((own_cp (((own_hd cd).set 6 (Value.int (((((vv.toInt64) &&& (127 : Int64)) ||| (128 : Int64)).toInt32).toInt8.toInt32))).set 7 (Value.int (((((vv.toInt64).toUInt64 >>> ((7 : Int32) &&& 0x3f).toInt64.toUInt64).toInt64).toInt32).toInt8.toInt32))) 256 ++ List.replicate 256 (Value.int (0 : Int32)))).take (8 : Int32).toNatClampNeg ++ ((List.range (300 : Int32).toNatClampNeg).map fun i => ((((List.replicate 300 (Value.int (0 : Int32))).set 0 (Value.int (p3.toInt8.toInt32))).set 299 (Value.int ((p3 >>> ((8 : Int32) &&& 31)).toInt8.toInt32)))).getD ((0 : Int32).toNatClampNeg + i) (Value.int (0 : Int32))) ++ ((own_cp (((own_hd cd).set 6 (Value.int (((((vv.toInt64) &&& (127 : Int64)) ||| (128 : Int64)).toInt32).toInt8.toInt32))).set 7 (Value.int (((((vv.toInt64).toUInt64 >>> ((7 : Int32) &&& 0x3f).toInt64.toUInt64).toInt64).toInt32).toInt8.toInt32))) 256 ++ List.replicate 256 (Value.int (0 : Int32)))).drop ((8 : Int32).toNatClampNeg + (300 : Int32).toNatClampNeg)) 308).getD (2 : Int32).toNatClampNeg (Value.int (0 : Int32)) = (Value.int (66 : Int32))) (rfl : (own_cp (((own_cp (((own_hd cd).set 6 (Value.int (((((vv.toInt64) &&& (127 : Int64)) ||| (128 : Int64)).toInt32).toInt8.toInt32))).set 7 (Value.int (((((vv.toInt64).toUInt64 >>> ((7 : Int32) &&& 0x3f).toInt64.toUInt64).toInt64).toInt32).toInt8.toInt32))) 256 ++ List.replicate 256 (Value.int (0 : Int32)))).take (8 : Int32).toNatClampNeg ++ ((List.range (300 : Int32).toNatClampNeg).map fun i => ((((List.replicate 300 (Value.int (0 : Int32))).set 0 (Value.int (p3.toInt8.toInt32))).set 299 (Value.int ((p3 >>> ((8 : Int32) &&& 31)).toInt8.toInt32)))).getD ((0 : Int32).toNatClampNeg + i) (Value.int (0 : Int32))) ++ ((own_cp (((own_hd cd).set 6 (Value.int (((((vv.toInt64) &&& (127 : Int64)) ||| (128 : Int64)).toInt32).toInt8.toInt32))).set 7 (Value.int (((((vv.toInt64).toUInt64 >>> ((7 : Int32) &&& 0x3f).toInt64.toUInt64).toInt64).toInt32).toInt8.toInt32))) 256 ++ List.replicate 256 (Value.int (0 : Int32)))).drop ((8 : Int32).toNatClampNeg + (300 : Int32).toNatClampNeg)) 308).getD (3 : Int32).toNatClampNeg (Value.int (0 : Int32)) = (Value.int (84 : Int32))) (rfl : (own_cp (((own_cp (((own_hd cd).set 6 (Value.int (((((vv.toInt64) &&& (127 : Int64)) ||| (128 : Int64)).toInt32).toInt8.toInt32))).set 7 (Value.int (((((vv.toInt64).toUInt64 >>> ((7 : Int32) &&& 0x3f).toInt64.toUInt64).toInt64).toInt32).toInt8.toInt32))) 256 ++ List.replicate 256 (Value.int (0 : Int32)))).take (8 : Int32).toNatClampNeg ++ ((List.range (300 : Int32).toNatClampNeg).map fun i => ((((List.replicate 300 (Value.int (0 : Int32))).set 0 (Value.int (p3.toInt8.toInt32))).set 299 (Value.int ((p3 >>> ((8 : Int32) &&& 31)).toInt8.toInt32)))).getD ((0 : Int32).toNatClampNeg + i) (Value.int (0 : Int32))) ++ ((own_cp (((own_hd cd).set 6 (Value.int (((((vv.toInt64) &&& (127 : Int64)) ||| (128 : Int64)).toInt32).toInt8.toInt32))).set 7 (Value.int (((((vv.toInt64).toUInt64 >>> ((7 : Int32) &&& 0x3f).toInt64.toUInt64).toInt64).toInt32).toInt8.toInt32))) 256 ++ List.replicate 256 (Value.int (0 : Int32)))).drop ((8 : Int32).toNatClampNeg + (300 : Int32).toNatClampNeg)) 308).getD (4 : Int32).toNatClampNeg (Value.int (0 : Int32)) = (Value.int (3 : Int32))) (rfl : (own_cp (((own_cp (((own_hd cd).set 6 (Value.int (((((vv.toInt64) &&& (127 : Int64)) ||| (128 : Int64)).toInt32).toInt8.toInt32))).set 7 (Value.int (((((vv.toInt64).toUInt64 >>> ((7 : Int32) &&& 0x3f).toInt64.toUInt64).toInt64).toInt32).toInt8.toInt32))) 256 ++ List.replicate 256 (Value.int (0 : Int32)))).take (8 : Int32).toNatClampNeg ++ ((List.range (300 : Int32).toNatClampNeg).map fun i => ((((List.replicate 300 (Value.int (0 : Int32))).set 0 (Value.int (p3.toInt8.toInt32))).set 299 (Value.int ((p3 >>> ((8 : Int32) &&& 31)).toInt8.toInt32)))).getD ((0 : Int32).toNatClampNeg + i) (Value.int (0 : Int32))) ++ ((own_cp (((own_hd cd).set 6 (Value.int (((((vv.toInt64) &&& (127 : Int64)) ||| (128 : Int64)).toInt32).toInt8.toInt32))).set 7 (Value.int (((((vv.toInt64).toUInt64 >>> ((7 : Int32) &&& 0x3f).toInt64.toUInt64).toInt64).toInt32).toInt8.toInt32))) 256 ++ List.replicate 256 (Value.int (0 : Int32)))).drop ((8 : Int32).toNatClampNeg + (300 : Int32).toNatClampNeg)) 308).getD (5 : Int32).toNatClampNeg (Value.int (0 : Int32)) = (Value.int cd))) hZ190 (hw _ (List.mem_of_getElem? (i := 75) rfl)) (hw _ (List.mem_of_getElem? (i := 74) rfl)) (by decide) (by decide)) (g := (mkF m 286 #[sI p1, sI p2, sI p3, sI p4, sI sel, sR aK, sI cd, sI vv, sI (1 : Int32), sR ob122, sR ob131, sR b_137, sR b_194, sI (2 : Int32), .val (Value.int (((vv &&& (127 : Int32)) ||| (128 : Int32)).toInt8.toInt32)), .val (Value.int (((vv.toUInt32 >>> ((7 : Int32) &&& 31).toUInt32).toInt32).toInt8.toInt32)), sI (0 : Int32), sI (308 : Int32), .unset] [(Value.int cd), (Value.ref b_194)])) rfl (by rw [hml]; rfl) (argsL := [(Value.ref b_194), (Value.int cd)]) (rest := []) (lenOf own_pd10 rfl) rfl (by show 2 * 0 + _ ≤ _; exact Nat.le_of_eq rfl) (hb hby at_286) (fun _ _ => ⟨rfl, rfl, (by decide : 10 + 0 ≤ _), (by decide : 1492 + 0 ≤ _)⟩)
          dsimp only [Pt.U, Pt.locs, Pt.cells, Pt.slots] at X198 l198 y198 z198 st198 hQ198
          subst l198 y198 z198
          refine own_Go.by st198 ?_
          obtain ⟨rfl, N198q, e198⟩ := hQ198
          have N198 := Fr.app N194 N198q
          show own_Go _ _ _ _ (T198.setTop (mkF m 289 #[sI p1, sI p2, sI p3, sI p4, sI sel, sR aK, sI cd, sI vv, sI (1 : Int32), sR ob122, sR ob131, sR b_137, sR b_194, sI (2 : Int32), .val (Value.int (((vv &&& (127 : Int32)) ||| (128 : Int32)).toInt8.toInt32)), .val (Value.int (((vv.toUInt32 >>> ((7 : Int32) &&& 31).toUInt32).toInt32).toInt8.toInt32)), sI (0 : Int32), sI (308 : Int32), .unset] [(Value.int (1 : Int32))]))
          refine own_Go.by (fun tq kq => XS.ifYes X198.here hx rfl (pc0 := 289) (pc' := 294) rfl (hb hby at_289) rfl ((if0 _ _).trans (feq (by decide : ¬ ((1 : Int32) = (0 : Int32)))).2) (by decide) (by decide) kq) ?_
          refine own_Go.by (fun tq kq => XS.aload X198.here hx rfl (hb hby at_294) rfl rfl kq) ?_
          refine own_Go.by (fun tq kq => XS.bipush X198.here hx rfl (hb hby at_296) kq) ?_
          show own_Go _ _ _ _ (T198.setTop (mkF m 298 #[sI p1, sI p2, sI p3, sI p4, sI sel, sR aK, sI cd, sI vv, sI (1 : Int32), sR ob122, sR ob131, sR b_137, sR b_194, sI (2 : Int32), .val (Value.int (((vv &&& (127 : Int32)) ||| (128 : Int32)).toInt8.toInt32)), .val (Value.int (((vv.toUInt32 >>> ((7 : Int32) &&& 31).toUInt32).toInt32).toInt8.toInt32)), sI (0 : Int32), sI (308 : Int32), .unset] [(Value.int (6 : Int32)), (Value.ref b_194)]))
          obtain ⟨cl199, Ar199, q199, S199, M199, Hh199, G199⟩ := id p194_1
          refine own_Go.by (fun tq kq => X198.baloadBytes hx (j := (6 : Int32)) (v := (Value.int (((((vv.toInt64) &&& (127 : Int64)) ||| (128 : Int64)).toInt32).toInt8.toInt32))) (by rw [e198]; exact Ar199.1) (State.isArrayOf_alike hZ190.alike Ar199.2.1) Ar199.2.2 (inb_of S199 (by decide : ¬ ((6 : Int32) < (0 : Int32)) ∧ (6 : Int32) < (308 : Int32))) (Has.at Hh199 (inb_of S199 (by decide : ¬ ((6 : Int32) < (0 : Int32)) ∧ (6 : Int32) < (308 : Int32))) rfl) (g := (mkF m 298 #[sI p1, sI p2, sI p3, sI p4, sI sel, sR aK, sI cd, sI vv, sI (1 : Int32), sR ob122, sR ob131, sR b_137, sR b_194, sI (2 : Int32), .val (Value.int (((vv &&& (127 : Int32)) ||| (128 : Int32)).toInt8.toInt32)), .val (Value.int (((vv.toUInt32 >>> ((7 : Int32) &&& 31).toUInt32).toInt32).toInt8.toInt32)), sI (0 : Int32), sI (308 : Int32), .unset] [(Value.int (6 : Int32)), (Value.ref b_194)])) rfl rfl (hb hby at_298) _ kq) ?_
          refine own_Go.by (fun tq kq => XS.iload X198.here hx rfl (hb hby at_299) rfl kq) ?_
          show own_Go _ _ _ _ (T198.setTop (mkF m 301 #[sI p1, sI p2, sI p3, sI p4, sI sel, sR aK, sI cd, sI vv, sI (1 : Int32), sR ob122, sR ob131, sR b_137, sR b_194, sI (2 : Int32), .val (Value.int (((vv &&& (127 : Int32)) ||| (128 : Int32)).toInt8.toInt32)), .val (Value.int (((vv.toUInt32 >>> ((7 : Int32) &&& 31).toUInt32).toInt32).toInt8.toInt32)), sI (0 : Int32), sI (308 : Int32), .unset] [(Value.int (((vv &&& (127 : Int32)) ||| (128 : Int32)).toInt8.toInt32)), (Value.int (((((vv.toInt64) &&& (127 : Int64)) ||| (128 : Int64)).toInt32).toInt8.toInt32))]))
          refine own_Go.by (fun tq kq => XS.icmpYes X198.here hx rfl (pc0 := 301) (pc' := 306) rfl (hb hby at_301) rfl (teq (own_lo (own_e64 vv) : (((((vv.toInt64) &&& (127 : Int64)) ||| (128 : Int64)).toInt32).toInt8.toInt32) = (((vv &&& (127 : Int32)) ||| (128 : Int32)).toInt8.toInt32))).1 (by decide) (by decide) kq) ?_
          refine own_Go.by (fun tq kq => XS.iload X198.here hx rfl (hb hby at_306) rfl kq) ?_
          refine own_Go.by (fun tq kq => XS.iconst X198.here hx rfl (hb hby at_308) kq) ?_
          show own_Go _ _ _ _ (T198.setTop (mkF m 309 #[sI p1, sI p2, sI p3, sI p4, sI sel, sR aK, sI cd, sI vv, sI (1 : Int32), sR ob122, sR ob131, sR b_137, sR b_194, sI (2 : Int32), .val (Value.int (((vv &&& (127 : Int32)) ||| (128 : Int32)).toInt8.toInt32)), .val (Value.int (((vv.toUInt32 >>> ((7 : Int32) &&& 31).toUInt32).toInt32).toInt8.toInt32)), sI (0 : Int32), sI (308 : Int32), .unset] [(Value.int (2 : Int32)), (Value.int (2 : Int32))]))
          refine own_Go.by (fun tq kq => XS.icmpNo X198.here hx rfl (hb hby at_309) rfl (flt (by decide : ¬ ((2 : Int32) < (2 : Int32)))).1 kq) ?_
          refine own_Go.by (fun tq kq => XS.aload X198.here hx rfl (hb hby at_312) rfl rfl kq) ?_
          refine own_Go.by (fun tq kq => XS.bipush X198.here hx rfl (hb hby at_314) kq) ?_
          show own_Go _ _ _ _ (T198.setTop (mkF m 316 #[sI p1, sI p2, sI p3, sI p4, sI sel, sR aK, sI cd, sI vv, sI (1 : Int32), sR ob122, sR ob131, sR b_137, sR b_194, sI (2 : Int32), .val (Value.int (((vv &&& (127 : Int32)) ||| (128 : Int32)).toInt8.toInt32)), .val (Value.int (((vv.toUInt32 >>> ((7 : Int32) &&& 31).toUInt32).toInt32).toInt8.toInt32)), sI (0 : Int32), sI (308 : Int32), .unset] [(Value.int (7 : Int32)), (Value.ref b_194)]))
          obtain ⟨cl200, Ar200, q200, S200, M200, Hh200, G200⟩ := id p194_1
          refine own_Go.by (fun tq kq => X198.baloadBytes hx (j := (7 : Int32)) (v := (Value.int (((((vv.toInt64).toUInt64 >>> ((7 : Int32) &&& 0x3f).toInt64.toUInt64).toInt64).toInt32).toInt8.toInt32))) (by rw [e198]; exact Ar200.1) (State.isArrayOf_alike hZ190.alike Ar200.2.1) Ar200.2.2 (inb_of S200 (by decide : ¬ ((7 : Int32) < (0 : Int32)) ∧ (7 : Int32) < (308 : Int32))) (Has.at Hh200 (inb_of S200 (by decide : ¬ ((7 : Int32) < (0 : Int32)) ∧ (7 : Int32) < (308 : Int32))) rfl) (g := (mkF m 316 #[sI p1, sI p2, sI p3, sI p4, sI sel, sR aK, sI cd, sI vv, sI (1 : Int32), sR ob122, sR ob131, sR b_137, sR b_194, sI (2 : Int32), .val (Value.int (((vv &&& (127 : Int32)) ||| (128 : Int32)).toInt8.toInt32)), .val (Value.int (((vv.toUInt32 >>> ((7 : Int32) &&& 31).toUInt32).toInt32).toInt8.toInt32)), sI (0 : Int32), sI (308 : Int32), .unset] [(Value.int (7 : Int32)), (Value.ref b_194)])) rfl rfl (hb hby at_316) _ kq) ?_
          refine own_Go.by (fun tq kq => XS.iload X198.here hx rfl (hb hby at_317) rfl kq) ?_
          show own_Go _ _ _ _ (T198.setTop (mkF m 319 #[sI p1, sI p2, sI p3, sI p4, sI sel, sR aK, sI cd, sI vv, sI (1 : Int32), sR ob122, sR ob131, sR b_137, sR b_194, sI (2 : Int32), .val (Value.int (((vv &&& (127 : Int32)) ||| (128 : Int32)).toInt8.toInt32)), .val (Value.int (((vv.toUInt32 >>> ((7 : Int32) &&& 31).toUInt32).toInt32).toInt8.toInt32)), sI (0 : Int32), sI (308 : Int32), .unset] [(Value.int (((vv.toUInt32 >>> ((7 : Int32) &&& 31).toUInt32).toInt32).toInt8.toInt32)), (Value.int (((((vv.toInt64).toUInt64 >>> ((7 : Int32) &&& 0x3f).toInt64.toUInt64).toInt64).toInt32).toInt8.toInt32))]))
          refine own_Go.by (fun tq kq => XS.icmpYes X198.here hx rfl (pc0 := 319) (pc' := 324) rfl (hb hby at_319) rfl (teq ((congrArg (fun z : Int32 => z.toInt8.toInt32) (own_s7 hv21)) : (((((vv.toInt64).toUInt64 >>> ((7 : Int32) &&& 0x3f).toInt64.toUInt64).toInt64).toInt32).toInt8.toInt32) = (((vv.toUInt32 >>> ((7 : Int32) &&& 31).toUInt32).toInt32).toInt8.toInt32))).1 (by decide) (by decide) kq) ?_
          refine own_Go.by (fun tq kq => XS.iload X198.here hx rfl (hb hby at_324) rfl kq) ?_
          refine own_Go.by (fun tq kq => XS.iconst X198.here hx rfl (hb hby at_326) kq) ?_
          show own_Go _ _ _ _ (T198.setTop (mkF m 327 #[sI p1, sI p2, sI p3, sI p4, sI sel, sR aK, sI cd, sI vv, sI (1 : Int32), sR ob122, sR ob131, sR b_137, sR b_194, sI (2 : Int32), .val (Value.int (((vv &&& (127 : Int32)) ||| (128 : Int32)).toInt8.toInt32)), .val (Value.int (((vv.toUInt32 >>> ((7 : Int32) &&& 31).toUInt32).toInt32).toInt8.toInt32)), sI (0 : Int32), sI (308 : Int32), .unset] [(Value.int (3 : Int32)), (Value.int (2 : Int32))]))
          refine own_Go.by (fun tq kq => XS.icmpYes X198.here hx rfl (pc0 := 327) (pc' := 342) rfl (hb hby at_327) rfl (tlt (by decide : (2 : Int32) < (3 : Int32))).1 (by decide) (by decide) kq) ?_
          refine own_Go.by (fun tq kq => XS.iload X198.here hx rfl (hb hby at_342) rfl kq) ?_
          show own_Go _ _ _ _ (T198.setTop (mkF m 344 #[sI p1, sI p2, sI p3, sI p4, sI sel, sR aK, sI cd, sI vv, sI (1 : Int32), sR ob122, sR ob131, sR b_137, sR b_194, sI (2 : Int32), .val (Value.int (((vv &&& (127 : Int32)) ||| (128 : Int32)).toInt8.toInt32)), .val (Value.int (((vv.toUInt32 >>> ((7 : Int32) &&& 31).toUInt32).toInt32).toInt8.toInt32)), sI (0 : Int32), sI (308 : Int32), .unset] [(Value.int (1 : Int32))]))
          refine own_Go.by (fun tq kq => XS.ifNo X198.here hx rfl (hb hby at_344) rfl ((if0 _ _).trans (feq (by decide : ¬ ((1 : Int32) = (0 : Int32)))).1) kq) ?_
          refine own_Go.by (fun tq kq => XS.bipush X198.here hx rfl (hb hby at_347) kq) ?_
          refine own_Go.by (fun tq kq => XS.iload X198.here hx rfl (hb hby at_349) rfl kq) ?_
          refine own_Go.by (fun tq kq => XS.iadd X198.here hx rfl (hb hby at_351) rfl kq) ?_
          show own_Go _ _ _ _ (T198.setTop (mkF m 352 #[sI p1, sI p2, sI p3, sI p4, sI sel, sR aK, sI cd, sI vv, sI (1 : Int32), sR ob122, sR ob131, sR b_137, sR b_194, sI (2 : Int32), .val (Value.int (((vv &&& (127 : Int32)) ||| (128 : Int32)).toInt8.toInt32)), .val (Value.int (((vv.toUInt32 >>> ((7 : Int32) &&& 31).toUInt32).toInt32).toInt8.toInt32)), sI (0 : Int32), sI (308 : Int32), .unset] [(Value.int (8 : Int32))]))
          refine own_Go.by (fun tq kq => XS.istore X198.here hx rfl (hb hby at_352) rfl (l' := #[sI p1, sI p2, sI p3, sI p4, sI sel, sR aK, sI cd, sI vv, sI (1 : Int32), sR ob122, sR ob131, sR b_137, sR b_194, sI (2 : Int32), .val (Value.int (((vv &&& (127 : Int32)) ||| (128 : Int32)).toInt8.toInt32)), .val (Value.int (((vv.toUInt32 >>> ((7 : Int32) &&& 31).toUInt32).toInt32).toInt8.toInt32)), sI (0 : Int32), sI (308 : Int32), sI (8 : Int32)]) rfl kq) ?_
          refine own_Go.by (fun tq kq => XS.aload X198.here hx rfl (hb hby at_354) rfl rfl kq) ?_
          refine own_Go.by (fun tq kq => XS.iload X198.here hx rfl (hb hby at_356) rfl kq) ?_
          show own_Go _ _ _ _ (T198.setTop (mkF m 358 #[sI p1, sI p2, sI p3, sI p4, sI sel, sR aK, sI cd, sI vv, sI (1 : Int32), sR ob122, sR ob131, sR b_137, sR b_194, sI (2 : Int32), .val (Value.int (((vv &&& (127 : Int32)) ||| (128 : Int32)).toInt8.toInt32)), .val (Value.int (((vv.toUInt32 >>> ((7 : Int32) &&& 31).toUInt32).toInt32).toInt8.toInt32)), sI (0 : Int32), sI (308 : Int32), sI (8 : Int32)] [(Value.int (8 : Int32)), (Value.ref b_194)]))
          obtain ⟨cl201, Ar201, q201, S201, M201, Hh201, G201⟩ := id p194_1
          refine own_Go.by (fun tq kq => X198.baloadBytes hx (j := (8 : Int32)) (v := (Value.int (p3.toInt8.toInt32))) (by rw [e198]; exact Ar201.1) (State.isArrayOf_alike hZ190.alike Ar201.2.1) Ar201.2.2 (inb_of S201 (by decide : ¬ ((8 : Int32) < (0 : Int32)) ∧ (8 : Int32) < (308 : Int32))) (Has.at Hh201 (inb_of S201 (by decide : ¬ ((8 : Int32) < (0 : Int32)) ∧ (8 : Int32) < (308 : Int32))) rfl) (g := (mkF m 358 #[sI p1, sI p2, sI p3, sI p4, sI sel, sR aK, sI cd, sI vv, sI (1 : Int32), sR ob122, sR ob131, sR b_137, sR b_194, sI (2 : Int32), .val (Value.int (((vv &&& (127 : Int32)) ||| (128 : Int32)).toInt8.toInt32)), .val (Value.int (((vv.toUInt32 >>> ((7 : Int32) &&& 31).toUInt32).toInt32).toInt8.toInt32)), sI (0 : Int32), sI (308 : Int32), sI (8 : Int32)] [(Value.int (8 : Int32)), (Value.ref b_194)])) rfl rfl (hb hby at_358) _ kq) ?_
          refine own_Go.by (fun tq kq => XS.aload X198.here hx rfl (hb hby at_359) rfl rfl kq) ?_
          refine own_Go.by (fun tq kq => XS.iconst X198.here hx rfl (hb hby at_361) kq) ?_
          show own_Go _ _ _ _ (T198.setTop (mkF m 362 #[sI p1, sI p2, sI p3, sI p4, sI sel, sR aK, sI cd, sI vv, sI (1 : Int32), sR ob122, sR ob131, sR b_137, sR b_194, sI (2 : Int32), .val (Value.int (((vv &&& (127 : Int32)) ||| (128 : Int32)).toInt8.toInt32)), .val (Value.int (((vv.toUInt32 >>> ((7 : Int32) &&& 31).toUInt32).toInt32).toInt8.toInt32)), sI (0 : Int32), sI (308 : Int32), sI (8 : Int32)] [(Value.int (0 : Int32)), (Value.ref ob122), (Value.int (p3.toInt8.toInt32))]))
          have c202 := ((c191.keep K190q (ninS (Nat.ne_of_lt (Nat.lt_of_lt_of_le A122.lt (Nat.le_trans (Keep.of_wr W126).1 (Nat.le_trans (Keep.of_wr W129).1 (Nat.le_of_eq y131.symm))))) nin0)).keep K194q nin0)
          obtain ⟨cl203, Ar203, q203, S203, M203, Hh203, G203⟩ := id c202
          refine own_Go.by (fun tq kq => X198.baloadBytes hx (j := (0 : Int32)) (v := (Value.int (p3.toInt8.toInt32))) (by rw [e198]; exact Ar203.1) (State.isArrayOf_alike hZ190.alike Ar203.2.1) Ar203.2.2 (inb_of S203 (by decide : ¬ ((0 : Int32) < (0 : Int32)) ∧ (0 : Int32) < (300 : Int32))) (Has.at Hh203 (inb_of S203 (by decide : ¬ ((0 : Int32) < (0 : Int32)) ∧ (0 : Int32) < (300 : Int32))) rfl) (g := (mkF m 362 #[sI p1, sI p2, sI p3, sI p4, sI sel, sR aK, sI cd, sI vv, sI (1 : Int32), sR ob122, sR ob131, sR b_137, sR b_194, sI (2 : Int32), .val (Value.int (((vv &&& (127 : Int32)) ||| (128 : Int32)).toInt8.toInt32)), .val (Value.int (((vv.toUInt32 >>> ((7 : Int32) &&& 31).toUInt32).toInt32).toInt8.toInt32)), sI (0 : Int32), sI (308 : Int32), sI (8 : Int32)] [(Value.int (0 : Int32)), (Value.ref ob122), (Value.int (p3.toInt8.toInt32))])) rfl rfl (hb hby at_362) _ kq) ?_
          show own_Go _ _ _ _ (T198.setTop (mkF m 363 #[sI p1, sI p2, sI p3, sI p4, sI sel, sR aK, sI cd, sI vv, sI (1 : Int32), sR ob122, sR ob131, sR b_137, sR b_194, sI (2 : Int32), .val (Value.int (((vv &&& (127 : Int32)) ||| (128 : Int32)).toInt8.toInt32)), .val (Value.int (((vv.toUInt32 >>> ((7 : Int32) &&& 31).toUInt32).toInt32).toInt8.toInt32)), sI (0 : Int32), sI (308 : Int32), sI (8 : Int32)] [(Value.int (p3.toInt8.toInt32)), (Value.int (p3.toInt8.toInt32))]))
          refine own_Go.by (fun tq kq => XS.icmpNo X198.here hx rfl (hb hby at_363) rfl (teq (rfl : (p3.toInt8.toInt32) = (p3.toInt8.toInt32))).2 kq) ?_
          refine own_Go.by (fun tq kq => XS.aload X198.here hx rfl (hb hby at_366) rfl rfl kq) ?_
          refine own_Go.by (fun tq kq => XS.iload X198.here hx rfl (hb hby at_368) rfl kq) ?_
          refine own_Go.by (fun tq kq => XS.sipush X198.here hx rfl (hb hby at_370) kq) ?_
          show own_Go _ _ _ _ (T198.setTop (mkF m 373 #[sI p1, sI p2, sI p3, sI p4, sI sel, sR aK, sI cd, sI vv, sI (1 : Int32), sR ob122, sR ob131, sR b_137, sR b_194, sI (2 : Int32), .val (Value.int (((vv &&& (127 : Int32)) ||| (128 : Int32)).toInt8.toInt32)), .val (Value.int (((vv.toUInt32 >>> ((7 : Int32) &&& 31).toUInt32).toInt32).toInt8.toInt32)), sI (0 : Int32), sI (308 : Int32), sI (8 : Int32)] [(Value.int (150 : Int32)), (Value.int (8 : Int32)), (Value.ref b_194)]))
          refine own_Go.by (fun tq kq => XS.iadd X198.here hx rfl (hb hby at_373) rfl kq) ?_
          show own_Go _ _ _ _ (T198.setTop (mkF m 374 #[sI p1, sI p2, sI p3, sI p4, sI sel, sR aK, sI cd, sI vv, sI (1 : Int32), sR ob122, sR ob131, sR b_137, sR b_194, sI (2 : Int32), .val (Value.int (((vv &&& (127 : Int32)) ||| (128 : Int32)).toInt8.toInt32)), .val (Value.int (((vv.toUInt32 >>> ((7 : Int32) &&& 31).toUInt32).toInt32).toInt8.toInt32)), sI (0 : Int32), sI (308 : Int32), sI (8 : Int32)] [(Value.int (158 : Int32)), (Value.ref b_194)]))
          obtain ⟨cl204, Ar204, q204, S204, M204, Hh204, G204⟩ := id p194_1
          refine own_Go.by (fun tq kq => X198.baloadBytes hx (j := (158 : Int32)) (v := (Value.int (0 : Int32))) (by rw [e198]; exact Ar204.1) (State.isArrayOf_alike hZ190.alike Ar204.2.1) Ar204.2.2 (inb_of S204 (by decide : ¬ ((158 : Int32) < (0 : Int32)) ∧ (158 : Int32) < (308 : Int32))) (Has.at Hh204 (inb_of S204 (by decide : ¬ ((158 : Int32) < (0 : Int32)) ∧ (158 : Int32) < (308 : Int32))) rfl) (g := (mkF m 374 #[sI p1, sI p2, sI p3, sI p4, sI sel, sR aK, sI cd, sI vv, sI (1 : Int32), sR ob122, sR ob131, sR b_137, sR b_194, sI (2 : Int32), .val (Value.int (((vv &&& (127 : Int32)) ||| (128 : Int32)).toInt8.toInt32)), .val (Value.int (((vv.toUInt32 >>> ((7 : Int32) &&& 31).toUInt32).toInt32).toInt8.toInt32)), sI (0 : Int32), sI (308 : Int32), sI (8 : Int32)] [(Value.int (158 : Int32)), (Value.ref b_194)])) rfl rfl (hb hby at_374) _ kq) ?_
          show own_Go _ _ _ _ (T198.setTop (mkF m 375 #[sI p1, sI p2, sI p3, sI p4, sI sel, sR aK, sI cd, sI vv, sI (1 : Int32), sR ob122, sR ob131, sR b_137, sR b_194, sI (2 : Int32), .val (Value.int (((vv &&& (127 : Int32)) ||| (128 : Int32)).toInt8.toInt32)), .val (Value.int (((vv.toUInt32 >>> ((7 : Int32) &&& 31).toUInt32).toInt32).toInt8.toInt32)), sI (0 : Int32), sI (308 : Int32), sI (8 : Int32)] [(Value.int (0 : Int32))]))
          refine own_Go.by (fun tq kq => XS.ifNo X198.here hx rfl (hb hby at_375) rfl ((if0 _ _).trans (teq (by decide : (0 : Int32) = (0 : Int32))).2) kq) ?_
          refine own_Go.by (fun tq kq => XS.aload X198.here hx rfl (hb hby at_378) rfl rfl kq) ?_
          refine own_Go.by (fun tq kq => XS.iload X198.here hx rfl (hb hby at_380) rfl kq) ?_
          refine own_Go.by (fun tq kq => XS.sipush X198.here hx rfl (hb hby at_382) kq) ?_
          show own_Go _ _ _ _ (T198.setTop (mkF m 385 #[sI p1, sI p2, sI p3, sI p4, sI sel, sR aK, sI cd, sI vv, sI (1 : Int32), sR ob122, sR ob131, sR b_137, sR b_194, sI (2 : Int32), .val (Value.int (((vv &&& (127 : Int32)) ||| (128 : Int32)).toInt8.toInt32)), .val (Value.int (((vv.toUInt32 >>> ((7 : Int32) &&& 31).toUInt32).toInt32).toInt8.toInt32)), sI (0 : Int32), sI (308 : Int32), sI (8 : Int32)] [(Value.int (299 : Int32)), (Value.int (8 : Int32)), (Value.ref b_194)]))
          refine own_Go.by (fun tq kq => XS.iadd X198.here hx rfl (hb hby at_385) rfl kq) ?_
          show own_Go _ _ _ _ (T198.setTop (mkF m 386 #[sI p1, sI p2, sI p3, sI p4, sI sel, sR aK, sI cd, sI vv, sI (1 : Int32), sR ob122, sR ob131, sR b_137, sR b_194, sI (2 : Int32), .val (Value.int (((vv &&& (127 : Int32)) ||| (128 : Int32)).toInt8.toInt32)), .val (Value.int (((vv.toUInt32 >>> ((7 : Int32) &&& 31).toUInt32).toInt32).toInt8.toInt32)), sI (0 : Int32), sI (308 : Int32), sI (8 : Int32)] [(Value.int (307 : Int32)), (Value.ref b_194)]))
          obtain ⟨cl205, Ar205, q205, S205, M205, Hh205, G205⟩ := id p194_1
          refine own_Go.by (fun tq kq => X198.baloadBytes hx (j := (307 : Int32)) (v := (Value.int ((p3 >>> ((8 : Int32) &&& 31)).toInt8.toInt32))) (by rw [e198]; exact Ar205.1) (State.isArrayOf_alike hZ190.alike Ar205.2.1) Ar205.2.2 (inb_of S205 (by decide : ¬ ((307 : Int32) < (0 : Int32)) ∧ (307 : Int32) < (308 : Int32))) (Has.at Hh205 (inb_of S205 (by decide : ¬ ((307 : Int32) < (0 : Int32)) ∧ (307 : Int32) < (308 : Int32))) rfl) (g := (mkF m 386 #[sI p1, sI p2, sI p3, sI p4, sI sel, sR aK, sI cd, sI vv, sI (1 : Int32), sR ob122, sR ob131, sR b_137, sR b_194, sI (2 : Int32), .val (Value.int (((vv &&& (127 : Int32)) ||| (128 : Int32)).toInt8.toInt32)), .val (Value.int (((vv.toUInt32 >>> ((7 : Int32) &&& 31).toUInt32).toInt32).toInt8.toInt32)), sI (0 : Int32), sI (308 : Int32), sI (8 : Int32)] [(Value.int (307 : Int32)), (Value.ref b_194)])) rfl rfl (hb hby at_386) _ kq) ?_
          refine own_Go.by (fun tq kq => XS.aload X198.here hx rfl (hb hby at_387) rfl rfl kq) ?_
          refine own_Go.by (fun tq kq => XS.sipush X198.here hx rfl (hb hby at_389) kq) ?_
          show own_Go _ _ _ _ (T198.setTop (mkF m 392 #[sI p1, sI p2, sI p3, sI p4, sI sel, sR aK, sI cd, sI vv, sI (1 : Int32), sR ob122, sR ob131, sR b_137, sR b_194, sI (2 : Int32), .val (Value.int (((vv &&& (127 : Int32)) ||| (128 : Int32)).toInt8.toInt32)), .val (Value.int (((vv.toUInt32 >>> ((7 : Int32) &&& 31).toUInt32).toInt32).toInt8.toInt32)), sI (0 : Int32), sI (308 : Int32), sI (8 : Int32)] [(Value.int (299 : Int32)), (Value.ref ob122), (Value.int ((p3 >>> ((8 : Int32) &&& 31)).toInt8.toInt32))]))
          obtain ⟨cl206, Ar206, q206, S206, M206, Hh206, G206⟩ := id c202
          refine own_Go.by (fun tq kq => X198.baloadBytes hx (j := (299 : Int32)) (v := (Value.int ((p3 >>> ((8 : Int32) &&& 31)).toInt8.toInt32))) (by rw [e198]; exact Ar206.1) (State.isArrayOf_alike hZ190.alike Ar206.2.1) Ar206.2.2 (inb_of S206 (by decide : ¬ ((299 : Int32) < (0 : Int32)) ∧ (299 : Int32) < (300 : Int32))) (Has.at Hh206 (inb_of S206 (by decide : ¬ ((299 : Int32) < (0 : Int32)) ∧ (299 : Int32) < (300 : Int32))) rfl) (g := (mkF m 392 #[sI p1, sI p2, sI p3, sI p4, sI sel, sR aK, sI cd, sI vv, sI (1 : Int32), sR ob122, sR ob131, sR b_137, sR b_194, sI (2 : Int32), .val (Value.int (((vv &&& (127 : Int32)) ||| (128 : Int32)).toInt8.toInt32)), .val (Value.int (((vv.toUInt32 >>> ((7 : Int32) &&& 31).toUInt32).toInt32).toInt8.toInt32)), sI (0 : Int32), sI (308 : Int32), sI (8 : Int32)] [(Value.int (299 : Int32)), (Value.ref ob122), (Value.int ((p3 >>> ((8 : Int32) &&& 31)).toInt8.toInt32))])) rfl rfl (hb hby at_392) _ kq) ?_
          show own_Go _ _ _ _ (T198.setTop (mkF m 393 #[sI p1, sI p2, sI p3, sI p4, sI sel, sR aK, sI cd, sI vv, sI (1 : Int32), sR ob122, sR ob131, sR b_137, sR b_194, sI (2 : Int32), .val (Value.int (((vv &&& (127 : Int32)) ||| (128 : Int32)).toInt8.toInt32)), .val (Value.int (((vv.toUInt32 >>> ((7 : Int32) &&& 31).toUInt32).toInt32).toInt8.toInt32)), sI (0 : Int32), sI (308 : Int32), sI (8 : Int32)] [(Value.int ((p3 >>> ((8 : Int32) &&& 31)).toInt8.toInt32)), (Value.int ((p3 >>> ((8 : Int32) &&& 31)).toInt8.toInt32))]))
          refine own_Go.by (fun tq kq => XS.icmpYes X198.here hx rfl (pc0 := 393) (pc' := 398) rfl (hb hby at_393) rfl (teq (rfl : ((p3 >>> ((8 : Int32) &&& 31)).toInt8.toInt32) = ((p3 >>> ((8 : Int32) &&& 31)).toInt8.toInt32))).1 (by decide) (by decide) kq) ?_
          refine own_Go.by (fun tq kq => XS.aload X198.here hx rfl (hb hby at_398) rfl rfl kq) ?_
          refine own_Go.by (fun tq kq => XS.iconst X198.here hx rfl (hb hby at_400) kq) ?_
          refine own_Go.by (fun tq kq => XS.aload X198.here hx rfl (hb hby at_401) rfl rfl kq) ?_
          show own_Go _ _ _ _ (T198.setTop (mkF m 403 #[sI p1, sI p2, sI p3, sI p4, sI sel, sR aK, sI cd, sI vv, sI (1 : Int32), sR ob122, sR ob131, sR b_137, sR b_194, sI (2 : Int32), .val (Value.int (((vv &&& (127 : Int32)) ||| (128 : Int32)).toInt8.toInt32)), .val (Value.int (((vv.toUInt32 >>> ((7 : Int32) &&& 31).toUInt32).toInt32).toInt8.toInt32)), sI (0 : Int32), sI (308 : Int32), sI (8 : Int32)] [(Value.ref b_194), (Value.int (0 : Int32)), (Value.ref b_194)]))
          refine own_Go.by (fun tq kq => XS.iconst X198.here hx rfl (hb hby at_403) kq) ?_
          show own_Go _ _ _ _ (T198.setTop (mkF m 404 #[sI p1, sI p2, sI p3, sI p4, sI sel, sR aK, sI cd, sI vv, sI (1 : Int32), sR ob122, sR ob131, sR b_137, sR b_194, sI (2 : Int32), .val (Value.int (((vv &&& (127 : Int32)) ||| (128 : Int32)).toInt8.toInt32)), .val (Value.int (((vv.toUInt32 >>> ((7 : Int32) &&& 31).toUInt32).toInt32).toInt8.toInt32)), sI (0 : Int32), sI (308 : Int32), sI (8 : Int32)] [(Value.int (0 : Int32)), (Value.ref b_194), (Value.int (0 : Int32)), (Value.ref b_194)]))
          obtain ⟨cl207, Ar207, q207, S207, M207, Hh207, G207⟩ := id p194_1
          refine own_Go.by (fun tq kq => X198.baloadBytes hx (j := (0 : Int32)) (v := (Value.int (69 : Int32))) (by rw [e198]; exact Ar207.1) (State.isArrayOf_alike hZ190.alike Ar207.2.1) Ar207.2.2 (inb_of S207 (by decide : ¬ ((0 : Int32) < (0 : Int32)) ∧ (0 : Int32) < (308 : Int32))) (Has.at Hh207 (inb_of S207 (by decide : ¬ ((0 : Int32) < (0 : Int32)) ∧ (0 : Int32) < (308 : Int32))) rfl) (g := (mkF m 404 #[sI p1, sI p2, sI p3, sI p4, sI sel, sR aK, sI cd, sI vv, sI (1 : Int32), sR ob122, sR ob131, sR b_137, sR b_194, sI (2 : Int32), .val (Value.int (((vv &&& (127 : Int32)) ||| (128 : Int32)).toInt8.toInt32)), .val (Value.int (((vv.toUInt32 >>> ((7 : Int32) &&& 31).toUInt32).toInt32).toInt8.toInt32)), sI (0 : Int32), sI (308 : Int32), sI (8 : Int32)] [(Value.int (0 : Int32)), (Value.ref b_194), (Value.int (0 : Int32)), (Value.ref b_194)])) rfl rfl (hb hby at_404) _ kq) ?_
          refine own_Go.by (fun tq kq => XS.iconst X198.here hx rfl (hb hby at_405) kq) ?_
          refine own_Go.by (fun tq kq => XS.iadd X198.here hx rfl (hb hby at_406) rfl kq) ?_
          refine own_Go.by (fun tq kq => XS.i2b X198.here hx rfl (hb hby at_407) rfl kq) ?_
          show own_Go _ _ _ _ (T198.setTop (mkF m 408 #[sI p1, sI p2, sI p3, sI p4, sI sel, sR aK, sI cd, sI vv, sI (1 : Int32), sR ob122, sR ob131, sR b_137, sR b_194, sI (2 : Int32), .val (Value.int (((vv &&& (127 : Int32)) ||| (128 : Int32)).toInt8.toInt32)), .val (Value.int (((vv.toUInt32 >>> ((7 : Int32) &&& 31).toUInt32).toInt32).toInt8.toInt32)), sI (0 : Int32), sI (308 : Int32), sI (8 : Int32)] [(Value.int ((70 : Int32).toInt8.toInt32)), (Value.int (0 : Int32)), (Value.ref b_194)]))
          obtain ⟨cl208, Ar208, q208, S208, M208, Hh208, G208⟩ := id p194_1
          obtain ⟨T209, h209, X209, e209, W209, st209⟩ := stB X198 hx hZ190 e198 Ar208 (j := (0 : Int32)) (inb_of S208 ⟨(by decide : ¬ ((0 : Int32) < (0 : Int32))), (by decide : (0 : Int32) < (308 : Int32))⟩) (g := (mkF m 408 #[sI p1, sI p2, sI p3, sI p4, sI sel, sR aK, sI cd, sI vv, sI (1 : Int32), sR ob122, sR ob131, sR b_137, sR b_194, sI (2 : Int32), .val (Value.int (((vv &&& (127 : Int32)) ||| (128 : Int32)).toInt8.toInt32)), .val (Value.int (((vv.toUInt32 >>> ((7 : Int32) &&& 31).toUInt32).toInt32).toInt8.toInt32)), sI (0 : Int32), sI (308 : Int32), sI (8 : Int32)] [(Value.int ((70 : Int32).toInt8.toInt32)), (Value.int (0 : Int32)), (Value.ref b_194)])) rfl rfl (hb hby at_408)
          refine own_Go.by st209 ?_
          have N209 := Fr.snoc X209 N198 g196
          have O210 := O195.wr W209 g196
          have K210 := K195.wr W209 (Or.inr z196)
          have hk_210 := Nat.le_trans hk_195 (Keep.of_wr W209).1
          rw [show nar .byte ((70 : Int32).toInt8.toInt32) = ((70 : Int32).toInt8.toInt32) from own_b8 _] at W209
          have V209 : Arv Z h209 b_194 k2_194 .byte (308 : Int32) ((own_cp (((own_cp (((own_hd cd).set 6 (Value.int (((((vv.toInt64) &&& (127 : Int64)) ||| (128 : Int64)).toInt32).toInt8.toInt32))).set 7 (Value.int (((((vv.toInt64).toUInt64 >>> ((7 : Int32) &&& 0x3f).toInt64.toUInt64).toInt64).toInt32).toInt8.toInt32))) 256 ++ List.replicate 256 (Value.int (0 : Int32)))).take (8 : Int32).toNatClampNeg ++ ((List.range (300 : Int32).toNatClampNeg).map fun i => ((((List.replicate 300 (Value.int (0 : Int32))).set 0 (Value.int (p3.toInt8.toInt32))).set 299 (Value.int ((p3 >>> ((8 : Int32) &&& 31)).toInt8.toInt32)))).getD ((0 : Int32).toNatClampNeg + i) (Value.int (0 : Int32))) ++ ((own_cp (((own_hd cd).set 6 (Value.int (((((vv.toInt64) &&& (127 : Int64)) ||| (128 : Int64)).toInt32).toInt8.toInt32))).set 7 (Value.int (((((vv.toInt64).toUInt64 >>> ((7 : Int32) &&& 0x3f).toInt64.toUInt64).toInt64).toInt32).toInt8.toInt32))) 256 ++ List.replicate 256 (Value.int (0 : Int32)))).drop ((8 : Int32).toNatClampNeg + (300 : Int32).toNatClampNeg)) 308).set 0 (Value.int ((70 : Int32).toInt8.toInt32))) (Value.int (0 : Int32)) := Arv.set Ar208 q208 S208 M208 Hh208 G208 (own_fitB (own_b8 _)) W209 0 (rfl) (Nat.le_of_ble_eq_true rfl)
          refine own_Go.by (fun tq kq => XS.aload X209.here hx rfl (hb hby at_409) rfl rfl kq) ?_
          refine own_Go.by (fun tq kq => XS.iconst X209.here hx rfl (hb hby at_411) kq) ?_
          refine own_Go.by (fun tq kq => XS.iconst X209.here hx rfl (hb hby at_412) kq) ?_
          show own_Go _ _ _ _ (T209.setTop (mkF m 413 #[sI p1, sI p2, sI p3, sI p4, sI sel, sR aK, sI cd, sI vv, sI (1 : Int32), sR ob122, sR ob131, sR b_137, sR b_194, sI (2 : Int32), .val (Value.int (((vv &&& (127 : Int32)) ||| (128 : Int32)).toInt8.toInt32)), .val (Value.int (((vv.toUInt32 >>> ((7 : Int32) &&& 31).toUInt32).toInt32).toInt8.toInt32)), sI (0 : Int32), sI (308 : Int32), sI (8 : Int32)] [(Value.int (0 : Int32)), (Value.int (1 : Int32)), (Value.ref b_137)]))
          have c211 := ((((p137_1.keep K184q (ninS (Ne.symm (Nat.ne_of_lt (Nat.lt_of_lt_of_le A131.lt (Nat.le_trans K134q.1 p137_0)))) (ninS (Ne.symm (Nat.ne_of_lt (Nat.lt_of_lt_of_le p134_4.lt p137_0))) nin0))).keep K190q (ninS (Ne.symm (Nat.ne_of_lt (Nat.lt_of_lt_of_le A131.lt (Nat.le_trans K134q.1 p137_0)))) nin0)).keep K194q nin0).other W209 (Nat.ne_of_lt (Nat.lt_of_lt_of_le p137_1.lt (Nat.le_trans K184q.1 (Nat.le_trans K190q.1 p194_0)))))
          obtain ⟨cl212, Ar212, q212, S212, M212, Hh212, G212⟩ := id c211
          obtain ⟨T213, h213, X213, e213, W213, st213⟩ := stB X209 hx hZ190 e209 Ar212 (j := (1 : Int32)) (inb_of S212 ⟨(by decide : ¬ ((1 : Int32) < (0 : Int32))), (by decide : (1 : Int32) < (6 : Int32))⟩) (g := (mkF m 413 #[sI p1, sI p2, sI p3, sI p4, sI sel, sR aK, sI cd, sI vv, sI (1 : Int32), sR ob122, sR ob131, sR b_137, sR b_194, sI (2 : Int32), .val (Value.int (((vv &&& (127 : Int32)) ||| (128 : Int32)).toInt8.toInt32)), .val (Value.int (((vv.toUInt32 >>> ((7 : Int32) &&& 31).toUInt32).toInt32).toInt8.toInt32)), sI (0 : Int32), sI (308 : Int32), sI (8 : Int32)] [(Value.int (0 : Int32)), (Value.int (1 : Int32)), (Value.ref b_137)])) rfl rfl (hb hby at_413)
          refine own_Go.by st213 ?_
          have N213 := Fr.snoc X213 N209 g139
          have O214 := O210.wr W213 g139
          have K214 := K210.wr W213 (Or.inr z139)
          have hk_214 := Nat.le_trans hk_210 (Keep.of_wr W213).1
          rw [show nar .byte (0 : Int32) = (0 : Int32) from (rfl : ((0 : Int32).toInt8.toInt32) = (0 : Int32))] at W213
          have V213 : Arv Z h213 b_137 k2_137 .byte (6 : Int32) ((own_cp (own_hd cd) 6).set 1 (Value.int (0 : Int32))) (Value.int (0 : Int32)) := Arv.set Ar212 q212 S212 M212 Hh212 G212 (own_fitB ((rfl : ((0 : Int32).toInt8.toInt32) = (0 : Int32)))) W213 1 (rfl) (Nat.le_of_ble_eq_true rfl)
          refine own_Go.by (fun tq kq => XS.aload X213.here hx rfl (hb hby at_414) rfl rfl kq) ?_
          show own_Go _ _ _ _ (T213.setTop (mkF m 416 #[sI p1, sI p2, sI p3, sI p4, sI sel, sR aK, sI cd, sI vv, sI (1 : Int32), sR ob122, sR ob131, sR b_137, sR b_194, sI (2 : Int32), .val (Value.int (((vv &&& (127 : Int32)) ||| (128 : Int32)).toInt8.toInt32)), .val (Value.int (((vv.toUInt32 >>> ((7 : Int32) &&& 31).toUInt32).toInt32).toInt8.toInt32)), sI (0 : Int32), sI (308 : Int32), sI (8 : Int32)] [(Value.ref ob131)]))
          have c216 := (((p190_1.keep K194q).wr W209).wr W213)
          have c217 := (((p190_2.keep K194q nin0).other W209 (Or.inl (Nat.ne_of_lt (Nat.lt_of_lt_of_le A131.lt (Nat.le_trans K134q.1 (Nat.le_trans K137q.1 (Nat.le_trans K184q.1 (Nat.le_trans K190q.1 p194_0)))))))).other W213 (Or.inl (Nat.ne_of_lt (Nat.lt_of_lt_of_le A131.lt (Nat.le_trans K134q.1 p137_0)))))
          have c218 := (((p190_3.keep K194q nin0).other W209 (Or.inl (Nat.ne_of_lt (Nat.lt_of_lt_of_le A131.lt (Nat.le_trans K134q.1 (Nat.le_trans K137q.1 (Nat.le_trans K184q.1 (Nat.le_trans K190q.1 p194_0)))))))).other W213 (Or.inl (Nat.ne_of_lt (Nat.lt_of_lt_of_le A131.lt (Nat.le_trans K134q.1 p137_0)))))
          have c219 := (((p190_4.keep K194q nin0).other W209 (Nat.ne_of_lt (Nat.lt_of_lt_of_le p190_4.lt p194_0))).other W213 (Ne.symm (Nat.ne_of_lt (Nat.lt_of_lt_of_le p137_1.lt (Nat.le_trans K184q.1 p190_0)))))
          obtain ⟨cq215, kq215, q215a, q215b, q215c⟩ := isOf hZ190 e213 c216
          obtain ⟨_, _, ⟨T215, L215, k215, n215⟩, -, X215, ⟨Lc215, hQ215, l215, y215, z215⟩, st215⟩ := X213.virtualBack hx (y := (⟨"com/example/ebbtide/ebbtide/core/Encoder", "toByteArray", "()[B"⟩ : MethodName)) (z := (⟨"com/example/ebbtide/ebbtide/core/Encoder", "toByteArray", "()[B"⟩ : MethodName)) hown190 (mvT hZ190 (hw _ (List.mem_of_getElem? (i := 55) rfl))) (mvT hZ190 (hw _ (List.mem_of_getElem? (i := 56) rfl))) (notFace_of_selects (args := #[]) (mvT hZ190 (hw _ (List.mem_of_getElem? (i := 58) rfl)))) (mvT hZ190 (hw _ (List.mem_of_getElem? (i := 58) rfl))) (mvT hZ190 (hw _ (List.mem_of_getElem? (i := 57) rfl))) (by decide) (backOf (W := 0) (rm8_512_308 l Z a0 hw [] ob131 b_190 k2_190 (((own_cp (((own_hd cd).set 6 (Value.int (((((vv.toInt64) &&& (127 : Int64)) ||| (128 : Int64)).toInt32).toInt8.toInt32))).set 7 (Value.int (((((vv.toInt64).toUInt64 >>> ((7 : Int32) &&& 0x3f).toInt64.toUInt64).toInt64).toInt32).toInt8.toInt32))) 256 ++ List.replicate 256 (Value.int (0 : Int32)))).take (8 : Int32).toNatClampNeg ++ ((List.range (300 : Int32).toNatClampNeg).map fun i => ((((List.replicate 300 (Value.int (0 : Int32))).set 0 (Value.int (p3.toInt8.toInt32))).set 299 (Value.int ((p3 >>> ((8 : Int32) &&& 31)).toInt8.toInt32)))).getD ((0 : Int32).toNatClampNeg + i) (Value.int (0 : Int32))) ++ ((own_cp (((own_hd cd).set 6 (Value.int (((((vv.toInt64) &&& (127 : Int64)) ||| (128 : Int64)).toInt32).toInt8.toInt32))).set 7 (Value.int (((((vv.toInt64).toUInt64 >>> ((7 : Int32) &&& 0x3f).toInt64.toUInt64).toInt64).toInt32).toInt8.toInt32))) 256 ++ List.replicate 256 (Value.int (0 : Int32)))).drop ((8 : Int32).toNatClampNeg + (300 : Int32).toNatClampNeg)) h213 n0 O214 c216 c217 c218 c219) hZ190 (hw _ (List.mem_of_getElem? (i := 59) rfl)) (hw _ (List.mem_of_getElem? (i := 8) rfl)) (by decide) (by decide)) q215a q215c (g := (mkF m 416 #[sI p1, sI p2, sI p3, sI p4, sI sel, sR aK, sI cd, sI vv, sI (1 : Int32), sR ob122, sR ob131, sR b_137, sR b_194, sI (2 : Int32), .val (Value.int (((vv &&& (127 : Int32)) ||| (128 : Int32)).toInt8.toInt32)), .val (Value.int (((vv.toUInt32 >>> ((7 : Int32) &&& 31).toUInt32).toInt32).toInt8.toInt32)), sI (0 : Int32), sI (308 : Int32), sI (8 : Int32)] [(Value.ref ob131)])) rfl (by rw [hml]; rfl) (Steps.refl _) (argsL := []) (rest := []) (lenOf own_pd9 rfl) rfl (by show 2 * 0 + _ ≤ _; exact Nat.le_of_eq rfl) (hb hby at_416) (fun _ _ => ⟨rfl, e213, (by decide : 10 + 1 ≤ _), (by decide : 1492 + 308 ≤ _)⟩)
          dsimp only [Pt.U, Pt.locs, Pt.cells, Pt.slots] at X215 l215 y215 z215 st215 hQ215
          subst l215 y215 z215
          refine own_Go.by (fun tq kq => st215.trans kq) ?_
          obtain ⟨b_215, k2_215, rfl, N215q, K215q, p215_0, p215_1⟩ := hQ215
          have N215 := Fr.app N213 N215q
          have O220 := O214.keep K215q all0
          have K220 := K214.trans K215q all0
          have hk_220 := Nat.le_trans hk_214 K215q.1
          have g221 : n0 ≤ b_215 := Nat.le_trans (own_old_le O214) p215_0
          have z221 : h0.size ≤ b_215 := Nat.le_trans K214.1 p215_0
          refine own_Go.by (fun tq kq => XS.astore X215.here hx rfl (hb hby at_419) rfl rfl (l' := #[sI p1, sI p2, sI p3, sI p4, sI sel, sR aK, sI cd, sI vv, sI (1 : Int32), sR ob122, sR ob131, sR b_137, sR b_194, sI (2 : Int32), .val (Value.int (((vv &&& (127 : Int32)) ||| (128 : Int32)).toInt8.toInt32)), .val (Value.int (((vv.toUInt32 >>> ((7 : Int32) &&& 31).toUInt32).toInt32).toInt8.toInt32)), sI (0 : Int32), sI (308 : Int32), sR b_215]) rfl kq) ?_
          refine own_Go.by (fun tq kq => XS.aload X215.here hx rfl (hb hby at_421) rfl rfl kq) ?_
          show own_Go _ _ _ _ (T215.setTop (mkF m 423 #[sI p1, sI p2, sI p3, sI p4, sI sel, sR aK, sI cd, sI vv, sI (1 : Int32), sR ob122, sR ob131, sR b_137, sR b_194, sI (2 : Int32), .val (Value.int (((vv &&& (127 : Int32)) ||| (128 : Int32)).toInt8.toInt32)), .val (Value.int (((vv.toUInt32 >>> ((7 : Int32) &&& 31).toUInt32).toInt32).toInt8.toInt32)), sI (0 : Int32), sI (308 : Int32), sR b_215] [(Value.ref b_215)]))
          obtain ⟨cl222, Ar222, q222, S222, M222, Hh222, G222⟩ := id p215_1
          refine own_Go.by (fun tq kq => X215.arraylength hx Ar222.1 (State.isArrayOf_alike hZ190.alike Ar222.2.1) (g := (mkF m 423 #[sI p1, sI p2, sI p3, sI p4, sI sel, sR aK, sI cd, sI vv, sI (1 : Int32), sR ob122, sR ob131, sR b_137, sR b_194, sI (2 : Int32), .val (Value.int (((vv &&& (127 : Int32)) ||| (128 : Int32)).toInt8.toInt32)), .val (Value.int (((vv.toUInt32 >>> ((7 : Int32) &&& 31).toUInt32).toInt32).toInt8.toInt32)), sI (0 : Int32), sI (308 : Int32), sR b_215] [(Value.ref b_215)])) rfl rfl (hb hby at_423) _ kq) ?_
          rw [len_of S222 M222]
          refine own_Go.by (fun tq kq => XS.iload X215.here hx rfl (hb hby at_424) rfl kq) ?_
          show own_Go _ _ _ _ (T215.setTop (mkF m 426 #[sI p1, sI p2, sI p3, sI p4, sI sel, sR aK, sI cd, sI vv, sI (1 : Int32), sR ob122, sR ob131, sR b_137, sR b_194, sI (2 : Int32), .val (Value.int (((vv &&& (127 : Int32)) ||| (128 : Int32)).toInt8.toInt32)), .val (Value.int (((vv.toUInt32 >>> ((7 : Int32) &&& 31).toUInt32).toInt32).toInt8.toInt32)), sI (0 : Int32), sI (308 : Int32), sR b_215] [(Value.int (308 : Int32)), (Value.int (308 : Int32))]))
          refine own_Go.by (fun tq kq => XS.icmpNo X215.here hx rfl (hb hby at_426) rfl (teq (by decide : (308 : Int32) = (308 : Int32))).2 kq) ?_
          refine own_Go.by (fun tq kq => XS.aload X215.here hx rfl (hb hby at_429) rfl rfl kq) ?_
          refine own_Go.by (fun tq kq => XS.iload X215.here hx rfl (hb hby at_431) rfl kq) ?_
          show own_Go _ _ _ _ (T215.setTop (mkF m 433 #[sI p1, sI p2, sI p3, sI p4, sI sel, sR aK, sI cd, sI vv, sI (1 : Int32), sR ob122, sR ob131, sR b_137, sR b_194, sI (2 : Int32), .val (Value.int (((vv &&& (127 : Int32)) ||| (128 : Int32)).toInt8.toInt32)), .val (Value.int (((vv.toUInt32 >>> ((7 : Int32) &&& 31).toUInt32).toInt32).toInt8.toInt32)), sI (0 : Int32), sI (308 : Int32), sR b_215] [(Value.int cd), (Value.ref b_215)]))
          obtain ⟨_, _, ⟨T223, L223, k223, n223⟩, -, X223, ⟨Lc223, hQ223, l223, y223, z223⟩, st223⟩ := Jvm.LawKit.callS X215 hx (y := (⟨"com/example/ebbtide/ebbtide/core/EncoderToByteArrayPinLaw", "header", "([BI)Z"⟩ : MethodName)) hown190 (mvT hZ190 (hw _ (List.mem_of_getElem? (i := 72) rfl))) (mvT hZ190 (hw _ (List.mem_of_getElem? (i := 73) rfl))) (mvT hZ190 (hw _ (List.mem_of_getElem? (i := 74) rfl))) (mvT hZ190 (hw _ (List.mem_of_getElem? (i := 75) rfl))) (by decide) (backOf (W := 0) (rm11 l Z a0 hw [] b_215 k2_215 (308 : Int32) (own_cp (((own_cp (((own_hd cd).set 6 (Value.int (((((vv.toInt64) &&& (127 : Int64)) ||| (128 : Int64)).toInt32).toInt8.toInt32))).set 7 (Value.int (((((vv.toInt64).toUInt64 >>> ((7 : Int32) &&& 0x3f).toInt64.toUInt64).toInt64).toInt32).toInt8.toInt32))) 256 ++ List.replicate 256 (Value.int (0 : Int32)))).take (8 : Int32).toNatClampNeg ++ ((List.range (300 : Int32).toNatClampNeg).map fun i => ((((List.replicate 300 (Value.int (0 : Int32))).set 0 (Value.int (p3.toInt8.toInt32))).set 299 (Value.int ((p3 >>> ((8 : Int32) &&& 31)).toInt8.toInt32)))).getD ((0 : Int32).toNatClampNeg + i) (Value.int (0 : Int32))) ++ ((own_cp (((own_hd cd).set 6 (Value.int (((((vv.toInt64) &&& (127 : Int64)) ||| (128 : Int64)).toInt32).toInt8.toInt32))).set 7 (Value.int (((((vv.toInt64).toUInt64 >>> ((7 : Int32) &&& 0x3f).toInt64.toUInt64).toInt64).toInt32).toInt8.toInt32))) 256 ++ List.replicate 256 (Value.int (0 : Int32)))).drop ((8 : Int32).toNatClampNeg + (300 : Int32).toNatClampNeg)) 308) cd T215.heap n0 O220 p215_1 (by decide : ¬ ((308 : Int32) < (6 : Int32))) (by decide : ¬ ((0 : Int32) < (0 : Int32)) ∧ (0 : Int32) < (308 : Int32)) (by decide : ¬ ((1 : Int32) < (0 : Int32)) ∧ (1 : Int32) < (308 : Int32)) (by decide : ¬ ((2 : Int32) < (0 : Int32)) ∧ (2 : Int32) < (308 : Int32)) (by decide : ¬ ((3 : Int32) < (0 : Int32)) ∧ (3 : Int32) < (308 : Int32)) (by decide : ¬ ((4 : Int32) < (0 : Int32)) ∧ (4 : Int32) < (308 : Int32)) (by decide : ¬ ((5 : Int32) < (0 : Int32)) ∧ (5 : Int32) < (308 : Int32)) (rfl : (own_cp (((own_cp (((own_hd cd).set 6 (Value.int (((((vv.toInt64) &&& (127 : Int64)) ||| (128 : Int64)).toInt32).toInt8.toInt32))).set 7 (Value.int (((((vv.toInt64).toUInt64 >>> ((7 : Int32) &&& 0x3f).toInt64.toUInt64).toInt64).toInt32).toInt8.toInt32))) 256 ++ List.replicate 256 (Value.int (0 : Int32)))).take (8 : Int32).toNatClampNeg ++ ((List.range (300 : Int32).toNatClampNeg).map fun i => ((((List.replicate 300 (Value.int (0 : Int32))).set 0 (Value.int (p3.toInt8.toInt32))).set 299 (Value.int ((p3 >>> ((8 : Int32) &&& 31)).toInt8.toInt32)))).getD ((0 : Int32).toNatClampNeg + i) (Value.int (0 : Int32))) ++ ((own_cp (((own_hd cd).set 6 (Value.int (((((vv.toInt64) &&& (127 : Int64)) ||| (128 : Int64)).toInt32).toInt8.toInt32))).set 7 (Value.int (((((vv.toInt64).toUInt64 >>> ((7 : Int32) &&& 0x3f).toInt64.toUInt64).toInt64).toInt32).toInt8.toInt32))) 256 ++ List.replicate 256 (Value.int (0 : Int32)))).drop ((8 : Int32).toNatClampNeg + (300 : Int32).toNatClampNeg)) 308).getD (0 : Int32).toNatClampNeg (Value.int (0 : Int32)) = (Value.int (69 : Int32))) (rfl : (own_cp (((own_cp (((own_hd cd).set 6 (Value.int (((((vv.toInt64) &&& (127 : Int64)) ||| (128 : Int64)).toInt32).toInt8.toInt32))).set 7 (Value.int (((((vv.toInt64).toUInt64 >>> ((7 : Int32) &&& 0x3f).toInt64.toUInt64).toInt64).toInt32).toInt8.toInt32))) 256 ++ List.replicate 256 (Value.int (0 : Int32)))).take (8 : Int32).toNatClampNeg ++ ((List.range (300 : Int32).toNatClampNeg).map fun i => ((((List.replicate 300 (Value.int (0 : Int32))).set 0 (Value.int (p3.toInt8.toInt32))).set 299 (Value.int ((p3 >>> ((8 : Int32) &&& 31)).toInt8.toInt32)))).getD ((0 : Int32).toNatClampNeg + i) (Value.int (0 : Int32))) ++ ((own_cp (((own_hd cd).set 6 (Value.int (((((vv.toInt64) &&& (127 : Int64)) ||| (128 : Int64)).toInt32).toInt8.toInt32))).set 7 (Value.int (((((vv.toInt64).toUInt64 >>> ((7 : Int32) &&& 0x3f).toInt64.toUInt64).toInt64).toInt32).toInt8.toInt32))) 256 ++ List.replicate 256 (Value.int (0 : Int32)))).drop ((8 : Int32).toNatClampNeg + (300 : Int32).toNatClampNeg)) 308).getD (1 : Int32).toNatClampNeg (Value.int (0 : Int32)) = (Value.int (66 : Int32))) (rfl : (own_cp (((own_cp (((own_hd cd).set 6 (Value.int (((((vv.toInt64) &&& (127 : Int64)) ||| (128 : Int64)).toInt32).toInt8.toInt32))).set 7 (Value.int (((((vv.toInt64).toUInt64 >>> ((7 : Int32) &&& 0x3f).toInt64.toUInt64).toInt64).toInt32).toInt8.toInt32))) 256 ++ List.replicate 256 (Value.int (0 : Int32)))).take (8 : Int32).toNatClampNeg ++ ((List.range (300 : Int32).toNatClampNeg).map fun i => ((((List.replicate 300 (Value.int (0 : Int32))).set 0 (Value.int (p3.toInt8.toInt32))).set 299 (Value.int ((p3 >>> ((8 : Int32) &&& 31)).toInt8.toInt32)))).getD ((0 : Int32).toNatClampNeg + i) (Value.int (0 : Int32))) ++ ((own_cp (((own_hd cd).set 6 (Value.int (((((vv.toInt64) &&& (127 : Int64)) ||| (128 : Int64)).toInt32).toInt8.toInt32))).set 7 (Value.int (((((vv.toInt64).toUInt64 >>> ((7 : Int32) &&& 0x3f).toInt64.toUInt64).toInt64).toInt32).toInt8.toInt32))) 256 ++ List.replicate 256 (Value.int (0 : Int32)))).drop ((8 : Int32).toNatClampNeg + (300 : Int32).toNatClampNeg)) 308).getD (2 : Int32).toNatClampNeg (Value.int (0 : Int32)) = (Value.int (66 : Int32))) (rfl : (own_cp (((own_cp (((own_hd cd).set 6 (Value.int (((((vv.toInt64) &&& (127 : Int64)) ||| (128 : Int64)).toInt32).toInt8.toInt32))).set 7 (Value.int (((((vv.toInt64).toUInt64 >>> ((7 : Int32) &&& 0x3f).toInt64.toUInt64).toInt64).toInt32).toInt8.toInt32))) 256 ++ List.replicate 256 (Value.int (0 : Int32)))).take (8 : Int32).toNatClampNeg ++ ((List.range (300 : Int32).toNatClampNeg).map fun i => ((((List.replicate 300 (Value.int (0 : Int32))).set 0 (Value.int (p3.toInt8.toInt32))).set 299 (Value.int ((p3 >>> ((8 : Int32) &&& 31)).toInt8.toInt32)))).getD ((0 : Int32).toNatClampNeg + i) (Value.int (0 : Int32))) ++ ((own_cp (((own_hd cd).set 6 (Value.int (((((vv.toInt64) &&& (127 : Int64)) ||| (128 : Int64)).toInt32).toInt8.toInt32))).set 7 (Value.int (((((vv.toInt64).toUInt64 >>> ((7 : Int32) &&& 0x3f).toInt64.toUInt64).toInt64).toInt32).toInt8.toInt32))) 256 ++ List.replicate 256 (Value.int (0 : Int32)))).drop ((8 : Int32).toNatClampNeg + (300 : Int32).toNatClampNeg)) 308).getD (3 : Int32).toNatClampNeg (Value.int (0 : Int32)) = (Value.int (84 : Int32))) (rfl : (own_cp (((own_cp (((own_hd cd).set 6 (Value.int (((((vv.toInt64) &&& (127 : Int64)) ||| (128 : Int64)).toInt32).toInt8.toInt32))).set 7 (Value.int (((((vv.toInt64).toUInt64 >>> ((7 : Int32) &&& 0x3f).toInt64.toUInt64).toInt64).toInt32).toInt8.toInt32))) 256 ++ List.replicate 256 (Value.int (0 : Int32)))).take (8 : Int32).toNatClampNeg ++ ((List.range (300 : Int32).toNatClampNeg).map fun i => ((((List.replicate 300 (Value.int (0 : Int32))).set 0 (Value.int (p3.toInt8.toInt32))).set 299 (Value.int ((p3 >>> ((8 : Int32) &&& 31)).toInt8.toInt32)))).getD ((0 : Int32).toNatClampNeg + i) (Value.int (0 : Int32))) ++ ((own_cp (((own_hd cd).set 6 (Value.int (((((vv.toInt64) &&& (127 : Int64)) ||| (128 : Int64)).toInt32).toInt8.toInt32))).set 7 (Value.int (((((vv.toInt64).toUInt64 >>> ((7 : Int32) &&& 0x3f).toInt64.toUInt64).toInt64).toInt32).toInt8.toInt32))) 256 ++ List.replicate 256 (Value.int (0 : Int32)))).drop ((8 : Int32).toNatClampNeg + (300 : Int32).toNatClampNeg)) 308).getD (4 : Int32).toNatClampNeg (Value.int (0 : Int32)) = (Value.int (3 : Int32))) (rfl : (own_cp (((own_cp (((own_hd cd).set 6 (Value.int (((((vv.toInt64) &&& (127 : Int64)) ||| (128 : Int64)).toInt32).toInt8.toInt32))).set 7 (Value.int (((((vv.toInt64).toUInt64 >>> ((7 : Int32) &&& 0x3f).toInt64.toUInt64).toInt64).toInt32).toInt8.toInt32))) 256 ++ List.replicate 256 (Value.int (0 : Int32)))).take (8 : Int32).toNatClampNeg ++ ((List.range (300 : Int32).toNatClampNeg).map fun i => ((((List.replicate 300 (Value.int (0 : Int32))).set 0 (Value.int (p3.toInt8.toInt32))).set 299 (Value.int ((p3 >>> ((8 : Int32) &&& 31)).toInt8.toInt32)))).getD ((0 : Int32).toNatClampNeg + i) (Value.int (0 : Int32))) ++ ((own_cp (((own_hd cd).set 6 (Value.int (((((vv.toInt64) &&& (127 : Int64)) ||| (128 : Int64)).toInt32).toInt8.toInt32))).set 7 (Value.int (((((vv.toInt64).toUInt64 >>> ((7 : Int32) &&& 0x3f).toInt64.toUInt64).toInt64).toInt32).toInt8.toInt32))) 256 ++ List.replicate 256 (Value.int (0 : Int32)))).drop ((8 : Int32).toNatClampNeg + (300 : Int32).toNatClampNeg)) 308).getD (5 : Int32).toNatClampNeg (Value.int (0 : Int32)) = (Value.int cd))) hZ190 (hw _ (List.mem_of_getElem? (i := 75) rfl)) (hw _ (List.mem_of_getElem? (i := 74) rfl)) (by decide) (by decide)) (g := (mkF m 433 #[sI p1, sI p2, sI p3, sI p4, sI sel, sR aK, sI cd, sI vv, sI (1 : Int32), sR ob122, sR ob131, sR b_137, sR b_194, sI (2 : Int32), .val (Value.int (((vv &&& (127 : Int32)) ||| (128 : Int32)).toInt8.toInt32)), .val (Value.int (((vv.toUInt32 >>> ((7 : Int32) &&& 31).toUInt32).toInt32).toInt8.toInt32)), sI (0 : Int32), sI (308 : Int32), sR b_215] [(Value.int cd), (Value.ref b_215)])) rfl (by rw [hml]; rfl) (argsL := [(Value.ref b_215), (Value.int cd)]) (rest := []) (lenOf own_pd10 rfl) rfl (by show 2 * 0 + _ ≤ _; exact Nat.le_of_eq rfl) (hb hby at_433) (fun _ _ => ⟨rfl, rfl, (by decide : 11 + 0 ≤ _), (by decide : 1800 + 0 ≤ _)⟩)
          dsimp only [Pt.U, Pt.locs, Pt.cells, Pt.slots] at X223 l223 y223 z223 st223 hQ223
          subst l223 y223 z223
          refine own_Go.by st223 ?_
          obtain ⟨rfl, N223q, e223⟩ := hQ223
          have N223 := Fr.app N215 N223q
          show own_Go _ _ _ _ (T223.setTop (mkF m 436 #[sI p1, sI p2, sI p3, sI p4, sI sel, sR aK, sI cd, sI vv, sI (1 : Int32), sR ob122, sR ob131, sR b_137, sR b_194, sI (2 : Int32), .val (Value.int (((vv &&& (127 : Int32)) ||| (128 : Int32)).toInt8.toInt32)), .val (Value.int (((vv.toUInt32 >>> ((7 : Int32) &&& 31).toUInt32).toInt32).toInt8.toInt32)), sI (0 : Int32), sI (308 : Int32), sR b_215] [(Value.int (1 : Int32))]))
          refine own_Go.by (fun tq kq => XS.ifNo X223.here hx rfl (hb hby at_436) rfl ((if0 _ _).trans (feq (by decide : ¬ ((1 : Int32) = (0 : Int32)))).1) kq) ?_
          refine own_Go.by (fun tq kq => XS.aload X223.here hx rfl (hb hby at_439) rfl rfl kq) ?_
          refine own_Go.by (fun tq kq => XS.bipush X223.here hx rfl (hb hby at_441) kq) ?_
          show own_Go _ _ _ _ (T223.setTop (mkF m 443 #[sI p1, sI p2, sI p3, sI p4, sI sel, sR aK, sI cd, sI vv, sI (1 : Int32), sR ob122, sR ob131, sR b_137, sR b_194, sI (2 : Int32), .val (Value.int (((vv &&& (127 : Int32)) ||| (128 : Int32)).toInt8.toInt32)), .val (Value.int (((vv.toUInt32 >>> ((7 : Int32) &&& 31).toUInt32).toInt32).toInt8.toInt32)), sI (0 : Int32), sI (308 : Int32), sR b_215] [(Value.int (6 : Int32)), (Value.ref b_215)]))
          obtain ⟨cl224, Ar224, q224, S224, M224, Hh224, G224⟩ := id p215_1
          refine own_Go.by (fun tq kq => X223.baloadBytes hx (j := (6 : Int32)) (v := (Value.int (((((vv.toInt64) &&& (127 : Int64)) ||| (128 : Int64)).toInt32).toInt8.toInt32))) (by rw [e223]; exact Ar224.1) (State.isArrayOf_alike hZ190.alike Ar224.2.1) Ar224.2.2 (inb_of S224 (by decide : ¬ ((6 : Int32) < (0 : Int32)) ∧ (6 : Int32) < (308 : Int32))) (Has.at Hh224 (inb_of S224 (by decide : ¬ ((6 : Int32) < (0 : Int32)) ∧ (6 : Int32) < (308 : Int32))) rfl) (g := (mkF m 443 #[sI p1, sI p2, sI p3, sI p4, sI sel, sR aK, sI cd, sI vv, sI (1 : Int32), sR ob122, sR ob131, sR b_137, sR b_194, sI (2 : Int32), .val (Value.int (((vv &&& (127 : Int32)) ||| (128 : Int32)).toInt8.toInt32)), .val (Value.int (((vv.toUInt32 >>> ((7 : Int32) &&& 31).toUInt32).toInt32).toInt8.toInt32)), sI (0 : Int32), sI (308 : Int32), sR b_215] [(Value.int (6 : Int32)), (Value.ref b_215)])) rfl rfl (hb hby at_443) _ kq) ?_
          refine own_Go.by (fun tq kq => XS.iload X223.here hx rfl (hb hby at_444) rfl kq) ?_
          show own_Go _ _ _ _ (T223.setTop (mkF m 446 #[sI p1, sI p2, sI p3, sI p4, sI sel, sR aK, sI cd, sI vv, sI (1 : Int32), sR ob122, sR ob131, sR b_137, sR b_194, sI (2 : Int32), .val (Value.int (((vv &&& (127 : Int32)) ||| (128 : Int32)).toInt8.toInt32)), .val (Value.int (((vv.toUInt32 >>> ((7 : Int32) &&& 31).toUInt32).toInt32).toInt8.toInt32)), sI (0 : Int32), sI (308 : Int32), sR b_215] [(Value.int (((vv &&& (127 : Int32)) ||| (128 : Int32)).toInt8.toInt32)), (Value.int (((((vv.toInt64) &&& (127 : Int64)) ||| (128 : Int64)).toInt32).toInt8.toInt32))]))
          refine own_Go.by (fun tq kq => XS.icmpNo X223.here hx rfl (hb hby at_446) rfl (teq (own_lo (own_e64 vv) : (((((vv.toInt64) &&& (127 : Int64)) ||| (128 : Int64)).toInt32).toInt8.toInt32) = (((vv &&& (127 : Int32)) ||| (128 : Int32)).toInt8.toInt32))).2 kq) ?_
          refine own_Go.by (fun tq kq => XS.aload X223.here hx rfl (hb hby at_449) rfl rfl kq) ?_
          show own_Go _ _ _ _ (T223.setTop (mkF m 451 #[sI p1, sI p2, sI p3, sI p4, sI sel, sR aK, sI cd, sI vv, sI (1 : Int32), sR ob122, sR ob131, sR b_137, sR b_194, sI (2 : Int32), .val (Value.int (((vv &&& (127 : Int32)) ||| (128 : Int32)).toInt8.toInt32)), .val (Value.int (((vv.toUInt32 >>> ((7 : Int32) &&& 31).toUInt32).toInt32).toInt8.toInt32)), sI (0 : Int32), sI (308 : Int32), sR b_215] [(Value.ref b_137)]))
          have c225 := (V213.keep K215q nin0)
          obtain ⟨cl226, Ar226, q226, S226, M226, Hh226, G226⟩ := id c225
          refine own_Go.by (fun tq kq => X223.arraylength hx (by rw [e223]; exact Ar226.1) (State.isArrayOf_alike hZ190.alike Ar226.2.1) (g := (mkF m 451 #[sI p1, sI p2, sI p3, sI p4, sI sel, sR aK, sI cd, sI vv, sI (1 : Int32), sR ob122, sR ob131, sR b_137, sR b_194, sI (2 : Int32), .val (Value.int (((vv &&& (127 : Int32)) ||| (128 : Int32)).toInt8.toInt32)), .val (Value.int (((vv.toUInt32 >>> ((7 : Int32) &&& 31).toUInt32).toInt32).toInt8.toInt32)), sI (0 : Int32), sI (308 : Int32), sR b_215] [(Value.ref b_137)])) rfl rfl (hb hby at_451) _ kq) ?_
          rw [len_of S226 M226]
          refine own_Go.by (fun tq kq => XS.bipush X223.here hx rfl (hb hby at_452) kq) ?_
          show own_Go _ _ _ _ (T223.setTop (mkF m 454 #[sI p1, sI p2, sI p3, sI p4, sI sel, sR aK, sI cd, sI vv, sI (1 : Int32), sR ob122, sR ob131, sR b_137, sR b_194, sI (2 : Int32), .val (Value.int (((vv &&& (127 : Int32)) ||| (128 : Int32)).toInt8.toInt32)), .val (Value.int (((vv.toUInt32 >>> ((7 : Int32) &&& 31).toUInt32).toInt32).toInt8.toInt32)), sI (0 : Int32), sI (308 : Int32), sR b_215] [(Value.int (6 : Int32)), (Value.int (6 : Int32))]))
          refine own_Go.by (fun tq kq => XS.icmpNo X223.here hx rfl (hb hby at_454) rfl (teq (by decide : (6 : Int32) = (6 : Int32))).2 kq) ?_
          refine own_Go.by (fun tq kq => XS.iconst X223.here hx rfl (hb hby at_457) kq) ?_
          refine own_Go.by (fun tq kq => XS.goto X223.here hx rfl (pc0 := 458) (pc' := 462) rfl (hb hby at_458) (by decide) (by decide) kq) ?_
          show own_Go _ _ _ _ (T223.setTop (mkF m 462 #[sI p1, sI p2, sI p3, sI p4, sI sel, sR aK, sI cd, sI vv, sI (1 : Int32), sR ob122, sR ob131, sR b_137, sR b_194, sI (2 : Int32), .val (Value.int (((vv &&& (127 : Int32)) ||| (128 : Int32)).toInt8.toInt32)), .val (Value.int (((vv.toUInt32 >>> ((7 : Int32) &&& 31).toUInt32).toInt32).toInt8.toInt32)), sI (0 : Int32), sI (308 : Int32), sR b_215] [(Value.int (1 : Int32))]))
          obtain ⟨fs, hr, hrun, hended, hRE⟩ := Stand.leaveW (s := s) (vm₁ := T190.vm) X223 hS190 (by rw [e223]; exact hk_220) (v := some (Value.int (nar .boolean (1 : Int32)))) (fun h => by rw [Bd.returns] at h; cases h)
          refine own_Go.fin (retN X223 hx (t := .boolean) Bd.returns (by simp) (hb hby at_462) hr) ⟨hrun, hended, _, _, rfl, ?_, own_rew hRE (by decide) (by decide)⟩
          show Q0 Z p1 p2 p3 p4 aW aD aF aM kM h0 n0 _ T223.heap _
          rw [e223]
          exact ⟨rfl, N223, K220⟩
        ·
          have hs2' := hs2
          rw [Int32.lt_iff_toInt_lt] at hs2'
          refine own_Go.by (fun tq kq => XS.aload X141.here hx rfl (hb hby at_130) rfl rfl kq) ?_
          refine own_Go.by (fun tq kq => XS.iload X141.here hx rfl (hb hby at_132) rfl kq) ?_
          refine own_Go.by (fun tq kq => XS.i2l X141.here hx rfl (hb hby at_134) rfl kq) ?_
          show own_Go _ _ _ _ (T141.setTop (mkF m 135 #[sI p1, sI p2, sI p3, sI p4, sI sel, sR aK, sI cd, sI vv, sI (1 : Int32), sR ob122, sR ob131, sR b_137, .unset, .unset, .unset, .unset, .unset, .unset, .unset] [(Value.long (vv.toInt64)), (Value.ref ob131)]))
          have c228 := (p134_1.keep K137q)
          have c229 := (p134_2.keep K137q nin0)
          have c230 := (p134_3.keep K137q nin0)
          have c231 := (p134_4.keep K137q nin0)
          obtain ⟨cq227, kq227, q227a, q227b, q227c⟩ := isOf hZ134 e141 c228
          obtain ⟨_, _, ⟨T227, L227, k227, n227⟩, -, X227, ⟨Lc227, hQ227, l227, y227, z227⟩, st227⟩ := X141.virtualBack hx (y := (⟨"com/example/ebbtide/ebbtide/core/Encoder", "unsigned", "(J)V"⟩ : MethodName)) (z := (⟨"com/example/ebbtide/ebbtide/core/Encoder", "unsigned", "(J)V"⟩ : MethodName)) hown134 (mvT hZ134 (hw _ (List.mem_of_getElem? (i := 76) rfl))) (mvT hZ134 (hw _ (List.mem_of_getElem? (i := 43) rfl))) (notFace_of_selects (args := #[]) (mvT hZ134 (hw _ (List.mem_of_getElem? (i := 45) rfl)))) (mvT hZ134 (hw _ (List.mem_of_getElem? (i := 45) rfl))) (mvT hZ134 (hw _ (List.mem_of_getElem? (i := 44) rfl))) (by decide) (backOf (W := 0) (rm6_3 l Z a0 hw [] ob131 b_134 k2_134 (own_hd cd) (vv.toInt64) T137.heap n0 O138 c228 c229 c230 c231 g133 g136 (Nat.ne_of_lt (Nat.lt_of_lt_of_le A131.lt p134_0)) (rfl : (own_hd cd).length = 256) (mt (own_m128 (by omega)).mp (by omega) : ¬ (((vv.toInt64) &&& (-128 : Int64)) = (0 : Int64))) (mt (own_m128 (by omega)).mp (by omega) : ¬ (((((vv.toInt64).toUInt64 >>> ((7 : Int32) &&& 0x3f).toInt64.toUInt64).toInt64) &&& (-128 : Int64)) = (0 : Int64))) ((own_m128 (by have := own_sh7 (x := (((vv.toInt64).toUInt64 >>> ((7 : Int32) &&& 0x3f).toInt64.toUInt64).toInt64)) (by omega); omega)).mpr (by have := own_sh7 (x := (((vv.toInt64).toUInt64 >>> ((7 : Int32) &&& 0x3f).toInt64.toUInt64).toInt64)) (by omega); omega) : ((((((vv.toInt64).toUInt64 >>> ((7 : Int32) &&& 0x3f).toInt64.toUInt64).toInt64).toUInt64 >>> ((7 : Int32) &&& 0x3f).toInt64.toUInt64).toInt64) &&& (-128 : Int64)) = (0 : Int64))) hZ134 (hw _ (List.mem_of_getElem? (i := 46) rfl)) (hw _ (List.mem_of_getElem? (i := 8) rfl)) (by decide) (by decide)) q227a q227c (g := (mkF m 135 #[sI p1, sI p2, sI p3, sI p4, sI sel, sR aK, sI cd, sI vv, sI (1 : Int32), sR ob122, sR ob131, sR b_137, .unset, .unset, .unset, .unset, .unset, .unset, .unset] [(Value.long (vv.toInt64)), (Value.ref ob131)])) rfl (by rw [hml]; rfl) (Steps.refl _) (argsL := [(Value.long (vv.toInt64))]) (rest := []) (lenOf own_pd5 rfl) rfl (by show 2 * 0 + _ ≤ _; exact Nat.le_of_eq rfl) (hb hby at_135) (fun _ _ => ⟨rfl, e141, (by decide : 6 + 0 ≤ _), (by decide : 616 + 0 ≤ _)⟩)
          dsimp only [Pt.U, Pt.locs, Pt.cells, Pt.slots] at X227 l227 y227 z227 st227 hQ227
          subst l227 y227 z227
          refine own_Go.by (fun tq kq => st227.trans kq) ?_
          obtain ⟨rfl, N227q, K227q, p227_0, p227_1, p227_2, p227_3⟩ := hQ227
          have N227 := Fr.app N141 N227q
          have O232 := O138.keep K227q (allS g133 (allS g136 all0))
          have K232 := K138.trans K227q (allS (Or.inr z133) (allS (Or.inr z136) all0))
          have hk_232 := Nat.le_trans hk_138 K227q.1
          refine own_Go.by (fun tq kq => XS.iload X227.here hx rfl (hb hby at_138) rfl kq) ?_
          show own_Go _ _ _ _ (T227.setTop (mkF m 140 #[sI p1, sI p2, sI p3, sI p4, sI sel, sR aK, sI cd, sI vv, sI (1 : Int32), sR ob122, sR ob131, sR b_137, .unset, .unset, .unset, .unset, .unset, .unset, .unset] [(Value.int (1 : Int32))]))
          refine own_Go.by (fun tq kq => XS.ifNo X227.here hx rfl (hb hby at_140) rfl ((if0 _ _).trans (feq (by decide : ¬ ((1 : Int32) = (0 : Int32)))).1) kq) ?_
          refine own_Go.by (fun tq kq => XS.aload X227.here hx rfl (hb hby at_143) rfl rfl kq) ?_
          refine own_Go.by (fun tq kq => XS.aload X227.here hx rfl (hb hby at_145) rfl rfl kq) ?_
          show own_Go _ _ _ _ (T227.setTop (mkF m 147 #[sI p1, sI p2, sI p3, sI p4, sI sel, sR aK, sI cd, sI vv, sI (1 : Int32), sR ob122, sR ob131, sR b_137, .unset, .unset, .unset, .unset, .unset, .unset, .unset] [(Value.ref ob122), (Value.ref ob131)]))
          have c234 := ((((V129.ext E131).keep K134q (ninS (Nat.ne_of_lt (Nat.lt_of_lt_of_le A122.lt (Nat.le_trans (Keep.of_wr W126).1 (Nat.le_trans (Keep.of_wr W129).1 (Nat.le_of_eq y131.symm))))) nin0)).keep K137q nin0).keep K227q (ninS (Nat.ne_of_lt (Nat.lt_of_lt_of_le A122.lt (Nat.le_trans (Keep.of_wr W126).1 (Nat.le_trans (Keep.of_wr W129).1 (Nat.le_of_eq y131.symm))))) (ninS (Nat.ne_of_lt (Nat.lt_of_lt_of_le A122.lt (Nat.le_trans (Keep.of_wr W126).1 (Nat.le_trans (Keep.of_wr W129).1 (Nat.le_trans E131.1 p134_0))))) nin0)))
          obtain ⟨cq233, kq233, q233a, q233b, q233c⟩ := isOf hZ134 rfl p227_0
          obtain ⟨_, _, ⟨T233, L233, k233, n233⟩, -, X233, hs233, hg233, ⟨Lc233, hQ233, l233, y233, z233⟩, st233⟩ := X227.virtualBackS hx (y := (⟨"com/example/ebbtide/ebbtide/core/Encoder", "bytes", "([B)V"⟩ : MethodName)) (z := (⟨"com/example/ebbtide/ebbtide/core/Encoder", "bytes", "([B)V"⟩ : MethodName)) hown134 (mvT hZ134 (hw _ (List.mem_of_getElem? (i := 77) rfl))) (mvT hZ134 (hw _ (List.mem_of_getElem? (i := 78) rfl))) (notFace_of_selects (args := #[]) (mvT hZ134 (hw _ (List.mem_of_getElem? (i := 80) rfl)))) (mvT hZ134 (hw _ (List.mem_of_getElem? (i := 80) rfl))) (mvT hZ134 (hw _ (List.mem_of_getElem? (i := 79) rfl))) (by decide) (backOfS (W := 0) (rm12_9 l Z a0 hw [] ob131 b_134 k2_134 ((((own_hd cd).set 6 (Value.int (((((vv.toInt64) &&& (127 : Int64)) ||| (128 : Int64)).toInt32).toInt8.toInt32))).set 7 (Value.int (((((((vv.toInt64).toUInt64 >>> ((7 : Int32) &&& 0x3f).toInt64.toUInt64).toInt64) &&& (127 : Int64)) ||| (128 : Int64)).toInt32).toInt8.toInt32))).set 8 (Value.int (((((((vv.toInt64).toUInt64 >>> ((7 : Int32) &&& 0x3f).toInt64.toUInt64).toInt64).toUInt64 >>> ((7 : Int32) &&& 0x3f).toInt64.toUInt64).toInt64).toInt32).toInt8.toInt32))) ob122 k122 (((List.replicate 300 (Value.int (0 : Int32))).set 0 (Value.int (p3.toInt8.toInt32))).set 299 (Value.int ((p3 >>> ((8 : Int32) &&& 31)).toInt8.toInt32))) T227.heap n0 O232 p227_0 p227_1 p227_2 p227_3 g133 c234 (Nat.ne_of_lt (Nat.lt_of_lt_of_le A122.lt (Nat.le_trans (Keep.of_wr W126).1 (Nat.le_trans (Keep.of_wr W129).1 (Nat.le_of_eq y131.symm)))))) hZ134 (hw _ (List.mem_of_getElem? (i := 81) rfl)) (hw _ (List.mem_of_getElem? (i := 8) rfl)) (by decide) (by decide)) q233a q233c (g := (mkF m 147 #[sI p1, sI p2, sI p3, sI p4, sI sel, sR aK, sI cd, sI vv, sI (1 : Int32), sR ob122, sR ob131, sR b_137, .unset, .unset, .unset, .unset, .unset, .unset, .unset] [(Value.ref ob122), (Value.ref ob131)])) rfl (by rw [hml]; rfl) (Steps.refl _) (argsL := [(Value.ref ob122)]) (rest := []) (lenOf own_pd11 rfl) rfl (by show 2 * 0 + _ ≤ _; exact Nat.le_of_eq rfl) (hb hby at_147) (fun _ _ => ⟨rfl, rfl, (by decide : 6 + 3 ≤ _), (by decide : 616 + 568 ≤ _)⟩)
          dsimp only [Pt.U, Pt.locs, Pt.cells, Pt.slots] at X233 l233 y233 z233 st233 hQ233 hs233 hg233
          subst l233 y233 z233
          obtain ⟨X233, hS233, hZ233, hown233⟩ := rebS (s := s) (vm0 := T134.vm) hS134 hk_232 X233 hs233 hg233 hZ134 hown134
          refine own_Go.by (fun tq kq => st233.trans kq) ?_
          obtain ⟨b_233, k2_233, rfl, N233q, K233q, p233_0, p233_1, p233_2, p233_3, p233_4⟩ := hQ233
          have N233 := Fr.app N227 N233q
          have O235 := O232.keep K233q (allS g133 all0)
          have K235 := K232.trans K233q (allS (Or.inr z133) all0)
          have g236 : n0 ≤ b_233 := Nat.le_trans (own_old_le O232) p233_0
          have z236 : h0.size ≤ b_233 := Nat.le_trans K232.1 p233_0
          refine own_Go.by (fun tq kq => XS.aload X233.here hx rfl (hb hby at_150) rfl rfl kq) ?_
          show own_Go _ _ _ _ (T233.setTop (mkF m 152 #[sI p1, sI p2, sI p3, sI p4, sI sel, sR aK, sI cd, sI vv, sI (1 : Int32), sR ob122, sR ob131, sR b_137, .unset, .unset, .unset, .unset, .unset, .unset, .unset] [(Value.ref ob131)]))
          obtain ⟨cq237, kq237, q237a, q237b, q237c⟩ := isOf hZ233 rfl p233_1
          obtain ⟨_, _, ⟨T237, L237, k237, n237⟩, -, X237, ⟨Lc237, hQ237, l237, y237, z237⟩, st237⟩ := X233.virtualBack hx (y := (⟨"com/example/ebbtide/ebbtide/core/Encoder", "toByteArray", "()[B"⟩ : MethodName)) (z := (⟨"com/example/ebbtide/ebbtide/core/Encoder", "toByteArray", "()[B"⟩ : MethodName)) hown233 (mvT hZ233 (hw _ (List.mem_of_getElem? (i := 55) rfl))) (mvT hZ233 (hw _ (List.mem_of_getElem? (i := 56) rfl))) (notFace_of_selects (args := #[]) (mvT hZ233 (hw _ (List.mem_of_getElem? (i := 58) rfl)))) (mvT hZ233 (hw _ (List.mem_of_getElem? (i := 58) rfl))) (mvT hZ233 (hw _ (List.mem_of_getElem? (i := 57) rfl))) (by decide) (backOf (W := 0) (rm8_512_309 l Z a0 hw [] ob131 b_233 k2_233 (((own_cp ((((own_hd cd).set 6 (Value.int (((((vv.toInt64) &&& (127 : Int64)) ||| (128 : Int64)).toInt32).toInt8.toInt32))).set 7 (Value.int (((((((vv.toInt64).toUInt64 >>> ((7 : Int32) &&& 0x3f).toInt64.toUInt64).toInt64) &&& (127 : Int64)) ||| (128 : Int64)).toInt32).toInt8.toInt32))).set 8 (Value.int (((((((vv.toInt64).toUInt64 >>> ((7 : Int32) &&& 0x3f).toInt64.toUInt64).toInt64).toUInt64 >>> ((7 : Int32) &&& 0x3f).toInt64.toUInt64).toInt64).toInt32).toInt8.toInt32))) 256 ++ List.replicate 256 (Value.int (0 : Int32)))).take (9 : Int32).toNatClampNeg ++ ((List.range (300 : Int32).toNatClampNeg).map fun i => ((((List.replicate 300 (Value.int (0 : Int32))).set 0 (Value.int (p3.toInt8.toInt32))).set 299 (Value.int ((p3 >>> ((8 : Int32) &&& 31)).toInt8.toInt32)))).getD ((0 : Int32).toNatClampNeg + i) (Value.int (0 : Int32))) ++ ((own_cp ((((own_hd cd).set 6 (Value.int (((((vv.toInt64) &&& (127 : Int64)) ||| (128 : Int64)).toInt32).toInt8.toInt32))).set 7 (Value.int (((((((vv.toInt64).toUInt64 >>> ((7 : Int32) &&& 0x3f).toInt64.toUInt64).toInt64) &&& (127 : Int64)) ||| (128 : Int64)).toInt32).toInt8.toInt32))).set 8 (Value.int (((((((vv.toInt64).toUInt64 >>> ((7 : Int32) &&& 0x3f).toInt64.toUInt64).toInt64).toUInt64 >>> ((7 : Int32) &&& 0x3f).toInt64.toUInt64).toInt64).toInt32).toInt8.toInt32))) 256 ++ List.replicate 256 (Value.int (0 : Int32)))).drop ((9 : Int32).toNatClampNeg + (300 : Int32).toNatClampNeg)) T233.heap n0 O235 p233_1 p233_2 p233_3 p233_4) hZ233 (hw _ (List.mem_of_getElem? (i := 59) rfl)) (hw _ (List.mem_of_getElem? (i := 8) rfl)) (by decide) (by decide)) q237a q237c (g := (mkF m 152 #[sI p1, sI p2, sI p3, sI p4, sI sel, sR aK, sI cd, sI vv, sI (1 : Int32), sR ob122, sR ob131, sR b_137, .unset, .unset, .unset, .unset, .unset, .unset, .unset] [(Value.ref ob131)])) rfl (by rw [hml]; rfl) (Steps.refl _) (argsL := []) (rest := []) (lenOf own_pd9 rfl) rfl (by show 2 * 0 + _ ≤ _; exact Nat.le_of_eq rfl) (hb hby at_152) (fun _ _ => ⟨rfl, rfl, (by decide : 9 + 1 ≤ _), (by decide : 1184 + 309 ≤ _)⟩)
          dsimp only [Pt.U, Pt.locs, Pt.cells, Pt.slots] at X237 l237 y237 z237 st237 hQ237
          subst l237 y237 z237
          refine own_Go.by (fun tq kq => st237.trans kq) ?_
          obtain ⟨b_237, k2_237, rfl, N237q, K237q, p237_0, p237_1⟩ := hQ237
          have N237 := Fr.app N233 N237q
          have O238 := O235.keep K237q all0
          have K238 := K235.trans K237q all0
          have hk_238 := K237q.1
          have g239 : n0 ≤ b_237 := Nat.le_trans (own_old_le O235) p237_0
          have z239 : h0.size ≤ b_237 := Nat.le_trans K235.1 p237_0
          refine own_Go.by (fun tq kq => XS.astore X237.here hx rfl (hb hby at_155) rfl rfl (l' := #[sI p1, sI p2, sI p3, sI p4, sI sel, sR aK, sI cd, sI vv, sI (1 : Int32), sR ob122, sR ob131, sR b_137, sR b_237, .unset, .unset, .unset, .unset, .unset, .unset]) rfl kq) ?_
          refine own_Go.by (fun tq kq => XS.iconst X237.here hx rfl (hb hby at_157) kq) ?_
          refine own_Go.by (fun tq kq => XS.istore X237.here hx rfl (hb hby at_158) rfl (l' := #[sI p1, sI p2, sI p3, sI p4, sI sel, sR aK, sI cd, sI vv, sI (1 : Int32), sR ob122, sR ob131, sR b_137, sR b_237, .unset, .unset, sI (0 : Int32), .unset, .unset, .unset]) rfl kq) ?_
          show own_Go _ _ _ _ (T237.setTop (mkF m 160 #[sI p1, sI p2, sI p3, sI p4, sI sel, sR aK, sI cd, sI vv, sI (1 : Int32), sR ob122, sR ob131, sR b_137, sR b_237, .unset, .unset, sI (0 : Int32), .unset, .unset, .unset] []))
          refine own_Go.by (fun tq kq => XS.iconst X237.here hx rfl (hb hby at_160) kq) ?_
          refine own_Go.by (fun tq kq => XS.istore X237.here hx rfl (hb hby at_161) rfl (l' := #[sI p1, sI p2, sI p3, sI p4, sI sel, sR aK, sI cd, sI vv, sI (1 : Int32), sR ob122, sR ob131, sR b_137, sR b_237, .unset, .unset, sI (0 : Int32), sI (0 : Int32), .unset, .unset]) rfl kq) ?_
          refine own_Go.by (fun tq kq => XS.iload X237.here hx rfl (hb hby at_163) rfl kq) ?_
          refine own_Go.by (fun tq kq => XS.sipush X237.here hx rfl (hb hby at_165) kq) ?_
          show own_Go _ _ _ _ (T237.setTop (mkF m 168 #[sI p1, sI p2, sI p3, sI p4, sI sel, sR aK, sI cd, sI vv, sI (1 : Int32), sR ob122, sR ob131, sR b_137, sR b_237, .unset, .unset, sI (0 : Int32), sI (0 : Int32), .unset, .unset] [(Value.int (128 : Int32)), (Value.int vv)]))
          refine own_Go.by (fun tq kq => XS.icmpYes X237.here hx rfl (pc0 := 168) (pc' := 182) rfl (hb hby at_168) rfl (flt hs1).2.1 (by decide) (by decide) kq) ?_
          refine own_Go.by (fun tq kq => XS.iload X237.here hx rfl (hb hby at_182) rfl kq) ?_
          refine own_Go.by (fun tq kq => XS.sipush X237.here hx rfl (hb hby at_184) kq) ?_
          show own_Go _ _ _ _ (T237.setTop (mkF m 187 #[sI p1, sI p2, sI p3, sI p4, sI sel, sR aK, sI cd, sI vv, sI (1 : Int32), sR ob122, sR ob131, sR b_137, sR b_237, .unset, .unset, sI (0 : Int32), sI (0 : Int32), .unset, .unset] [(Value.int (16384 : Int32)), (Value.int vv)]))
          refine own_Go.by (fun tq kq => XS.icmpYes X237.here hx rfl (pc0 := 187) (pc' := 216) rfl (hb hby at_187) rfl (flt hs2).2.1 (by decide) (by decide) kq) ?_
          refine own_Go.by (fun tq kq => XS.iconst X237.here hx rfl (hb hby at_216) kq) ?_
          refine own_Go.by (fun tq kq => XS.istore X237.here hx rfl (hb hby at_217) rfl (l' := #[sI p1, sI p2, sI p3, sI p4, sI sel, sR aK, sI cd, sI vv, sI (1 : Int32), sR ob122, sR ob131, sR b_137, sR b_237, sI (3 : Int32), .unset, sI (0 : Int32), sI (0 : Int32), .unset, .unset]) rfl kq) ?_
          refine own_Go.by (fun tq kq => XS.iload X237.here hx rfl (hb hby at_219) rfl kq) ?_
          show own_Go _ _ _ _ (T237.setTop (mkF m 221 #[sI p1, sI p2, sI p3, sI p4, sI sel, sR aK, sI cd, sI vv, sI (1 : Int32), sR ob122, sR ob131, sR b_137, sR b_237, sI (3 : Int32), .unset, sI (0 : Int32), sI (0 : Int32), .unset, .unset] [(Value.int vv)]))
          refine own_Go.by (fun tq kq => XS.bipush X237.here hx rfl (hb hby at_221) kq) ?_
          refine own_Go.by (fun tq kq => XS.iand X237.here hx rfl (hb hby at_223) rfl kq) ?_
          refine own_Go.by (fun tq kq => XS.sipush X237.here hx rfl (hb hby at_224) kq) ?_
          refine own_Go.by (fun tq kq => XS.ior X237.here hx rfl (hb hby at_227) rfl kq) ?_
          show own_Go _ _ _ _ (T237.setTop (mkF m 228 #[sI p1, sI p2, sI p3, sI p4, sI sel, sR aK, sI cd, sI vv, sI (1 : Int32), sR ob122, sR ob131, sR b_137, sR b_237, sI (3 : Int32), .unset, sI (0 : Int32), sI (0 : Int32), .unset, .unset] [(Value.int ((vv &&& (127 : Int32)) ||| (128 : Int32)))]))
          refine own_Go.by (fun tq kq => XS.i2b X237.here hx rfl (hb hby at_228) rfl kq) ?_
          refine own_Go.by (fun tq kq => XS.istore X237.here hx rfl (hb hby at_229) rfl (l' := #[sI p1, sI p2, sI p3, sI p4, sI sel, sR aK, sI cd, sI vv, sI (1 : Int32), sR ob122, sR ob131, sR b_137, sR b_237, sI (3 : Int32), .val (Value.int (((vv &&& (127 : Int32)) ||| (128 : Int32)).toInt8.toInt32)), sI (0 : Int32), sI (0 : Int32), .unset, .unset]) rfl kq) ?_
          refine own_Go.by (fun tq kq => XS.iload X237.here hx rfl (hb hby at_231) rfl kq) ?_
          refine own_Go.by (fun tq kq => XS.bipush X237.here hx rfl (hb hby at_233) kq) ?_
          show own_Go _ _ _ _ (T237.setTop (mkF m 235 #[sI p1, sI p2, sI p3, sI p4, sI sel, sR aK, sI cd, sI vv, sI (1 : Int32), sR ob122, sR ob131, sR b_137, sR b_237, sI (3 : Int32), .val (Value.int (((vv &&& (127 : Int32)) ||| (128 : Int32)).toInt8.toInt32)), sI (0 : Int32), sI (0 : Int32), .unset, .unset] [(Value.int (7 : Int32)), (Value.int vv)]))
          refine own_Go.by (fun tq kq => XS.iushr X237.here hx rfl (hb hby at_235) rfl kq) ?_
          refine own_Go.by (fun tq kq => XS.bipush X237.here hx rfl (hb hby at_236) kq) ?_
          refine own_Go.by (fun tq kq => XS.iand X237.here hx rfl (hb hby at_238) rfl kq) ?_
          refine own_Go.by (fun tq kq => XS.sipush X237.here hx rfl (hb hby at_239) kq) ?_
          show own_Go _ _ _ _ (T237.setTop (mkF m 242 #[sI p1, sI p2, sI p3, sI p4, sI sel, sR aK, sI cd, sI vv, sI (1 : Int32), sR ob122, sR ob131, sR b_137, sR b_237, sI (3 : Int32), .val (Value.int (((vv &&& (127 : Int32)) ||| (128 : Int32)).toInt8.toInt32)), sI (0 : Int32), sI (0 : Int32), .unset, .unset] [(Value.int (128 : Int32)), (Value.int (((vv.toUInt32 >>> ((7 : Int32) &&& 31).toUInt32).toInt32) &&& (127 : Int32)))]))
          refine own_Go.by (fun tq kq => XS.ior X237.here hx rfl (hb hby at_242) rfl kq) ?_
          refine own_Go.by (fun tq kq => XS.i2b X237.here hx rfl (hb hby at_243) rfl kq) ?_
          refine own_Go.by (fun tq kq => XS.istore X237.here hx rfl (hb hby at_244) rfl (l' := #[sI p1, sI p2, sI p3, sI p4, sI sel, sR aK, sI cd, sI vv, sI (1 : Int32), sR ob122, sR ob131, sR b_137, sR b_237, sI (3 : Int32), .val (Value.int (((vv &&& (127 : Int32)) ||| (128 : Int32)).toInt8.toInt32)), .val (Value.int (((((vv.toUInt32 >>> ((7 : Int32) &&& 31).toUInt32).toInt32) &&& (127 : Int32)) ||| (128 : Int32)).toInt8.toInt32)), sI (0 : Int32), .unset, .unset]) rfl kq) ?_
          refine own_Go.by (fun tq kq => XS.iload X237.here hx rfl (hb hby at_246) rfl kq) ?_
          show own_Go _ _ _ _ (T237.setTop (mkF m 248 #[sI p1, sI p2, sI p3, sI p4, sI sel, sR aK, sI cd, sI vv, sI (1 : Int32), sR ob122, sR ob131, sR b_137, sR b_237, sI (3 : Int32), .val (Value.int (((vv &&& (127 : Int32)) ||| (128 : Int32)).toInt8.toInt32)), .val (Value.int (((((vv.toUInt32 >>> ((7 : Int32) &&& 31).toUInt32).toInt32) &&& (127 : Int32)) ||| (128 : Int32)).toInt8.toInt32)), sI (0 : Int32), .unset, .unset] [(Value.int vv)]))
          refine own_Go.by (fun tq kq => XS.bipush X237.here hx rfl (hb hby at_248) kq) ?_
          refine own_Go.by (fun tq kq => XS.iushr X237.here hx rfl (hb hby at_250) rfl kq) ?_
          refine own_Go.by (fun tq kq => XS.i2b X237.here hx rfl (hb hby at_251) rfl kq) ?_
          refine own_Go.by (fun tq kq => XS.istore X237.here hx rfl (hb hby at_252) rfl (l' := #[sI p1, sI p2, sI p3, sI p4, sI sel, sR aK, sI cd, sI vv, sI (1 : Int32), sR ob122, sR ob131, sR b_137, sR b_237, sI (3 : Int32), .val (Value.int (((vv &&& (127 : Int32)) ||| (128 : Int32)).toInt8.toInt32)), .val (Value.int (((((vv.toUInt32 >>> ((7 : Int32) &&& 31).toUInt32).toInt32) &&& (127 : Int32)) ||| (128 : Int32)).toInt8.toInt32)), .val (Value.int (((vv.toUInt32 >>> ((14 : Int32) &&& 31).toUInt32).toInt32).toInt8.toInt32)), .unset, .unset]) rfl kq) ?_
          show own_Go _ _ _ _ (T237.setTop (mkF m 254 #[sI p1, sI p2, sI p3, sI p4, sI sel, sR aK, sI cd, sI vv, sI (1 : Int32), sR ob122, sR ob131, sR b_137, sR b_237, sI (3 : Int32), .val (Value.int (((vv &&& (127 : Int32)) ||| (128 : Int32)).toInt8.toInt32)), .val (Value.int (((((vv.toUInt32 >>> ((7 : Int32) &&& 31).toUInt32).toInt32) &&& (127 : Int32)) ||| (128 : Int32)).toInt8.toInt32)), .val (Value.int (((vv.toUInt32 >>> ((14 : Int32) &&& 31).toUInt32).toInt32).toInt8.toInt32)), .unset, .unset] []))
          refine own_Go.by (fun tq kq => XS.bipush X237.here hx rfl (hb hby at_254) kq) ?_
          refine own_Go.by (fun tq kq => XS.iload X237.here hx rfl (hb hby at_256) rfl kq) ?_
          refine own_Go.by (fun tq kq => XS.iadd X237.here hx rfl (hb hby at_258) rfl kq) ?_
          refine own_Go.by (fun tq kq => XS.iload X237.here hx rfl (hb hby at_259) rfl kq) ?_
          show own_Go _ _ _ _ (T237.setTop (mkF m 261 #[sI p1, sI p2, sI p3, sI p4, sI sel, sR aK, sI cd, sI vv, sI (1 : Int32), sR ob122, sR ob131, sR b_137, sR b_237, sI (3 : Int32), .val (Value.int (((vv &&& (127 : Int32)) ||| (128 : Int32)).toInt8.toInt32)), .val (Value.int (((((vv.toUInt32 >>> ((7 : Int32) &&& 31).toUInt32).toInt32) &&& (127 : Int32)) ||| (128 : Int32)).toInt8.toInt32)), .val (Value.int (((vv.toUInt32 >>> ((14 : Int32) &&& 31).toUInt32).toInt32).toInt8.toInt32)), .unset, .unset] [(Value.int (1 : Int32)), (Value.int (9 : Int32))]))
          refine own_Go.by (fun tq kq => XS.ifNo X237.here hx rfl (hb hby at_261) rfl ((if0 _ _).trans (feq (by decide : ¬ ((1 : Int32) = (0 : Int32)))).1) kq) ?_
          refine own_Go.by (fun tq kq => XS.sipush X237.here hx rfl (hb hby at_264) kq) ?_
          refine own_Go.by (fun tq kq => XS.goto X237.here hx rfl (pc0 := 267) (pc' := 271) rfl (hb hby at_267) (by decide) (by decide) kq) ?_
          refine own_Go.by (fun tq kq => XS.iadd X237.here hx rfl (hb hby at_271) rfl kq) ?_
          show own_Go _ _ _ _ (T237.setTop (mkF m 272 #[sI p1, sI p2, sI p3, sI p4, sI sel, sR aK, sI cd, sI vv, sI (1 : Int32), sR ob122, sR ob131, sR b_137, sR b_237, sI (3 : Int32), .val (Value.int (((vv &&& (127 : Int32)) ||| (128 : Int32)).toInt8.toInt32)), .val (Value.int (((((vv.toUInt32 >>> ((7 : Int32) &&& 31).toUInt32).toInt32) &&& (127 : Int32)) ||| (128 : Int32)).toInt8.toInt32)), .val (Value.int (((vv.toUInt32 >>> ((14 : Int32) &&& 31).toUInt32).toInt32).toInt8.toInt32)), .unset, .unset] [(Value.int (309 : Int32))]))
          refine own_Go.by (fun tq kq => XS.istore X237.here hx rfl (hb hby at_272) rfl (l' := #[sI p1, sI p2, sI p3, sI p4, sI sel, sR aK, sI cd, sI vv, sI (1 : Int32), sR ob122, sR ob131, sR b_137, sR b_237, sI (3 : Int32), .val (Value.int (((vv &&& (127 : Int32)) ||| (128 : Int32)).toInt8.toInt32)), .val (Value.int (((((vv.toUInt32 >>> ((7 : Int32) &&& 31).toUInt32).toInt32) &&& (127 : Int32)) ||| (128 : Int32)).toInt8.toInt32)), .val (Value.int (((vv.toUInt32 >>> ((14 : Int32) &&& 31).toUInt32).toInt32).toInt8.toInt32)), sI (309 : Int32), .unset]) rfl kq) ?_
          refine own_Go.by (fun tq kq => XS.aload X237.here hx rfl (hb hby at_274) rfl rfl kq) ?_
          show own_Go _ _ _ _ (T237.setTop (mkF m 276 #[sI p1, sI p2, sI p3, sI p4, sI sel, sR aK, sI cd, sI vv, sI (1 : Int32), sR ob122, sR ob131, sR b_137, sR b_237, sI (3 : Int32), .val (Value.int (((vv &&& (127 : Int32)) ||| (128 : Int32)).toInt8.toInt32)), .val (Value.int (((((vv.toUInt32 >>> ((7 : Int32) &&& 31).toUInt32).toInt32) &&& (127 : Int32)) ||| (128 : Int32)).toInt8.toInt32)), .val (Value.int (((vv.toUInt32 >>> ((14 : Int32) &&& 31).toUInt32).toInt32).toInt8.toInt32)), sI (309 : Int32), .unset] [(Value.ref b_237)]))
          obtain ⟨cl240, Ar240, q240, S240, M240, Hh240, G240⟩ := id p237_1
          refine own_Go.by (fun tq kq => X237.arraylength hx Ar240.1 (State.isArrayOf_alike hZ233.alike Ar240.2.1) (g := (mkF m 276 #[sI p1, sI p2, sI p3, sI p4, sI sel, sR aK, sI cd, sI vv, sI (1 : Int32), sR ob122, sR ob131, sR b_137, sR b_237, sI (3 : Int32), .val (Value.int (((vv &&& (127 : Int32)) ||| (128 : Int32)).toInt8.toInt32)), .val (Value.int (((((vv.toUInt32 >>> ((7 : Int32) &&& 31).toUInt32).toInt32) &&& (127 : Int32)) ||| (128 : Int32)).toInt8.toInt32)), .val (Value.int (((vv.toUInt32 >>> ((14 : Int32) &&& 31).toUInt32).toInt32).toInt8.toInt32)), sI (309 : Int32), .unset] [(Value.ref b_237)])) rfl rfl (hb hby at_276) _ kq) ?_
          rw [len_of S240 M240]
          refine own_Go.by (fun tq kq => XS.iload X237.here hx rfl (hb hby at_277) rfl kq) ?_
          show own_Go _ _ _ _ (T237.setTop (mkF m 279 #[sI p1, sI p2, sI p3, sI p4, sI sel, sR aK, sI cd, sI vv, sI (1 : Int32), sR ob122, sR ob131, sR b_137, sR b_237, sI (3 : Int32), .val (Value.int (((vv &&& (127 : Int32)) ||| (128 : Int32)).toInt8.toInt32)), .val (Value.int (((((vv.toUInt32 >>> ((7 : Int32) &&& 31).toUInt32).toInt32) &&& (127 : Int32)) ||| (128 : Int32)).toInt8.toInt32)), .val (Value.int (((vv.toUInt32 >>> ((14 : Int32) &&& 31).toUInt32).toInt32).toInt8.toInt32)), sI (309 : Int32), .unset] [(Value.int (309 : Int32)), (Value.int (309 : Int32))]))
          refine own_Go.by (fun tq kq => XS.icmpNo X237.here hx rfl (hb hby at_279) rfl (teq (by decide : (309 : Int32) = (309 : Int32))).2 kq) ?_
          refine own_Go.by (fun tq kq => XS.aload X237.here hx rfl (hb hby at_282) rfl rfl kq) ?_
          refine own_Go.by (fun tq kq => XS.iload X237.here hx rfl (hb hby at_284) rfl kq) ?_
          show own_Go _ _ _ _ (T237.setTop (mkF m 286 #[sI p1, sI p2, sI p3, sI p4, sI sel, sR aK, sI cd, sI vv, sI (1 : Int32), sR ob122, sR ob131, sR b_137, sR b_237, sI (3 : Int32), .val (Value.int (((vv &&& (127 : Int32)) ||| (128 : Int32)).toInt8.toInt32)), .val (Value.int (((((vv.toUInt32 >>> ((7 : Int32) &&& 31).toUInt32).toInt32) &&& (127 : Int32)) ||| (128 : Int32)).toInt8.toInt32)), .val (Value.int (((vv.toUInt32 >>> ((14 : Int32) &&& 31).toUInt32).toInt32).toInt8.toInt32)), sI (309 : Int32), .unset] [(Value.int cd), (Value.ref b_237)]))
          obtain ⟨_, _, ⟨T241, L241, k241, n241⟩, -, X241, ⟨Lc241, hQ241, l241, y241, z241⟩, st241⟩ := Jvm.LawKit.callS X237 hx (y := (⟨"com/example/ebbtide/ebbtide/core/EncoderToByteArrayPinLaw", "header", "([BI)Z"⟩ : MethodName)) hown233 (mvT hZ233 (hw _ (List.mem_of_getElem? (i := 72) rfl))) (mvT hZ233 (hw _ (List.mem_of_getElem? (i := 73) rfl))) (mvT hZ233 (hw _ (List.mem_of_getElem? (i := 74) rfl))) (mvT hZ233 (hw _ (List.mem_of_getElem? (i := 75) rfl))) (by decide) (backOf (W := 0) (rm11 l Z a0 hw [] b_237 k2_237 (309 : Int32) (own_cp (((own_cp ((((own_hd cd).set 6 (Value.int (((((vv.toInt64) &&& (127 : Int64)) ||| (128 : Int64)).toInt32).toInt8.toInt32))).set 7 (Value.int (((((((vv.toInt64).toUInt64 >>> ((7 : Int32) &&& 0x3f).toInt64.toUInt64).toInt64) &&& (127 : Int64)) ||| (128 : Int64)).toInt32).toInt8.toInt32))).set 8 (Value.int (((((((vv.toInt64).toUInt64 >>> ((7 : Int32) &&& 0x3f).toInt64.toUInt64).toInt64).toUInt64 >>> ((7 : Int32) &&& 0x3f).toInt64.toUInt64).toInt64).toInt32).toInt8.toInt32))) 256 ++ List.replicate 256 (Value.int (0 : Int32)))).take (9 : Int32).toNatClampNeg ++ ((List.range (300 : Int32).toNatClampNeg).map fun i => ((((List.replicate 300 (Value.int (0 : Int32))).set 0 (Value.int (p3.toInt8.toInt32))).set 299 (Value.int ((p3 >>> ((8 : Int32) &&& 31)).toInt8.toInt32)))).getD ((0 : Int32).toNatClampNeg + i) (Value.int (0 : Int32))) ++ ((own_cp ((((own_hd cd).set 6 (Value.int (((((vv.toInt64) &&& (127 : Int64)) ||| (128 : Int64)).toInt32).toInt8.toInt32))).set 7 (Value.int (((((((vv.toInt64).toUInt64 >>> ((7 : Int32) &&& 0x3f).toInt64.toUInt64).toInt64) &&& (127 : Int64)) ||| (128 : Int64)).toInt32).toInt8.toInt32))).set 8 (Value.int (((((((vv.toInt64).toUInt64 >>> ((7 : Int32) &&& 0x3f).toInt64.toUInt64).toInt64).toUInt64 >>> ((7 : Int32) &&& 0x3f).toInt64.toUInt64).toInt64).toInt32).toInt8.toInt32))) 256 ++ List.replicate 256 (Value.int (0 : Int32)))).drop ((9 : Int32).toNatClampNeg + (300 : Int32).toNatClampNeg)) 309) cd T237.heap n0 O238 p237_1 (by decide : ¬ ((309 : Int32) < (6 : Int32))) (by decide : ¬ ((0 : Int32) < (0 : Int32)) ∧ (0 : Int32) < (309 : Int32)) (by decide : ¬ ((1 : Int32) < (0 : Int32)) ∧ (1 : Int32) < (309 : Int32)) (by decide : ¬ ((2 : Int32) < (0 : Int32)) ∧ (2 : Int32) < (309 : Int32)) (by decide : ¬ ((3 : Int32) < (0 : Int32)) ∧ (3 : Int32) < (309 : Int32)) (by decide : ¬ ((4 : Int32) < (0 : Int32)) ∧ (4 : Int32) < (309 : Int32)) (by decide : ¬ ((5 : Int32) < (0 : Int32)) ∧ (5 : Int32) < (309 : Int32)) (rfl : (own_cp (((own_cp ((((own_hd cd).set 6 (Value.int (((((vv.toInt64) &&& (127 : Int64)) ||| (128 : Int64)).toInt32).toInt8.toInt32))).set 7 (Value.int (((((((vv.toInt64).toUInt64 >>> ((7 : Int32) &&& 0x3f).toInt64.toUInt64).toInt64) &&& (127 : Int64)) ||| (128 : Int64)).toInt32).toInt8.toInt32))).set 8 (Value.int (((((((vv.toInt64).toUInt64 >>> ((7 : Int32) &&& 0x3f).toInt64.toUInt64).toInt64).toUInt64 >>> ((7 : Int32) &&& 0x3f).toInt64.toUInt64).toInt64).toInt32).toInt8.toInt32))) 256 ++ List.replicate 256 (Value.int (0 : Int32)))).take (9 : Int32).toNatClampNeg ++ ((List.range (300 : Int32).toNatClampNeg).map fun i => ((((List.replicate 300 (Value.int (0 : Int32))).set 0 (Value.int (p3.toInt8.toInt32))).set 299 (Value.int ((p3 >>> ((8 : Int32) &&& 31)).toInt8.toInt32)))).getD ((0 : Int32).toNatClampNeg + i) (Value.int (0 : Int32))) ++ ((own_cp ((((own_hd cd).set 6 (Value.int (((((vv.toInt64) &&& (127 : Int64)) ||| (128 : Int64)).toInt32).toInt8.toInt32))).set 7 (Value.int (((((((vv.toInt64).toUInt64 >>> ((7 : Int32) &&& 0x3f).toInt64.toUInt64).toInt64) &&& (127 : Int64)) ||| (128 : Int64)).toInt32).toInt8.toInt32))).set 8 (Value.int (((((((vv.toInt64).toUInt64 >>> ((7 : Int32) &&& 0x3f).toInt64.toUInt64).toInt64).toUInt64 >>> ((7 : Int32) &&& 0x3f).toInt64.toUInt64).toInt64).toInt32).toInt8.toInt32))) 256 ++ List.replicate 256 (Value.int (0 : Int32)))).drop ((9 : Int32).toNatClampNeg + (300 : Int32).toNatClampNeg)) 309).getD (0 : Int32).toNatClampNeg (Value.int (0 : Int32)) = (Value.int (69 : Int32))) (rfl : (own_cp (((own_cp ((((own_hd cd).set 6 (Value.int (((((vv.toInt64) &&& (127 : Int64)) ||| (128 : Int64)).toInt32).toInt8.toInt32))).set 7 (Value.int (((((((vv.toInt64).toUInt64 >>> ((7 : Int32) &&& 0x3f).toInt64.toUInt64).toInt64) &&& (127 : Int64)) ||| (128 : Int64)).toInt32).toInt8.toInt32))).set 8 (Value.int (((((((vv.toInt64).toUInt64 >>> ((7 : Int32) &&& 0x3f).toInt64.toUInt64).toInt64).toUInt64 >>> ((7 : Int32) &&& 0x3f).toInt64.toUInt64).toInt64).toInt32).toInt8.toInt32))) 256 ++ List.replicate 256 (Value.int (0 : Int32)))).take (9 : Int32).toNatClampNeg ++ ((List.range (300 : Int32).toNatClampNeg).map fun i => ((((List.replicate 300 (Value.int (0 : Int32))).set 0 (Value.int (p3.toInt8.toInt32))).set 299 (Value.int ((p3 >>> ((8 : Int32) &&& 31)).toInt8.toInt32)))).getD ((0 : Int32).toNatClampNeg + i) (Value.int (0 : Int32))) ++ ((own_cp ((((own_hd cd).set 6 (Value.int (((((vv.toInt64) &&& (127 : Int64)) ||| (128 : Int64)).toInt32).toInt8.toInt32))).set 7 (Value.int (((((((vv.toInt64).toUInt64 >>> ((7 : Int32) &&& 0x3f).toInt64.toUInt64).toInt64) &&& (127 : Int64)) ||| (128 : Int64)).toInt32).toInt8.toInt32))).set 8 (Value.int (((((((vv.toInt64).toUInt64 >>> ((7 : Int32) &&& 0x3f).toInt64.toUInt64).toInt64).toUInt64 >>> ((7 : Int32) &&& 0x3f).toInt64.toUInt64).toInt64).toInt32).toInt8.toInt32))) 256 ++ List.replicate 256 (Value.int (0 : Int32)))).drop ((9 : Int32).toNatClampNeg + (300 : Int32).toNatClampNeg)) 309).getD (1 : Int32).toNatClampNeg (Value.int (0 : Int32)) = (Value.int (66 : Int32))) (rfl : (own_cp (((own_cp ((((own_hd cd).set 6 (Value.int (((((vv.toInt64) &&& (127 : Int64)) ||| (128 : Int64)).toInt32).toInt8.toInt32))).set 7 (Value.int (((((((vv.toInt64).toUInt64 >>> ((7 : Int32) &&& 0x3f).toInt64.toUInt64).toInt64) &&& (127 : Int64)) ||| (128 : Int64)).toInt32).toInt8.toInt32))).set 8 (Value.int (((((((vv.toInt64).toUInt64 >>> ((7 : Int32) &&& 0x3f).toInt64.toUInt64).toInt64).toUInt64 >>> ((7 : Int32) &&& 0x3f).toInt64.toUInt64).toInt64).toInt32).toInt8.toInt32))) 256 ++ List.replicate 256 (Value.int (0 : Int32)))).take (9 : Int32).toNatClampNeg ++ ((List.range (300 : Int32).toNatClampNeg).map fun i => ((((List.replicate 300 (Value.int (0 : Int32))).set 0 (Value.int (p3.toInt8.toInt32))).set 299 (Value.int ((p3 >>> ((8 : Int32) &&& 31)).toInt8.toInt32)))).getD ((0 : Int32).toNatClampNeg + i) (Value.int (0 : Int32))) ++ ((own_cp ((((own_hd cd).set 6 (Value.int (((((vv.toInt64) &&& (127 : Int64)) ||| (128 : Int64)).toInt32).toInt8.toInt32))).set 7 (Value.int (((((((vv.toInt64).toUInt64 >>> ((7 : Int32) &&& 0x3f).toInt64.toUInt64).toInt64) &&& (127 : Int64)) ||| (128 : Int64)).toInt32).toInt8.toInt32))).set 8 (Value.int (((((((vv.toInt64).toUInt64 >>> ((7 : Int32) &&& 0x3f).toInt64.toUInt64).toInt64).toUInt64 >>> ((7 : Int32) &&& 0x3f).toInt64.toUInt64).toInt64).toInt32).toInt8.toInt32))) 256 ++ List.replicate 256 (Value.int (0 : Int32)))).drop ((9 : Int32).toNatClampNeg + (300 : Int32).toNatClampNeg)) 309).getD (2 : Int32).toNatClampNeg (Value.int (0 : Int32)) = (Value.int (66 : Int32))) (rfl : (own_cp (((own_cp ((((own_hd cd).set 6 (Value.int (((((vv.toInt64) &&& (127 : Int64)) ||| (128 : Int64)).toInt32).toInt8.toInt32))).set 7 (Value.int (((((((vv.toInt64).toUInt64 >>> ((7 : Int32) &&& 0x3f).toInt64.toUInt64).toInt64) &&& (127 : Int64)) ||| (128 : Int64)).toInt32).toInt8.toInt32))).set 8 (Value.int (((((((vv.toInt64).toUInt64 >>> ((7 : Int32) &&& 0x3f).toInt64.toUInt64).toInt64).toUInt64 >>> ((7 : Int32) &&& 0x3f).toInt64.toUInt64).toInt64).toInt32).toInt8.toInt32))) 256 ++ List.replicate 256 (Value.int (0 : Int32)))).take (9 : Int32).toNatClampNeg ++ ((List.range (300 : Int32).toNatClampNeg).map fun i => ((((List.replicate 300 (Value.int (0 : Int32))).set 0 (Value.int (p3.toInt8.toInt32))).set 299 (Value.int ((p3 >>> ((8 : Int32) &&& 31)).toInt8.toInt32)))).getD ((0 : Int32).toNatClampNeg + i) (Value.int (0 : Int32))) ++ ((own_cp ((((own_hd cd).set 6 (Value.int (((((vv.toInt64) &&& (127 : Int64)) ||| (128 : Int64)).toInt32).toInt8.toInt32))).set 7 (Value.int (((((((vv.toInt64).toUInt64 >>> ((7 : Int32) &&& 0x3f).toInt64.toUInt64).toInt64) &&& (127 : Int64)) ||| (128 : Int64)).toInt32).toInt8.toInt32))).set 8 (Value.int (((((((vv.toInt64).toUInt64 >>> ((7 : Int32) &&& 0x3f).toInt64.toUInt64).toInt64).toUInt64 >>> ((7 : Int32) &&& 0x3f).toInt64.toUInt64).toInt64).toInt32).toInt8.toInt32))) 256 ++ List.replicate 256 (Value.int (0 : Int32)))).drop ((9 : Int32).toNatClampNeg + (300 : Int32).toNatClampNeg)) 309).getD (3 : Int32).toNatClampNeg (Value.int (0 : Int32)) = (Value.int (84 : Int32))) (rfl : (own_cp (((own_cp ((((own_hd cd).set 6 (Value.int (((((vv.toInt64) &&& (127 : Int64)) ||| (128 : Int64)).toInt32).toInt8.toInt32))).set 7 (Value.int (((((((vv.toInt64).toUInt64 >>> ((7 : Int32) &&& 0x3f).toInt64.toUInt64).toInt64) &&& (127 : Int64)) ||| (128 : Int64)).toInt32).toInt8.toInt32))).set 8 (Value.int (((((((vv.toInt64).toUInt64 >>> ((7 : Int32) &&& 0x3f).toInt64.toUInt64).toInt64).toUInt64 >>> ((7 : Int32) &&& 0x3f).toInt64.toUInt64).toInt64).toInt32).toInt8.toInt32))) 256 ++ List.replicate 256 (Value.int (0 : Int32)))).take (9 : Int32).toNatClampNeg ++ ((List.range (300 : Int32).toNatClampNeg).map fun i => ((((List.replicate 300 (Value.int (0 : Int32))).set 0 (Value.int (p3.toInt8.toInt32))).set 299 (Value.int ((p3 >>> ((8 : Int32) &&& 31)).toInt8.toInt32)))).getD ((0 : Int32).toNatClampNeg + i) (Value.int (0 : Int32))) ++ ((own_cp ((((own_hd cd).set 6 (Value.int (((((vv.toInt64) &&& (127 : Int64)) ||| (128 : Int64)).toInt32).toInt8.toInt32))).set 7 (Value.int (((((((vv.toInt64).toUInt64 >>> ((7 : Int32) &&& 0x3f).toInt64.toUInt64).toInt64) &&& (127 : Int64)) ||| (128 : Int64)).toInt32).toInt8.toInt32))).set 8 (Value.int (((((((vv.toInt64).toUInt64 >>> ((7 : Int32) &&& 0x3f).toInt64.toUInt64).toInt64).toUInt64 >>> ((7 : Int32) &&& 0x3f).toInt64.toUInt64).toInt64).toInt32).toInt8.toInt32))) 256 ++ List.replicate 256 (Value.int (0 : Int32)))).drop ((9 : Int32).toNatClampNeg + (300 : Int32).toNatClampNeg)) 309).getD (4 : Int32).toNatClampNeg (Value.int (0 : Int32)) = (Value.int (3 : Int32))) (rfl : (own_cp (((own_cp ((((own_hd cd).set 6 (Value.int (((((vv.toInt64) &&& (127 : Int64)) ||| (128 : Int64)).toInt32).toInt8.toInt32))).set 7 (Value.int (((((((vv.toInt64).toUInt64 >>> ((7 : Int32) &&& 0x3f).toInt64.toUInt64).toInt64) &&& (127 : Int64)) ||| (128 : Int64)).toInt32).toInt8.toInt32))).set 8 (Value.int (((((((vv.toInt64).toUInt64 >>> ((7 : Int32) &&& 0x3f).toInt64.toUInt64).toInt64).toUInt64 >>> ((7 : Int32) &&& 0x3f).toInt64.toUInt64).toInt64).toInt32).toInt8.toInt32))) 256 ++ List.replicate 256 (Value.int (0 : Int32)))).take (9 : Int32).toNatClampNeg ++ ((List.range (300 : Int32).toNatClampNeg).map fun i => ((((List.replicate 300 (Value.int (0 : Int32))).set 0 (Value.int (p3.toInt8.toInt32))).set 299 (Value.int ((p3 >>> ((8 : Int32) &&& 31)).toInt8.toInt32)))).getD ((0 : Int32).toNatClampNeg + i) (Value.int (0 : Int32))) ++ ((own_cp ((((own_hd cd).set 6 (Value.int (((((vv.toInt64) &&& (127 : Int64)) ||| (128 : Int64)).toInt32).toInt8.toInt32))).set 7 (Value.int (((((((vv.toInt64).toUInt64 >>> ((7 : Int32) &&& 0x3f).toInt64.toUInt64).toInt64) &&& (127 : Int64)) ||| (128 : Int64)).toInt32).toInt8.toInt32))).set 8 (Value.int (((((((vv.toInt64).toUInt64 >>> ((7 : Int32) &&& 0x3f).toInt64.toUInt64).toInt64).toUInt64 >>> ((7 : Int32) &&& 0x3f).toInt64.toUInt64).toInt64).toInt32).toInt8.toInt32))) 256 ++ List.replicate 256 (Value.int (0 : Int32)))).drop ((9 : Int32).toNatClampNeg + (300 : Int32).toNatClampNeg)) 309).getD (5 : Int32).toNatClampNeg (Value.int (0 : Int32)) = (Value.int cd))) hZ233 (hw _ (List.mem_of_getElem? (i := 75) rfl)) (hw _ (List.mem_of_getElem? (i := 74) rfl)) (by decide) (by decide)) (g := (mkF m 286 #[sI p1, sI p2, sI p3, sI p4, sI sel, sR aK, sI cd, sI vv, sI (1 : Int32), sR ob122, sR ob131, sR b_137, sR b_237, sI (3 : Int32), .val (Value.int (((vv &&& (127 : Int32)) ||| (128 : Int32)).toInt8.toInt32)), .val (Value.int (((((vv.toUInt32 >>> ((7 : Int32) &&& 31).toUInt32).toInt32) &&& (127 : Int32)) ||| (128 : Int32)).toInt8.toInt32)), .val (Value.int (((vv.toUInt32 >>> ((14 : Int32) &&& 31).toUInt32).toInt32).toInt8.toInt32)), sI (309 : Int32), .unset] [(Value.int cd), (Value.ref b_237)])) rfl (by rw [hml]; rfl) (argsL := [(Value.ref b_237), (Value.int cd)]) (rest := []) (lenOf own_pd10 rfl) rfl (by show 2 * 0 + _ ≤ _; exact Nat.le_of_eq rfl) (hb hby at_286) (fun _ _ => ⟨rfl, rfl, (by decide : 10 + 0 ≤ _), (by decide : 1493 + 0 ≤ _)⟩)
          dsimp only [Pt.U, Pt.locs, Pt.cells, Pt.slots] at X241 l241 y241 z241 st241 hQ241
          subst l241 y241 z241
          refine own_Go.by st241 ?_
          obtain ⟨rfl, N241q, e241⟩ := hQ241
          have N241 := Fr.app N237 N241q
          show own_Go _ _ _ _ (T241.setTop (mkF m 289 #[sI p1, sI p2, sI p3, sI p4, sI sel, sR aK, sI cd, sI vv, sI (1 : Int32), sR ob122, sR ob131, sR b_137, sR b_237, sI (3 : Int32), .val (Value.int (((vv &&& (127 : Int32)) ||| (128 : Int32)).toInt8.toInt32)), .val (Value.int (((((vv.toUInt32 >>> ((7 : Int32) &&& 31).toUInt32).toInt32) &&& (127 : Int32)) ||| (128 : Int32)).toInt8.toInt32)), .val (Value.int (((vv.toUInt32 >>> ((14 : Int32) &&& 31).toUInt32).toInt32).toInt8.toInt32)), sI (309 : Int32), .unset] [(Value.int (1 : Int32))]))
          refine own_Go.by (fun tq kq => XS.ifYes X241.here hx rfl (pc0 := 289) (pc' := 294) rfl (hb hby at_289) rfl ((if0 _ _).trans (feq (by decide : ¬ ((1 : Int32) = (0 : Int32)))).2) (by decide) (by decide) kq) ?_
          refine own_Go.by (fun tq kq => XS.aload X241.here hx rfl (hb hby at_294) rfl rfl kq) ?_
          refine own_Go.by (fun tq kq => XS.bipush X241.here hx rfl (hb hby at_296) kq) ?_
          show own_Go _ _ _ _ (T241.setTop (mkF m 298 #[sI p1, sI p2, sI p3, sI p4, sI sel, sR aK, sI cd, sI vv, sI (1 : Int32), sR ob122, sR ob131, sR b_137, sR b_237, sI (3 : Int32), .val (Value.int (((vv &&& (127 : Int32)) ||| (128 : Int32)).toInt8.toInt32)), .val (Value.int (((((vv.toUInt32 >>> ((7 : Int32) &&& 31).toUInt32).toInt32) &&& (127 : Int32)) ||| (128 : Int32)).toInt8.toInt32)), .val (Value.int (((vv.toUInt32 >>> ((14 : Int32) &&& 31).toUInt32).toInt32).toInt8.toInt32)), sI (309 : Int32), .unset] [(Value.int (6 : Int32)), (Value.ref b_237)]))
          obtain ⟨cl242, Ar242, q242, S242, M242, Hh242, G242⟩ := id p237_1
          refine own_Go.by (fun tq kq => X241.baloadBytes hx (j := (6 : Int32)) (v := (Value.int (((((vv.toInt64) &&& (127 : Int64)) ||| (128 : Int64)).toInt32).toInt8.toInt32))) (by rw [e241]; exact Ar242.1) (State.isArrayOf_alike hZ233.alike Ar242.2.1) Ar242.2.2 (inb_of S242 (by decide : ¬ ((6 : Int32) < (0 : Int32)) ∧ (6 : Int32) < (309 : Int32))) (Has.at Hh242 (inb_of S242 (by decide : ¬ ((6 : Int32) < (0 : Int32)) ∧ (6 : Int32) < (309 : Int32))) rfl) (g := (mkF m 298 #[sI p1, sI p2, sI p3, sI p4, sI sel, sR aK, sI cd, sI vv, sI (1 : Int32), sR ob122, sR ob131, sR b_137, sR b_237, sI (3 : Int32), .val (Value.int (((vv &&& (127 : Int32)) ||| (128 : Int32)).toInt8.toInt32)), .val (Value.int (((((vv.toUInt32 >>> ((7 : Int32) &&& 31).toUInt32).toInt32) &&& (127 : Int32)) ||| (128 : Int32)).toInt8.toInt32)), .val (Value.int (((vv.toUInt32 >>> ((14 : Int32) &&& 31).toUInt32).toInt32).toInt8.toInt32)), sI (309 : Int32), .unset] [(Value.int (6 : Int32)), (Value.ref b_237)])) rfl rfl (hb hby at_298) _ kq) ?_
          refine own_Go.by (fun tq kq => XS.iload X241.here hx rfl (hb hby at_299) rfl kq) ?_
          show own_Go _ _ _ _ (T241.setTop (mkF m 301 #[sI p1, sI p2, sI p3, sI p4, sI sel, sR aK, sI cd, sI vv, sI (1 : Int32), sR ob122, sR ob131, sR b_137, sR b_237, sI (3 : Int32), .val (Value.int (((vv &&& (127 : Int32)) ||| (128 : Int32)).toInt8.toInt32)), .val (Value.int (((((vv.toUInt32 >>> ((7 : Int32) &&& 31).toUInt32).toInt32) &&& (127 : Int32)) ||| (128 : Int32)).toInt8.toInt32)), .val (Value.int (((vv.toUInt32 >>> ((14 : Int32) &&& 31).toUInt32).toInt32).toInt8.toInt32)), sI (309 : Int32), .unset] [(Value.int (((vv &&& (127 : Int32)) ||| (128 : Int32)).toInt8.toInt32)), (Value.int (((((vv.toInt64) &&& (127 : Int64)) ||| (128 : Int64)).toInt32).toInt8.toInt32))]))
          refine own_Go.by (fun tq kq => XS.icmpYes X241.here hx rfl (pc0 := 301) (pc' := 306) rfl (hb hby at_301) rfl (teq (own_lo (own_e64 vv) : (((((vv.toInt64) &&& (127 : Int64)) ||| (128 : Int64)).toInt32).toInt8.toInt32) = (((vv &&& (127 : Int32)) ||| (128 : Int32)).toInt8.toInt32))).1 (by decide) (by decide) kq) ?_
          refine own_Go.by (fun tq kq => XS.iload X241.here hx rfl (hb hby at_306) rfl kq) ?_
          refine own_Go.by (fun tq kq => XS.iconst X241.here hx rfl (hb hby at_308) kq) ?_
          show own_Go _ _ _ _ (T241.setTop (mkF m 309 #[sI p1, sI p2, sI p3, sI p4, sI sel, sR aK, sI cd, sI vv, sI (1 : Int32), sR ob122, sR ob131, sR b_137, sR b_237, sI (3 : Int32), .val (Value.int (((vv &&& (127 : Int32)) ||| (128 : Int32)).toInt8.toInt32)), .val (Value.int (((((vv.toUInt32 >>> ((7 : Int32) &&& 31).toUInt32).toInt32) &&& (127 : Int32)) ||| (128 : Int32)).toInt8.toInt32)), .val (Value.int (((vv.toUInt32 >>> ((14 : Int32) &&& 31).toUInt32).toInt32).toInt8.toInt32)), sI (309 : Int32), .unset] [(Value.int (2 : Int32)), (Value.int (3 : Int32))]))
          refine own_Go.by (fun tq kq => XS.icmpNo X241.here hx rfl (hb hby at_309) rfl (flt (by decide : ¬ ((3 : Int32) < (2 : Int32)))).1 kq) ?_
          refine own_Go.by (fun tq kq => XS.aload X241.here hx rfl (hb hby at_312) rfl rfl kq) ?_
          refine own_Go.by (fun tq kq => XS.bipush X241.here hx rfl (hb hby at_314) kq) ?_
          show own_Go _ _ _ _ (T241.setTop (mkF m 316 #[sI p1, sI p2, sI p3, sI p4, sI sel, sR aK, sI cd, sI vv, sI (1 : Int32), sR ob122, sR ob131, sR b_137, sR b_237, sI (3 : Int32), .val (Value.int (((vv &&& (127 : Int32)) ||| (128 : Int32)).toInt8.toInt32)), .val (Value.int (((((vv.toUInt32 >>> ((7 : Int32) &&& 31).toUInt32).toInt32) &&& (127 : Int32)) ||| (128 : Int32)).toInt8.toInt32)), .val (Value.int (((vv.toUInt32 >>> ((14 : Int32) &&& 31).toUInt32).toInt32).toInt8.toInt32)), sI (309 : Int32), .unset] [(Value.int (7 : Int32)), (Value.ref b_237)]))
          obtain ⟨cl243, Ar243, q243, S243, M243, Hh243, G243⟩ := id p237_1
          refine own_Go.by (fun tq kq => X241.baloadBytes hx (j := (7 : Int32)) (v := (Value.int (((((((vv.toInt64).toUInt64 >>> ((7 : Int32) &&& 0x3f).toInt64.toUInt64).toInt64) &&& (127 : Int64)) ||| (128 : Int64)).toInt32).toInt8.toInt32))) (by rw [e241]; exact Ar243.1) (State.isArrayOf_alike hZ233.alike Ar243.2.1) Ar243.2.2 (inb_of S243 (by decide : ¬ ((7 : Int32) < (0 : Int32)) ∧ (7 : Int32) < (309 : Int32))) (Has.at Hh243 (inb_of S243 (by decide : ¬ ((7 : Int32) < (0 : Int32)) ∧ (7 : Int32) < (309 : Int32))) rfl) (g := (mkF m 316 #[sI p1, sI p2, sI p3, sI p4, sI sel, sR aK, sI cd, sI vv, sI (1 : Int32), sR ob122, sR ob131, sR b_137, sR b_237, sI (3 : Int32), .val (Value.int (((vv &&& (127 : Int32)) ||| (128 : Int32)).toInt8.toInt32)), .val (Value.int (((((vv.toUInt32 >>> ((7 : Int32) &&& 31).toUInt32).toInt32) &&& (127 : Int32)) ||| (128 : Int32)).toInt8.toInt32)), .val (Value.int (((vv.toUInt32 >>> ((14 : Int32) &&& 31).toUInt32).toInt32).toInt8.toInt32)), sI (309 : Int32), .unset] [(Value.int (7 : Int32)), (Value.ref b_237)])) rfl rfl (hb hby at_316) _ kq) ?_
          refine own_Go.by (fun tq kq => XS.iload X241.here hx rfl (hb hby at_317) rfl kq) ?_
          show own_Go _ _ _ _ (T241.setTop (mkF m 319 #[sI p1, sI p2, sI p3, sI p4, sI sel, sR aK, sI cd, sI vv, sI (1 : Int32), sR ob122, sR ob131, sR b_137, sR b_237, sI (3 : Int32), .val (Value.int (((vv &&& (127 : Int32)) ||| (128 : Int32)).toInt8.toInt32)), .val (Value.int (((((vv.toUInt32 >>> ((7 : Int32) &&& 31).toUInt32).toInt32) &&& (127 : Int32)) ||| (128 : Int32)).toInt8.toInt32)), .val (Value.int (((vv.toUInt32 >>> ((14 : Int32) &&& 31).toUInt32).toInt32).toInt8.toInt32)), sI (309 : Int32), .unset] [(Value.int (((((vv.toUInt32 >>> ((7 : Int32) &&& 31).toUInt32).toInt32) &&& (127 : Int32)) ||| (128 : Int32)).toInt8.toInt32)), (Value.int (((((((vv.toInt64).toUInt64 >>> ((7 : Int32) &&& 0x3f).toInt64.toUInt64).toInt64) &&& (127 : Int64)) ||| (128 : Int64)).toInt32).toInt8.toInt32))]))
          refine own_Go.by (fun tq kq => XS.icmpYes X241.here hx rfl (pc0 := 319) (pc' := 324) rfl (hb hby at_319) rfl (teq (own_lo (own_s7 hv21) : (((((((vv.toInt64).toUInt64 >>> ((7 : Int32) &&& 0x3f).toInt64.toUInt64).toInt64) &&& (127 : Int64)) ||| (128 : Int64)).toInt32).toInt8.toInt32) = (((((vv.toUInt32 >>> ((7 : Int32) &&& 31).toUInt32).toInt32) &&& (127 : Int32)) ||| (128 : Int32)).toInt8.toInt32))).1 (by decide) (by decide) kq) ?_
          refine own_Go.by (fun tq kq => XS.iload X241.here hx rfl (hb hby at_324) rfl kq) ?_
          refine own_Go.by (fun tq kq => XS.iconst X241.here hx rfl (hb hby at_326) kq) ?_
          show own_Go _ _ _ _ (T241.setTop (mkF m 327 #[sI p1, sI p2, sI p3, sI p4, sI sel, sR aK, sI cd, sI vv, sI (1 : Int32), sR ob122, sR ob131, sR b_137, sR b_237, sI (3 : Int32), .val (Value.int (((vv &&& (127 : Int32)) ||| (128 : Int32)).toInt8.toInt32)), .val (Value.int (((((vv.toUInt32 >>> ((7 : Int32) &&& 31).toUInt32).toInt32) &&& (127 : Int32)) ||| (128 : Int32)).toInt8.toInt32)), .val (Value.int (((vv.toUInt32 >>> ((14 : Int32) &&& 31).toUInt32).toInt32).toInt8.toInt32)), sI (309 : Int32), .unset] [(Value.int (3 : Int32)), (Value.int (3 : Int32))]))
          refine own_Go.by (fun tq kq => XS.icmpNo X241.here hx rfl (hb hby at_327) rfl (flt (by decide : ¬ ((3 : Int32) < (3 : Int32)))).1 kq) ?_
          refine own_Go.by (fun tq kq => XS.aload X241.here hx rfl (hb hby at_330) rfl rfl kq) ?_
          refine own_Go.by (fun tq kq => XS.bipush X241.here hx rfl (hb hby at_332) kq) ?_
          show own_Go _ _ _ _ (T241.setTop (mkF m 334 #[sI p1, sI p2, sI p3, sI p4, sI sel, sR aK, sI cd, sI vv, sI (1 : Int32), sR ob122, sR ob131, sR b_137, sR b_237, sI (3 : Int32), .val (Value.int (((vv &&& (127 : Int32)) ||| (128 : Int32)).toInt8.toInt32)), .val (Value.int (((((vv.toUInt32 >>> ((7 : Int32) &&& 31).toUInt32).toInt32) &&& (127 : Int32)) ||| (128 : Int32)).toInt8.toInt32)), .val (Value.int (((vv.toUInt32 >>> ((14 : Int32) &&& 31).toUInt32).toInt32).toInt8.toInt32)), sI (309 : Int32), .unset] [(Value.int (8 : Int32)), (Value.ref b_237)]))
          obtain ⟨cl244, Ar244, q244, S244, M244, Hh244, G244⟩ := id p237_1
          refine own_Go.by (fun tq kq => X241.baloadBytes hx (j := (8 : Int32)) (v := (Value.int (((((((vv.toInt64).toUInt64 >>> ((7 : Int32) &&& 0x3f).toInt64.toUInt64).toInt64).toUInt64 >>> ((7 : Int32) &&& 0x3f).toInt64.toUInt64).toInt64).toInt32).toInt8.toInt32))) (by rw [e241]; exact Ar244.1) (State.isArrayOf_alike hZ233.alike Ar244.2.1) Ar244.2.2 (inb_of S244 (by decide : ¬ ((8 : Int32) < (0 : Int32)) ∧ (8 : Int32) < (309 : Int32))) (Has.at Hh244 (inb_of S244 (by decide : ¬ ((8 : Int32) < (0 : Int32)) ∧ (8 : Int32) < (309 : Int32))) rfl) (g := (mkF m 334 #[sI p1, sI p2, sI p3, sI p4, sI sel, sR aK, sI cd, sI vv, sI (1 : Int32), sR ob122, sR ob131, sR b_137, sR b_237, sI (3 : Int32), .val (Value.int (((vv &&& (127 : Int32)) ||| (128 : Int32)).toInt8.toInt32)), .val (Value.int (((((vv.toUInt32 >>> ((7 : Int32) &&& 31).toUInt32).toInt32) &&& (127 : Int32)) ||| (128 : Int32)).toInt8.toInt32)), .val (Value.int (((vv.toUInt32 >>> ((14 : Int32) &&& 31).toUInt32).toInt32).toInt8.toInt32)), sI (309 : Int32), .unset] [(Value.int (8 : Int32)), (Value.ref b_237)])) rfl rfl (hb hby at_334) _ kq) ?_
          refine own_Go.by (fun tq kq => XS.iload X241.here hx rfl (hb hby at_335) rfl kq) ?_
          show own_Go _ _ _ _ (T241.setTop (mkF m 337 #[sI p1, sI p2, sI p3, sI p4, sI sel, sR aK, sI cd, sI vv, sI (1 : Int32), sR ob122, sR ob131, sR b_137, sR b_237, sI (3 : Int32), .val (Value.int (((vv &&& (127 : Int32)) ||| (128 : Int32)).toInt8.toInt32)), .val (Value.int (((((vv.toUInt32 >>> ((7 : Int32) &&& 31).toUInt32).toInt32) &&& (127 : Int32)) ||| (128 : Int32)).toInt8.toInt32)), .val (Value.int (((vv.toUInt32 >>> ((14 : Int32) &&& 31).toUInt32).toInt32).toInt8.toInt32)), sI (309 : Int32), .unset] [(Value.int (((vv.toUInt32 >>> ((14 : Int32) &&& 31).toUInt32).toInt32).toInt8.toInt32)), (Value.int (((((((vv.toInt64).toUInt64 >>> ((7 : Int32) &&& 0x3f).toInt64.toUInt64).toInt64).toUInt64 >>> ((7 : Int32) &&& 0x3f).toInt64.toUInt64).toInt64).toInt32).toInt8.toInt32))]))
          refine own_Go.by (fun tq kq => XS.icmpYes X241.here hx rfl (pc0 := 337) (pc' := 342) rfl (hb hby at_337) rfl (teq ((congrArg (fun z : Int32 => z.toInt8.toInt32) (own_s14 hv21)) : (((((((vv.toInt64).toUInt64 >>> ((7 : Int32) &&& 0x3f).toInt64.toUInt64).toInt64).toUInt64 >>> ((7 : Int32) &&& 0x3f).toInt64.toUInt64).toInt64).toInt32).toInt8.toInt32) = (((vv.toUInt32 >>> ((14 : Int32) &&& 31).toUInt32).toInt32).toInt8.toInt32))).1 (by decide) (by decide) kq) ?_
          refine own_Go.by (fun tq kq => XS.iload X241.here hx rfl (hb hby at_342) rfl kq) ?_
          show own_Go _ _ _ _ (T241.setTop (mkF m 344 #[sI p1, sI p2, sI p3, sI p4, sI sel, sR aK, sI cd, sI vv, sI (1 : Int32), sR ob122, sR ob131, sR b_137, sR b_237, sI (3 : Int32), .val (Value.int (((vv &&& (127 : Int32)) ||| (128 : Int32)).toInt8.toInt32)), .val (Value.int (((((vv.toUInt32 >>> ((7 : Int32) &&& 31).toUInt32).toInt32) &&& (127 : Int32)) ||| (128 : Int32)).toInt8.toInt32)), .val (Value.int (((vv.toUInt32 >>> ((14 : Int32) &&& 31).toUInt32).toInt32).toInt8.toInt32)), sI (309 : Int32), .unset] [(Value.int (1 : Int32))]))
          refine own_Go.by (fun tq kq => XS.ifNo X241.here hx rfl (hb hby at_344) rfl ((if0 _ _).trans (feq (by decide : ¬ ((1 : Int32) = (0 : Int32)))).1) kq) ?_
          refine own_Go.by (fun tq kq => XS.bipush X241.here hx rfl (hb hby at_347) kq) ?_
          refine own_Go.by (fun tq kq => XS.iload X241.here hx rfl (hb hby at_349) rfl kq) ?_
          refine own_Go.by (fun tq kq => XS.iadd X241.here hx rfl (hb hby at_351) rfl kq) ?_
          show own_Go _ _ _ _ (T241.setTop (mkF m 352 #[sI p1, sI p2, sI p3, sI p4, sI sel, sR aK, sI cd, sI vv, sI (1 : Int32), sR ob122, sR ob131, sR b_137, sR b_237, sI (3 : Int32), .val (Value.int (((vv &&& (127 : Int32)) ||| (128 : Int32)).toInt8.toInt32)), .val (Value.int (((((vv.toUInt32 >>> ((7 : Int32) &&& 31).toUInt32).toInt32) &&& (127 : Int32)) ||| (128 : Int32)).toInt8.toInt32)), .val (Value.int (((vv.toUInt32 >>> ((14 : Int32) &&& 31).toUInt32).toInt32).toInt8.toInt32)), sI (309 : Int32), .unset] [(Value.int (9 : Int32))]))
          refine own_Go.by (fun tq kq => XS.istore X241.here hx rfl (hb hby at_352) rfl (l' := #[sI p1, sI p2, sI p3, sI p4, sI sel, sR aK, sI cd, sI vv, sI (1 : Int32), sR ob122, sR ob131, sR b_137, sR b_237, sI (3 : Int32), .val (Value.int (((vv &&& (127 : Int32)) ||| (128 : Int32)).toInt8.toInt32)), .val (Value.int (((((vv.toUInt32 >>> ((7 : Int32) &&& 31).toUInt32).toInt32) &&& (127 : Int32)) ||| (128 : Int32)).toInt8.toInt32)), .val (Value.int (((vv.toUInt32 >>> ((14 : Int32) &&& 31).toUInt32).toInt32).toInt8.toInt32)), sI (309 : Int32), sI (9 : Int32)]) rfl kq) ?_
          refine own_Go.by (fun tq kq => XS.aload X241.here hx rfl (hb hby at_354) rfl rfl kq) ?_
          refine own_Go.by (fun tq kq => XS.iload X241.here hx rfl (hb hby at_356) rfl kq) ?_
          show own_Go _ _ _ _ (T241.setTop (mkF m 358 #[sI p1, sI p2, sI p3, sI p4, sI sel, sR aK, sI cd, sI vv, sI (1 : Int32), sR ob122, sR ob131, sR b_137, sR b_237, sI (3 : Int32), .val (Value.int (((vv &&& (127 : Int32)) ||| (128 : Int32)).toInt8.toInt32)), .val (Value.int (((((vv.toUInt32 >>> ((7 : Int32) &&& 31).toUInt32).toInt32) &&& (127 : Int32)) ||| (128 : Int32)).toInt8.toInt32)), .val (Value.int (((vv.toUInt32 >>> ((14 : Int32) &&& 31).toUInt32).toInt32).toInt8.toInt32)), sI (309 : Int32), sI (9 : Int32)] [(Value.int (9 : Int32)), (Value.ref b_237)]))
          obtain ⟨cl245, Ar245, q245, S245, M245, Hh245, G245⟩ := id p237_1
          refine own_Go.by (fun tq kq => X241.baloadBytes hx (j := (9 : Int32)) (v := (Value.int (p3.toInt8.toInt32))) (by rw [e241]; exact Ar245.1) (State.isArrayOf_alike hZ233.alike Ar245.2.1) Ar245.2.2 (inb_of S245 (by decide : ¬ ((9 : Int32) < (0 : Int32)) ∧ (9 : Int32) < (309 : Int32))) (Has.at Hh245 (inb_of S245 (by decide : ¬ ((9 : Int32) < (0 : Int32)) ∧ (9 : Int32) < (309 : Int32))) rfl) (g := (mkF m 358 #[sI p1, sI p2, sI p3, sI p4, sI sel, sR aK, sI cd, sI vv, sI (1 : Int32), sR ob122, sR ob131, sR b_137, sR b_237, sI (3 : Int32), .val (Value.int (((vv &&& (127 : Int32)) ||| (128 : Int32)).toInt8.toInt32)), .val (Value.int (((((vv.toUInt32 >>> ((7 : Int32) &&& 31).toUInt32).toInt32) &&& (127 : Int32)) ||| (128 : Int32)).toInt8.toInt32)), .val (Value.int (((vv.toUInt32 >>> ((14 : Int32) &&& 31).toUInt32).toInt32).toInt8.toInt32)), sI (309 : Int32), sI (9 : Int32)] [(Value.int (9 : Int32)), (Value.ref b_237)])) rfl rfl (hb hby at_358) _ kq) ?_
          refine own_Go.by (fun tq kq => XS.aload X241.here hx rfl (hb hby at_359) rfl rfl kq) ?_
          refine own_Go.by (fun tq kq => XS.iconst X241.here hx rfl (hb hby at_361) kq) ?_
          show own_Go _ _ _ _ (T241.setTop (mkF m 362 #[sI p1, sI p2, sI p3, sI p4, sI sel, sR aK, sI cd, sI vv, sI (1 : Int32), sR ob122, sR ob131, sR b_137, sR b_237, sI (3 : Int32), .val (Value.int (((vv &&& (127 : Int32)) ||| (128 : Int32)).toInt8.toInt32)), .val (Value.int (((((vv.toUInt32 >>> ((7 : Int32) &&& 31).toUInt32).toInt32) &&& (127 : Int32)) ||| (128 : Int32)).toInt8.toInt32)), .val (Value.int (((vv.toUInt32 >>> ((14 : Int32) &&& 31).toUInt32).toInt32).toInt8.toInt32)), sI (309 : Int32), sI (9 : Int32)] [(Value.int (0 : Int32)), (Value.ref ob122), (Value.int (p3.toInt8.toInt32))]))
          have c246 := ((c234.keep K233q (ninS (Nat.ne_of_lt (Nat.lt_of_lt_of_le A122.lt (Nat.le_trans (Keep.of_wr W126).1 (Nat.le_trans (Keep.of_wr W129).1 (Nat.le_of_eq y131.symm))))) nin0)).keep K237q nin0)
          obtain ⟨cl247, Ar247, q247, S247, M247, Hh247, G247⟩ := id c246
          refine own_Go.by (fun tq kq => X241.baloadBytes hx (j := (0 : Int32)) (v := (Value.int (p3.toInt8.toInt32))) (by rw [e241]; exact Ar247.1) (State.isArrayOf_alike hZ233.alike Ar247.2.1) Ar247.2.2 (inb_of S247 (by decide : ¬ ((0 : Int32) < (0 : Int32)) ∧ (0 : Int32) < (300 : Int32))) (Has.at Hh247 (inb_of S247 (by decide : ¬ ((0 : Int32) < (0 : Int32)) ∧ (0 : Int32) < (300 : Int32))) rfl) (g := (mkF m 362 #[sI p1, sI p2, sI p3, sI p4, sI sel, sR aK, sI cd, sI vv, sI (1 : Int32), sR ob122, sR ob131, sR b_137, sR b_237, sI (3 : Int32), .val (Value.int (((vv &&& (127 : Int32)) ||| (128 : Int32)).toInt8.toInt32)), .val (Value.int (((((vv.toUInt32 >>> ((7 : Int32) &&& 31).toUInt32).toInt32) &&& (127 : Int32)) ||| (128 : Int32)).toInt8.toInt32)), .val (Value.int (((vv.toUInt32 >>> ((14 : Int32) &&& 31).toUInt32).toInt32).toInt8.toInt32)), sI (309 : Int32), sI (9 : Int32)] [(Value.int (0 : Int32)), (Value.ref ob122), (Value.int (p3.toInt8.toInt32))])) rfl rfl (hb hby at_362) _ kq) ?_
          show own_Go _ _ _ _ (T241.setTop (mkF m 363 #[sI p1, sI p2, sI p3, sI p4, sI sel, sR aK, sI cd, sI vv, sI (1 : Int32), sR ob122, sR ob131, sR b_137, sR b_237, sI (3 : Int32), .val (Value.int (((vv &&& (127 : Int32)) ||| (128 : Int32)).toInt8.toInt32)), .val (Value.int (((((vv.toUInt32 >>> ((7 : Int32) &&& 31).toUInt32).toInt32) &&& (127 : Int32)) ||| (128 : Int32)).toInt8.toInt32)), .val (Value.int (((vv.toUInt32 >>> ((14 : Int32) &&& 31).toUInt32).toInt32).toInt8.toInt32)), sI (309 : Int32), sI (9 : Int32)] [(Value.int (p3.toInt8.toInt32)), (Value.int (p3.toInt8.toInt32))]))
          refine own_Go.by (fun tq kq => XS.icmpNo X241.here hx rfl (hb hby at_363) rfl (teq (rfl : (p3.toInt8.toInt32) = (p3.toInt8.toInt32))).2 kq) ?_
          refine own_Go.by (fun tq kq => XS.aload X241.here hx rfl (hb hby at_366) rfl rfl kq) ?_
          refine own_Go.by (fun tq kq => XS.iload X241.here hx rfl (hb hby at_368) rfl kq) ?_
          refine own_Go.by (fun tq kq => XS.sipush X241.here hx rfl (hb hby at_370) kq) ?_
          show own_Go _ _ _ _ (T241.setTop (mkF m 373 #[sI p1, sI p2, sI p3, sI p4, sI sel, sR aK, sI cd, sI vv, sI (1 : Int32), sR ob122, sR ob131, sR b_137, sR b_237, sI (3 : Int32), .val (Value.int (((vv &&& (127 : Int32)) ||| (128 : Int32)).toInt8.toInt32)), .val (Value.int (((((vv.toUInt32 >>> ((7 : Int32) &&& 31).toUInt32).toInt32) &&& (127 : Int32)) ||| (128 : Int32)).toInt8.toInt32)), .val (Value.int (((vv.toUInt32 >>> ((14 : Int32) &&& 31).toUInt32).toInt32).toInt8.toInt32)), sI (309 : Int32), sI (9 : Int32)] [(Value.int (150 : Int32)), (Value.int (9 : Int32)), (Value.ref b_237)]))
          refine own_Go.by (fun tq kq => XS.iadd X241.here hx rfl (hb hby at_373) rfl kq) ?_
          show own_Go _ _ _ _ (T241.setTop (mkF m 374 #[sI p1, sI p2, sI p3, sI p4, sI sel, sR aK, sI cd, sI vv, sI (1 : Int32), sR ob122, sR ob131, sR b_137, sR b_237, sI (3 : Int32), .val (Value.int (((vv &&& (127 : Int32)) ||| (128 : Int32)).toInt8.toInt32)), .val (Value.int (((((vv.toUInt32 >>> ((7 : Int32) &&& 31).toUInt32).toInt32) &&& (127 : Int32)) ||| (128 : Int32)).toInt8.toInt32)), .val (Value.int (((vv.toUInt32 >>> ((14 : Int32) &&& 31).toUInt32).toInt32).toInt8.toInt32)), sI (309 : Int32), sI (9 : Int32)] [(Value.int (159 : Int32)), (Value.ref b_237)]))
          obtain ⟨cl248, Ar248, q248, S248, M248, Hh248, G248⟩ := id p237_1
          refine own_Go.by (fun tq kq => X241.baloadBytes hx (j := (159 : Int32)) (v := (Value.int (0 : Int32))) (by rw [e241]; exact Ar248.1) (State.isArrayOf_alike hZ233.alike Ar248.2.1) Ar248.2.2 (inb_of S248 (by decide : ¬ ((159 : Int32) < (0 : Int32)) ∧ (159 : Int32) < (309 : Int32))) (Has.at Hh248 (inb_of S248 (by decide : ¬ ((159 : Int32) < (0 : Int32)) ∧ (159 : Int32) < (309 : Int32))) rfl) (g := (mkF m 374 #[sI p1, sI p2, sI p3, sI p4, sI sel, sR aK, sI cd, sI vv, sI (1 : Int32), sR ob122, sR ob131, sR b_137, sR b_237, sI (3 : Int32), .val (Value.int (((vv &&& (127 : Int32)) ||| (128 : Int32)).toInt8.toInt32)), .val (Value.int (((((vv.toUInt32 >>> ((7 : Int32) &&& 31).toUInt32).toInt32) &&& (127 : Int32)) ||| (128 : Int32)).toInt8.toInt32)), .val (Value.int (((vv.toUInt32 >>> ((14 : Int32) &&& 31).toUInt32).toInt32).toInt8.toInt32)), sI (309 : Int32), sI (9 : Int32)] [(Value.int (159 : Int32)), (Value.ref b_237)])) rfl rfl (hb hby at_374) _ kq) ?_
          show own_Go _ _ _ _ (T241.setTop (mkF m 375 #[sI p1, sI p2, sI p3, sI p4, sI sel, sR aK, sI cd, sI vv, sI (1 : Int32), sR ob122, sR ob131, sR b_137, sR b_237, sI (3 : Int32), .val (Value.int (((vv &&& (127 : Int32)) ||| (128 : Int32)).toInt8.toInt32)), .val (Value.int (((((vv.toUInt32 >>> ((7 : Int32) &&& 31).toUInt32).toInt32) &&& (127 : Int32)) ||| (128 : Int32)).toInt8.toInt32)), .val (Value.int (((vv.toUInt32 >>> ((14 : Int32) &&& 31).toUInt32).toInt32).toInt8.toInt32)), sI (309 : Int32), sI (9 : Int32)] [(Value.int (0 : Int32))]))
          refine own_Go.by (fun tq kq => XS.ifNo X241.here hx rfl (hb hby at_375) rfl ((if0 _ _).trans (teq (by decide : (0 : Int32) = (0 : Int32))).2) kq) ?_
          refine own_Go.by (fun tq kq => XS.aload X241.here hx rfl (hb hby at_378) rfl rfl kq) ?_
          refine own_Go.by (fun tq kq => XS.iload X241.here hx rfl (hb hby at_380) rfl kq) ?_
          refine own_Go.by (fun tq kq => XS.sipush X241.here hx rfl (hb hby at_382) kq) ?_
          show own_Go _ _ _ _ (T241.setTop (mkF m 385 #[sI p1, sI p2, sI p3, sI p4, sI sel, sR aK, sI cd, sI vv, sI (1 : Int32), sR ob122, sR ob131, sR b_137, sR b_237, sI (3 : Int32), .val (Value.int (((vv &&& (127 : Int32)) ||| (128 : Int32)).toInt8.toInt32)), .val (Value.int (((((vv.toUInt32 >>> ((7 : Int32) &&& 31).toUInt32).toInt32) &&& (127 : Int32)) ||| (128 : Int32)).toInt8.toInt32)), .val (Value.int (((vv.toUInt32 >>> ((14 : Int32) &&& 31).toUInt32).toInt32).toInt8.toInt32)), sI (309 : Int32), sI (9 : Int32)] [(Value.int (299 : Int32)), (Value.int (9 : Int32)), (Value.ref b_237)]))
          refine own_Go.by (fun tq kq => XS.iadd X241.here hx rfl (hb hby at_385) rfl kq) ?_
          show own_Go _ _ _ _ (T241.setTop (mkF m 386 #[sI p1, sI p2, sI p3, sI p4, sI sel, sR aK, sI cd, sI vv, sI (1 : Int32), sR ob122, sR ob131, sR b_137, sR b_237, sI (3 : Int32), .val (Value.int (((vv &&& (127 : Int32)) ||| (128 : Int32)).toInt8.toInt32)), .val (Value.int (((((vv.toUInt32 >>> ((7 : Int32) &&& 31).toUInt32).toInt32) &&& (127 : Int32)) ||| (128 : Int32)).toInt8.toInt32)), .val (Value.int (((vv.toUInt32 >>> ((14 : Int32) &&& 31).toUInt32).toInt32).toInt8.toInt32)), sI (309 : Int32), sI (9 : Int32)] [(Value.int (308 : Int32)), (Value.ref b_237)]))
          obtain ⟨cl249, Ar249, q249, S249, M249, Hh249, G249⟩ := id p237_1
          refine own_Go.by (fun tq kq => X241.baloadBytes hx (j := (308 : Int32)) (v := (Value.int ((p3 >>> ((8 : Int32) &&& 31)).toInt8.toInt32))) (by rw [e241]; exact Ar249.1) (State.isArrayOf_alike hZ233.alike Ar249.2.1) Ar249.2.2 (inb_of S249 (by decide : ¬ ((308 : Int32) < (0 : Int32)) ∧ (308 : Int32) < (309 : Int32))) (Has.at Hh249 (inb_of S249 (by decide : ¬ ((308 : Int32) < (0 : Int32)) ∧ (308 : Int32) < (309 : Int32))) rfl) (g := (mkF m 386 #[sI p1, sI p2, sI p3, sI p4, sI sel, sR aK, sI cd, sI vv, sI (1 : Int32), sR ob122, sR ob131, sR b_137, sR b_237, sI (3 : Int32), .val (Value.int (((vv &&& (127 : Int32)) ||| (128 : Int32)).toInt8.toInt32)), .val (Value.int (((((vv.toUInt32 >>> ((7 : Int32) &&& 31).toUInt32).toInt32) &&& (127 : Int32)) ||| (128 : Int32)).toInt8.toInt32)), .val (Value.int (((vv.toUInt32 >>> ((14 : Int32) &&& 31).toUInt32).toInt32).toInt8.toInt32)), sI (309 : Int32), sI (9 : Int32)] [(Value.int (308 : Int32)), (Value.ref b_237)])) rfl rfl (hb hby at_386) _ kq) ?_
          refine own_Go.by (fun tq kq => XS.aload X241.here hx rfl (hb hby at_387) rfl rfl kq) ?_
          refine own_Go.by (fun tq kq => XS.sipush X241.here hx rfl (hb hby at_389) kq) ?_
          show own_Go _ _ _ _ (T241.setTop (mkF m 392 #[sI p1, sI p2, sI p3, sI p4, sI sel, sR aK, sI cd, sI vv, sI (1 : Int32), sR ob122, sR ob131, sR b_137, sR b_237, sI (3 : Int32), .val (Value.int (((vv &&& (127 : Int32)) ||| (128 : Int32)).toInt8.toInt32)), .val (Value.int (((((vv.toUInt32 >>> ((7 : Int32) &&& 31).toUInt32).toInt32) &&& (127 : Int32)) ||| (128 : Int32)).toInt8.toInt32)), .val (Value.int (((vv.toUInt32 >>> ((14 : Int32) &&& 31).toUInt32).toInt32).toInt8.toInt32)), sI (309 : Int32), sI (9 : Int32)] [(Value.int (299 : Int32)), (Value.ref ob122), (Value.int ((p3 >>> ((8 : Int32) &&& 31)).toInt8.toInt32))]))
          obtain ⟨cl250, Ar250, q250, S250, M250, Hh250, G250⟩ := id c246
          refine own_Go.by (fun tq kq => X241.baloadBytes hx (j := (299 : Int32)) (v := (Value.int ((p3 >>> ((8 : Int32) &&& 31)).toInt8.toInt32))) (by rw [e241]; exact Ar250.1) (State.isArrayOf_alike hZ233.alike Ar250.2.1) Ar250.2.2 (inb_of S250 (by decide : ¬ ((299 : Int32) < (0 : Int32)) ∧ (299 : Int32) < (300 : Int32))) (Has.at Hh250 (inb_of S250 (by decide : ¬ ((299 : Int32) < (0 : Int32)) ∧ (299 : Int32) < (300 : Int32))) rfl) (g := (mkF m 392 #[sI p1, sI p2, sI p3, sI p4, sI sel, sR aK, sI cd, sI vv, sI (1 : Int32), sR ob122, sR ob131, sR b_137, sR b_237, sI (3 : Int32), .val (Value.int (((vv &&& (127 : Int32)) ||| (128 : Int32)).toInt8.toInt32)), .val (Value.int (((((vv.toUInt32 >>> ((7 : Int32) &&& 31).toUInt32).toInt32) &&& (127 : Int32)) ||| (128 : Int32)).toInt8.toInt32)), .val (Value.int (((vv.toUInt32 >>> ((14 : Int32) &&& 31).toUInt32).toInt32).toInt8.toInt32)), sI (309 : Int32), sI (9 : Int32)] [(Value.int (299 : Int32)), (Value.ref ob122), (Value.int ((p3 >>> ((8 : Int32) &&& 31)).toInt8.toInt32))])) rfl rfl (hb hby at_392) _ kq) ?_
          show own_Go _ _ _ _ (T241.setTop (mkF m 393 #[sI p1, sI p2, sI p3, sI p4, sI sel, sR aK, sI cd, sI vv, sI (1 : Int32), sR ob122, sR ob131, sR b_137, sR b_237, sI (3 : Int32), .val (Value.int (((vv &&& (127 : Int32)) ||| (128 : Int32)).toInt8.toInt32)), .val (Value.int (((((vv.toUInt32 >>> ((7 : Int32) &&& 31).toUInt32).toInt32) &&& (127 : Int32)) ||| (128 : Int32)).toInt8.toInt32)), .val (Value.int (((vv.toUInt32 >>> ((14 : Int32) &&& 31).toUInt32).toInt32).toInt8.toInt32)), sI (309 : Int32), sI (9 : Int32)] [(Value.int ((p3 >>> ((8 : Int32) &&& 31)).toInt8.toInt32)), (Value.int ((p3 >>> ((8 : Int32) &&& 31)).toInt8.toInt32))]))
          refine own_Go.by (fun tq kq => XS.icmpYes X241.here hx rfl (pc0 := 393) (pc' := 398) rfl (hb hby at_393) rfl (teq (rfl : ((p3 >>> ((8 : Int32) &&& 31)).toInt8.toInt32) = ((p3 >>> ((8 : Int32) &&& 31)).toInt8.toInt32))).1 (by decide) (by decide) kq) ?_
          refine own_Go.by (fun tq kq => XS.aload X241.here hx rfl (hb hby at_398) rfl rfl kq) ?_
          refine own_Go.by (fun tq kq => XS.iconst X241.here hx rfl (hb hby at_400) kq) ?_
          refine own_Go.by (fun tq kq => XS.aload X241.here hx rfl (hb hby at_401) rfl rfl kq) ?_
          show own_Go _ _ _ _ (T241.setTop (mkF m 403 #[sI p1, sI p2, sI p3, sI p4, sI sel, sR aK, sI cd, sI vv, sI (1 : Int32), sR ob122, sR ob131, sR b_137, sR b_237, sI (3 : Int32), .val (Value.int (((vv &&& (127 : Int32)) ||| (128 : Int32)).toInt8.toInt32)), .val (Value.int (((((vv.toUInt32 >>> ((7 : Int32) &&& 31).toUInt32).toInt32) &&& (127 : Int32)) ||| (128 : Int32)).toInt8.toInt32)), .val (Value.int (((vv.toUInt32 >>> ((14 : Int32) &&& 31).toUInt32).toInt32).toInt8.toInt32)), sI (309 : Int32), sI (9 : Int32)] [(Value.ref b_237), (Value.int (0 : Int32)), (Value.ref b_237)]))
          refine own_Go.by (fun tq kq => XS.iconst X241.here hx rfl (hb hby at_403) kq) ?_
          show own_Go _ _ _ _ (T241.setTop (mkF m 404 #[sI p1, sI p2, sI p3, sI p4, sI sel, sR aK, sI cd, sI vv, sI (1 : Int32), sR ob122, sR ob131, sR b_137, sR b_237, sI (3 : Int32), .val (Value.int (((vv &&& (127 : Int32)) ||| (128 : Int32)).toInt8.toInt32)), .val (Value.int (((((vv.toUInt32 >>> ((7 : Int32) &&& 31).toUInt32).toInt32) &&& (127 : Int32)) ||| (128 : Int32)).toInt8.toInt32)), .val (Value.int (((vv.toUInt32 >>> ((14 : Int32) &&& 31).toUInt32).toInt32).toInt8.toInt32)), sI (309 : Int32), sI (9 : Int32)] [(Value.int (0 : Int32)), (Value.ref b_237), (Value.int (0 : Int32)), (Value.ref b_237)]))
          obtain ⟨cl251, Ar251, q251, S251, M251, Hh251, G251⟩ := id p237_1
          refine own_Go.by (fun tq kq => X241.baloadBytes hx (j := (0 : Int32)) (v := (Value.int (69 : Int32))) (by rw [e241]; exact Ar251.1) (State.isArrayOf_alike hZ233.alike Ar251.2.1) Ar251.2.2 (inb_of S251 (by decide : ¬ ((0 : Int32) < (0 : Int32)) ∧ (0 : Int32) < (309 : Int32))) (Has.at Hh251 (inb_of S251 (by decide : ¬ ((0 : Int32) < (0 : Int32)) ∧ (0 : Int32) < (309 : Int32))) rfl) (g := (mkF m 404 #[sI p1, sI p2, sI p3, sI p4, sI sel, sR aK, sI cd, sI vv, sI (1 : Int32), sR ob122, sR ob131, sR b_137, sR b_237, sI (3 : Int32), .val (Value.int (((vv &&& (127 : Int32)) ||| (128 : Int32)).toInt8.toInt32)), .val (Value.int (((((vv.toUInt32 >>> ((7 : Int32) &&& 31).toUInt32).toInt32) &&& (127 : Int32)) ||| (128 : Int32)).toInt8.toInt32)), .val (Value.int (((vv.toUInt32 >>> ((14 : Int32) &&& 31).toUInt32).toInt32).toInt8.toInt32)), sI (309 : Int32), sI (9 : Int32)] [(Value.int (0 : Int32)), (Value.ref b_237), (Value.int (0 : Int32)), (Value.ref b_237)])) rfl rfl (hb hby at_404) _ kq) ?_
          refine own_Go.by (fun tq kq => XS.iconst X241.here hx rfl (hb hby at_405) kq) ?_
          refine own_Go.by (fun tq kq => XS.iadd X241.here hx rfl (hb hby at_406) rfl kq) ?_
          refine own_Go.by (fun tq kq => XS.i2b X241.here hx rfl (hb hby at_407) rfl kq) ?_
          show own_Go _ _ _ _ (T241.setTop (mkF m 408 #[sI p1, sI p2, sI p3, sI p4, sI sel, sR aK, sI cd, sI vv, sI (1 : Int32), sR ob122, sR ob131, sR b_137, sR b_237, sI (3 : Int32), .val (Value.int (((vv &&& (127 : Int32)) ||| (128 : Int32)).toInt8.toInt32)), .val (Value.int (((((vv.toUInt32 >>> ((7 : Int32) &&& 31).toUInt32).toInt32) &&& (127 : Int32)) ||| (128 : Int32)).toInt8.toInt32)), .val (Value.int (((vv.toUInt32 >>> ((14 : Int32) &&& 31).toUInt32).toInt32).toInt8.toInt32)), sI (309 : Int32), sI (9 : Int32)] [(Value.int ((70 : Int32).toInt8.toInt32)), (Value.int (0 : Int32)), (Value.ref b_237)]))
          obtain ⟨cl252, Ar252, q252, S252, M252, Hh252, G252⟩ := id p237_1
          obtain ⟨T253, h253, X253, e253, W253, st253⟩ := stB X241 hx hZ233 e241 Ar252 (j := (0 : Int32)) (inb_of S252 ⟨(by decide : ¬ ((0 : Int32) < (0 : Int32))), (by decide : (0 : Int32) < (309 : Int32))⟩) (g := (mkF m 408 #[sI p1, sI p2, sI p3, sI p4, sI sel, sR aK, sI cd, sI vv, sI (1 : Int32), sR ob122, sR ob131, sR b_137, sR b_237, sI (3 : Int32), .val (Value.int (((vv &&& (127 : Int32)) ||| (128 : Int32)).toInt8.toInt32)), .val (Value.int (((((vv.toUInt32 >>> ((7 : Int32) &&& 31).toUInt32).toInt32) &&& (127 : Int32)) ||| (128 : Int32)).toInt8.toInt32)), .val (Value.int (((vv.toUInt32 >>> ((14 : Int32) &&& 31).toUInt32).toInt32).toInt8.toInt32)), sI (309 : Int32), sI (9 : Int32)] [(Value.int ((70 : Int32).toInt8.toInt32)), (Value.int (0 : Int32)), (Value.ref b_237)])) rfl rfl (hb hby at_408)
          refine own_Go.by st253 ?_
          have N253 := Fr.snoc X253 N241 g239
          have O254 := O238.wr W253 g239
          have K254 := K238.wr W253 (Or.inr z239)
          have hk_254 := Nat.le_trans hk_238 (Keep.of_wr W253).1
          rw [show nar .byte ((70 : Int32).toInt8.toInt32) = ((70 : Int32).toInt8.toInt32) from own_b8 _] at W253
          have V253 : Arv Z h253 b_237 k2_237 .byte (309 : Int32) ((own_cp (((own_cp ((((own_hd cd).set 6 (Value.int (((((vv.toInt64) &&& (127 : Int64)) ||| (128 : Int64)).toInt32).toInt8.toInt32))).set 7 (Value.int (((((((vv.toInt64).toUInt64 >>> ((7 : Int32) &&& 0x3f).toInt64.toUInt64).toInt64) &&& (127 : Int64)) ||| (128 : Int64)).toInt32).toInt8.toInt32))).set 8 (Value.int (((((((vv.toInt64).toUInt64 >>> ((7 : Int32) &&& 0x3f).toInt64.toUInt64).toInt64).toUInt64 >>> ((7 : Int32) &&& 0x3f).toInt64.toUInt64).toInt64).toInt32).toInt8.toInt32))) 256 ++ List.replicate 256 (Value.int (0 : Int32)))).take (9 : Int32).toNatClampNeg ++ ((List.range (300 : Int32).toNatClampNeg).map fun i => ((((List.replicate 300 (Value.int (0 : Int32))).set 0 (Value.int (p3.toInt8.toInt32))).set 299 (Value.int ((p3 >>> ((8 : Int32) &&& 31)).toInt8.toInt32)))).getD ((0 : Int32).toNatClampNeg + i) (Value.int (0 : Int32))) ++ ((own_cp ((((own_hd cd).set 6 (Value.int (((((vv.toInt64) &&& (127 : Int64)) ||| (128 : Int64)).toInt32).toInt8.toInt32))).set 7 (Value.int (((((((vv.toInt64).toUInt64 >>> ((7 : Int32) &&& 0x3f).toInt64.toUInt64).toInt64) &&& (127 : Int64)) ||| (128 : Int64)).toInt32).toInt8.toInt32))).set 8 (Value.int (((((((vv.toInt64).toUInt64 >>> ((7 : Int32) &&& 0x3f).toInt64.toUInt64).toInt64).toUInt64 >>> ((7 : Int32) &&& 0x3f).toInt64.toUInt64).toInt64).toInt32).toInt8.toInt32))) 256 ++ List.replicate 256 (Value.int (0 : Int32)))).drop ((9 : Int32).toNatClampNeg + (300 : Int32).toNatClampNeg)) 309).set 0 (Value.int ((70 : Int32).toInt8.toInt32))) (Value.int (0 : Int32)) := Arv.set Ar252 q252 S252 M252 Hh252 G252 (own_fitB (own_b8 _)) W253 0 (rfl) (Nat.le_of_ble_eq_true rfl)
          refine own_Go.by (fun tq kq => XS.aload X253.here hx rfl (hb hby at_409) rfl rfl kq) ?_
          refine own_Go.by (fun tq kq => XS.iconst X253.here hx rfl (hb hby at_411) kq) ?_
          refine own_Go.by (fun tq kq => XS.iconst X253.here hx rfl (hb hby at_412) kq) ?_
          show own_Go _ _ _ _ (T253.setTop (mkF m 413 #[sI p1, sI p2, sI p3, sI p4, sI sel, sR aK, sI cd, sI vv, sI (1 : Int32), sR ob122, sR ob131, sR b_137, sR b_237, sI (3 : Int32), .val (Value.int (((vv &&& (127 : Int32)) ||| (128 : Int32)).toInt8.toInt32)), .val (Value.int (((((vv.toUInt32 >>> ((7 : Int32) &&& 31).toUInt32).toInt32) &&& (127 : Int32)) ||| (128 : Int32)).toInt8.toInt32)), .val (Value.int (((vv.toUInt32 >>> ((14 : Int32) &&& 31).toUInt32).toInt32).toInt8.toInt32)), sI (309 : Int32), sI (9 : Int32)] [(Value.int (0 : Int32)), (Value.int (1 : Int32)), (Value.ref b_137)]))
          have c255 := ((((p137_1.keep K227q (ninS (Ne.symm (Nat.ne_of_lt (Nat.lt_of_lt_of_le A131.lt (Nat.le_trans K134q.1 p137_0)))) (ninS (Ne.symm (Nat.ne_of_lt (Nat.lt_of_lt_of_le p134_4.lt p137_0))) nin0))).keep K233q (ninS (Ne.symm (Nat.ne_of_lt (Nat.lt_of_lt_of_le A131.lt (Nat.le_trans K134q.1 p137_0)))) nin0)).keep K237q nin0).other W253 (Nat.ne_of_lt (Nat.lt_of_lt_of_le p137_1.lt (Nat.le_trans K227q.1 (Nat.le_trans K233q.1 p237_0)))))
          obtain ⟨cl256, Ar256, q256, S256, M256, Hh256, G256⟩ := id c255
          obtain ⟨T257, h257, X257, e257, W257, st257⟩ := stB X253 hx hZ233 e253 Ar256 (j := (1 : Int32)) (inb_of S256 ⟨(by decide : ¬ ((1 : Int32) < (0 : Int32))), (by decide : (1 : Int32) < (6 : Int32))⟩) (g := (mkF m 413 #[sI p1, sI p2, sI p3, sI p4, sI sel, sR aK, sI cd, sI vv, sI (1 : Int32), sR ob122, sR ob131, sR b_137, sR b_237, sI (3 : Int32), .val (Value.int (((vv &&& (127 : Int32)) ||| (128 : Int32)).toInt8.toInt32)), .val (Value.int (((((vv.toUInt32 >>> ((7 : Int32) &&& 31).toUInt32).toInt32) &&& (127 : Int32)) ||| (128 : Int32)).toInt8.toInt32)), .val (Value.int (((vv.toUInt32 >>> ((14 : Int32) &&& 31).toUInt32).toInt32).toInt8.toInt32)), sI (309 : Int32), sI (9 : Int32)] [(Value.int (0 : Int32)), (Value.int (1 : Int32)), (Value.ref b_137)])) rfl rfl (hb hby at_413)
          refine own_Go.by st257 ?_
          have N257 := Fr.snoc X257 N253 g139
          have O258 := O254.wr W257 g139
          have K258 := K254.wr W257 (Or.inr z139)
          have hk_258 := Nat.le_trans hk_254 (Keep.of_wr W257).1
          rw [show nar .byte (0 : Int32) = (0 : Int32) from (rfl : ((0 : Int32).toInt8.toInt32) = (0 : Int32))] at W257
          have V257 : Arv Z h257 b_137 k2_137 .byte (6 : Int32) ((own_cp (own_hd cd) 6).set 1 (Value.int (0 : Int32))) (Value.int (0 : Int32)) := Arv.set Ar256 q256 S256 M256 Hh256 G256 (own_fitB ((rfl : ((0 : Int32).toInt8.toInt32) = (0 : Int32)))) W257 1 (rfl) (Nat.le_of_ble_eq_true rfl)
          refine own_Go.by (fun tq kq => XS.aload X257.here hx rfl (hb hby at_414) rfl rfl kq) ?_
          show own_Go _ _ _ _ (T257.setTop (mkF m 416 #[sI p1, sI p2, sI p3, sI p4, sI sel, sR aK, sI cd, sI vv, sI (1 : Int32), sR ob122, sR ob131, sR b_137, sR b_237, sI (3 : Int32), .val (Value.int (((vv &&& (127 : Int32)) ||| (128 : Int32)).toInt8.toInt32)), .val (Value.int (((((vv.toUInt32 >>> ((7 : Int32) &&& 31).toUInt32).toInt32) &&& (127 : Int32)) ||| (128 : Int32)).toInt8.toInt32)), .val (Value.int (((vv.toUInt32 >>> ((14 : Int32) &&& 31).toUInt32).toInt32).toInt8.toInt32)), sI (309 : Int32), sI (9 : Int32)] [(Value.ref ob131)]))
          have c260 := (((p233_1.keep K237q).wr W253).wr W257)
          have c261 := (((p233_2.keep K237q nin0).other W253 (Or.inl (Nat.ne_of_lt (Nat.lt_of_lt_of_le A131.lt (Nat.le_trans K134q.1 (Nat.le_trans K137q.1 (Nat.le_trans K227q.1 (Nat.le_trans K233q.1 p237_0)))))))).other W257 (Or.inl (Nat.ne_of_lt (Nat.lt_of_lt_of_le A131.lt (Nat.le_trans K134q.1 p137_0)))))
          have c262 := (((p233_3.keep K237q nin0).other W253 (Or.inl (Nat.ne_of_lt (Nat.lt_of_lt_of_le A131.lt (Nat.le_trans K134q.1 (Nat.le_trans K137q.1 (Nat.le_trans K227q.1 (Nat.le_trans K233q.1 p237_0)))))))).other W257 (Or.inl (Nat.ne_of_lt (Nat.lt_of_lt_of_le A131.lt (Nat.le_trans K134q.1 p137_0)))))
          have c263 := (((p233_4.keep K237q nin0).other W253 (Nat.ne_of_lt (Nat.lt_of_lt_of_le p233_4.lt p237_0))).other W257 (Ne.symm (Nat.ne_of_lt (Nat.lt_of_lt_of_le p137_1.lt (Nat.le_trans K227q.1 p233_0)))))
          obtain ⟨cq259, kq259, q259a, q259b, q259c⟩ := isOf hZ233 e257 c260
          obtain ⟨_, _, ⟨T259, L259, k259, n259⟩, -, X259, ⟨Lc259, hQ259, l259, y259, z259⟩, st259⟩ := X257.virtualBack hx (y := (⟨"com/example/ebbtide/ebbtide/core/Encoder", "toByteArray", "()[B"⟩ : MethodName)) (z := (⟨"com/example/ebbtide/ebbtide/core/Encoder", "toByteArray", "()[B"⟩ : MethodName)) hown233 (mvT hZ233 (hw _ (List.mem_of_getElem? (i := 55) rfl))) (mvT hZ233 (hw _ (List.mem_of_getElem? (i := 56) rfl))) (notFace_of_selects (args := #[]) (mvT hZ233 (hw _ (List.mem_of_getElem? (i := 58) rfl)))) (mvT hZ233 (hw _ (List.mem_of_getElem? (i := 58) rfl))) (mvT hZ233 (hw _ (List.mem_of_getElem? (i := 57) rfl))) (by decide) (backOf (W := 0) (rm8_512_309 l Z a0 hw [] ob131 b_233 k2_233 (((own_cp ((((own_hd cd).set 6 (Value.int (((((vv.toInt64) &&& (127 : Int64)) ||| (128 : Int64)).toInt32).toInt8.toInt32))).set 7 (Value.int (((((((vv.toInt64).toUInt64 >>> ((7 : Int32) &&& 0x3f).toInt64.toUInt64).toInt64) &&& (127 : Int64)) ||| (128 : Int64)).toInt32).toInt8.toInt32))).set 8 (Value.int (((((((vv.toInt64).toUInt64 >>> ((7 : Int32) &&& 0x3f).toInt64.toUInt64).toInt64).toUInt64 >>> ((7 : Int32) &&& 0x3f).toInt64.toUInt64).toInt64).toInt32).toInt8.toInt32))) 256 ++ List.replicate 256 (Value.int (0 : Int32)))).take (9 : Int32).toNatClampNeg ++ ((List.range (300 : Int32).toNatClampNeg).map fun i => ((((List.replicate 300 (Value.int (0 : Int32))).set 0 (Value.int (p3.toInt8.toInt32))).set 299 (Value.int ((p3 >>> ((8 : Int32) &&& 31)).toInt8.toInt32)))).getD ((0 : Int32).toNatClampNeg + i) (Value.int (0 : Int32))) ++ ((own_cp ((((own_hd cd).set 6 (Value.int (((((vv.toInt64) &&& (127 : Int64)) ||| (128 : Int64)).toInt32).toInt8.toInt32))).set 7 (Value.int (((((((vv.toInt64).toUInt64 >>> ((7 : Int32) &&& 0x3f).toInt64.toUInt64).toInt64) &&& (127 : Int64)) ||| (128 : Int64)).toInt32).toInt8.toInt32))).set 8 (Value.int (((((((vv.toInt64).toUInt64 >>> ((7 : Int32) &&& 0x3f).toInt64.toUInt64).toInt64).toUInt64 >>> ((7 : Int32) &&& 0x3f).toInt64.toUInt64).toInt64).toInt32).toInt8.toInt32))) 256 ++ List.replicate 256 (Value.int (0 : Int32)))).drop ((9 : Int32).toNatClampNeg + (300 : Int32).toNatClampNeg)) h257 n0 O258 c260 c261 c262 c263) hZ233 (hw _ (List.mem_of_getElem? (i := 59) rfl)) (hw _ (List.mem_of_getElem? (i := 8) rfl)) (by decide) (by decide)) q259a q259c (g := (mkF m 416 #[sI p1, sI p2, sI p3, sI p4, sI sel, sR aK, sI cd, sI vv, sI (1 : Int32), sR ob122, sR ob131, sR b_137, sR b_237, sI (3 : Int32), .val (Value.int (((vv &&& (127 : Int32)) ||| (128 : Int32)).toInt8.toInt32)), .val (Value.int (((((vv.toUInt32 >>> ((7 : Int32) &&& 31).toUInt32).toInt32) &&& (127 : Int32)) ||| (128 : Int32)).toInt8.toInt32)), .val (Value.int (((vv.toUInt32 >>> ((14 : Int32) &&& 31).toUInt32).toInt32).toInt8.toInt32)), sI (309 : Int32), sI (9 : Int32)] [(Value.ref ob131)])) rfl (by rw [hml]; rfl) (Steps.refl _) (argsL := []) (rest := []) (lenOf own_pd9 rfl) rfl (by show 2 * 0 + _ ≤ _; exact Nat.le_of_eq rfl) (hb hby at_416) (fun _ _ => ⟨rfl, e257, (by decide : 10 + 1 ≤ _), (by decide : 1493 + 309 ≤ _)⟩)
          dsimp only [Pt.U, Pt.locs, Pt.cells, Pt.slots] at X259 l259 y259 z259 st259 hQ259
          subst l259 y259 z259
          refine own_Go.by (fun tq kq => st259.trans kq) ?_
          obtain ⟨b_259, k2_259, rfl, N259q, K259q, p259_0, p259_1⟩ := hQ259
          have N259 := Fr.app N257 N259q
          have O264 := O258.keep K259q all0
          have K264 := K258.trans K259q all0
          have hk_264 := Nat.le_trans hk_258 K259q.1
          have g265 : n0 ≤ b_259 := Nat.le_trans (own_old_le O258) p259_0
          have z265 : h0.size ≤ b_259 := Nat.le_trans K258.1 p259_0
          refine own_Go.by (fun tq kq => XS.astore X259.here hx rfl (hb hby at_419) rfl rfl (l' := #[sI p1, sI p2, sI p3, sI p4, sI sel, sR aK, sI cd, sI vv, sI (1 : Int32), sR ob122, sR ob131, sR b_137, sR b_237, sI (3 : Int32), .val (Value.int (((vv &&& (127 : Int32)) ||| (128 : Int32)).toInt8.toInt32)), .val (Value.int (((((vv.toUInt32 >>> ((7 : Int32) &&& 31).toUInt32).toInt32) &&& (127 : Int32)) ||| (128 : Int32)).toInt8.toInt32)), .val (Value.int (((vv.toUInt32 >>> ((14 : Int32) &&& 31).toUInt32).toInt32).toInt8.toInt32)), sI (309 : Int32), sR b_259]) rfl kq) ?_
          refine own_Go.by (fun tq kq => XS.aload X259.here hx rfl (hb hby at_421) rfl rfl kq) ?_
          show own_Go _ _ _ _ (T259.setTop (mkF m 423 #[sI p1, sI p2, sI p3, sI p4, sI sel, sR aK, sI cd, sI vv, sI (1 : Int32), sR ob122, sR ob131, sR b_137, sR b_237, sI (3 : Int32), .val (Value.int (((vv &&& (127 : Int32)) ||| (128 : Int32)).toInt8.toInt32)), .val (Value.int (((((vv.toUInt32 >>> ((7 : Int32) &&& 31).toUInt32).toInt32) &&& (127 : Int32)) ||| (128 : Int32)).toInt8.toInt32)), .val (Value.int (((vv.toUInt32 >>> ((14 : Int32) &&& 31).toUInt32).toInt32).toInt8.toInt32)), sI (309 : Int32), sR b_259] [(Value.ref b_259)]))
          obtain ⟨cl266, Ar266, q266, S266, M266, Hh266, G266⟩ := id p259_1
          refine own_Go.by (fun tq kq => X259.arraylength hx Ar266.1 (State.isArrayOf_alike hZ233.alike Ar266.2.1) (g := (mkF m 423 #[sI p1, sI p2, sI p3, sI p4, sI sel, sR aK, sI cd, sI vv, sI (1 : Int32), sR ob122, sR ob131, sR b_137, sR b_237, sI (3 : Int32), .val (Value.int (((vv &&& (127 : Int32)) ||| (128 : Int32)).toInt8.toInt32)), .val (Value.int (((((vv.toUInt32 >>> ((7 : Int32) &&& 31).toUInt32).toInt32) &&& (127 : Int32)) ||| (128 : Int32)).toInt8.toInt32)), .val (Value.int (((vv.toUInt32 >>> ((14 : Int32) &&& 31).toUInt32).toInt32).toInt8.toInt32)), sI (309 : Int32), sR b_259] [(Value.ref b_259)])) rfl rfl (hb hby at_423) _ kq) ?_
          rw [len_of S266 M266]
          refine own_Go.by (fun tq kq => XS.iload X259.here hx rfl (hb hby at_424) rfl kq) ?_
          show own_Go _ _ _ _ (T259.setTop (mkF m 426 #[sI p1, sI p2, sI p3, sI p4, sI sel, sR aK, sI cd, sI vv, sI (1 : Int32), sR ob122, sR ob131, sR b_137, sR b_237, sI (3 : Int32), .val (Value.int (((vv &&& (127 : Int32)) ||| (128 : Int32)).toInt8.toInt32)), .val (Value.int (((((vv.toUInt32 >>> ((7 : Int32) &&& 31).toUInt32).toInt32) &&& (127 : Int32)) ||| (128 : Int32)).toInt8.toInt32)), .val (Value.int (((vv.toUInt32 >>> ((14 : Int32) &&& 31).toUInt32).toInt32).toInt8.toInt32)), sI (309 : Int32), sR b_259] [(Value.int (309 : Int32)), (Value.int (309 : Int32))]))
          refine own_Go.by (fun tq kq => XS.icmpNo X259.here hx rfl (hb hby at_426) rfl (teq (by decide : (309 : Int32) = (309 : Int32))).2 kq) ?_
          refine own_Go.by (fun tq kq => XS.aload X259.here hx rfl (hb hby at_429) rfl rfl kq) ?_
          refine own_Go.by (fun tq kq => XS.iload X259.here hx rfl (hb hby at_431) rfl kq) ?_
          show own_Go _ _ _ _ (T259.setTop (mkF m 433 #[sI p1, sI p2, sI p3, sI p4, sI sel, sR aK, sI cd, sI vv, sI (1 : Int32), sR ob122, sR ob131, sR b_137, sR b_237, sI (3 : Int32), .val (Value.int (((vv &&& (127 : Int32)) ||| (128 : Int32)).toInt8.toInt32)), .val (Value.int (((((vv.toUInt32 >>> ((7 : Int32) &&& 31).toUInt32).toInt32) &&& (127 : Int32)) ||| (128 : Int32)).toInt8.toInt32)), .val (Value.int (((vv.toUInt32 >>> ((14 : Int32) &&& 31).toUInt32).toInt32).toInt8.toInt32)), sI (309 : Int32), sR b_259] [(Value.int cd), (Value.ref b_259)]))
          obtain ⟨_, _, ⟨T267, L267, k267, n267⟩, -, X267, ⟨Lc267, hQ267, l267, y267, z267⟩, st267⟩ := Jvm.LawKit.callS X259 hx (y := (⟨"com/example/ebbtide/ebbtide/core/EncoderToByteArrayPinLaw", "header", "([BI)Z"⟩ : MethodName)) hown233 (mvT hZ233 (hw _ (List.mem_of_getElem? (i := 72) rfl))) (mvT hZ233 (hw _ (List.mem_of_getElem? (i := 73) rfl))) (mvT hZ233 (hw _ (List.mem_of_getElem? (i := 74) rfl))) (mvT hZ233 (hw _ (List.mem_of_getElem? (i := 75) rfl))) (by decide) (backOf (W := 0) (rm11 l Z a0 hw [] b_259 k2_259 (309 : Int32) (own_cp (((own_cp ((((own_hd cd).set 6 (Value.int (((((vv.toInt64) &&& (127 : Int64)) ||| (128 : Int64)).toInt32).toInt8.toInt32))).set 7 (Value.int (((((((vv.toInt64).toUInt64 >>> ((7 : Int32) &&& 0x3f).toInt64.toUInt64).toInt64) &&& (127 : Int64)) ||| (128 : Int64)).toInt32).toInt8.toInt32))).set 8 (Value.int (((((((vv.toInt64).toUInt64 >>> ((7 : Int32) &&& 0x3f).toInt64.toUInt64).toInt64).toUInt64 >>> ((7 : Int32) &&& 0x3f).toInt64.toUInt64).toInt64).toInt32).toInt8.toInt32))) 256 ++ List.replicate 256 (Value.int (0 : Int32)))).take (9 : Int32).toNatClampNeg ++ ((List.range (300 : Int32).toNatClampNeg).map fun i => ((((List.replicate 300 (Value.int (0 : Int32))).set 0 (Value.int (p3.toInt8.toInt32))).set 299 (Value.int ((p3 >>> ((8 : Int32) &&& 31)).toInt8.toInt32)))).getD ((0 : Int32).toNatClampNeg + i) (Value.int (0 : Int32))) ++ ((own_cp ((((own_hd cd).set 6 (Value.int (((((vv.toInt64) &&& (127 : Int64)) ||| (128 : Int64)).toInt32).toInt8.toInt32))).set 7 (Value.int (((((((vv.toInt64).toUInt64 >>> ((7 : Int32) &&& 0x3f).toInt64.toUInt64).toInt64) &&& (127 : Int64)) ||| (128 : Int64)).toInt32).toInt8.toInt32))).set 8 (Value.int (((((((vv.toInt64).toUInt64 >>> ((7 : Int32) &&& 0x3f).toInt64.toUInt64).toInt64).toUInt64 >>> ((7 : Int32) &&& 0x3f).toInt64.toUInt64).toInt64).toInt32).toInt8.toInt32))) 256 ++ List.replicate 256 (Value.int (0 : Int32)))).drop ((9 : Int32).toNatClampNeg + (300 : Int32).toNatClampNeg)) 309) cd T259.heap n0 O264 p259_1 (by decide : ¬ ((309 : Int32) < (6 : Int32))) (by decide : ¬ ((0 : Int32) < (0 : Int32)) ∧ (0 : Int32) < (309 : Int32)) (by decide : ¬ ((1 : Int32) < (0 : Int32)) ∧ (1 : Int32) < (309 : Int32)) (by decide : ¬ ((2 : Int32) < (0 : Int32)) ∧ (2 : Int32) < (309 : Int32)) (by decide : ¬ ((3 : Int32) < (0 : Int32)) ∧ (3 : Int32) < (309 : Int32)) (by decide : ¬ ((4 : Int32) < (0 : Int32)) ∧ (4 : Int32) < (309 : Int32)) (by decide : ¬ ((5 : Int32) < (0 : Int32)) ∧ (5 : Int32) < (309 : Int32)) (rfl : (own_cp (((own_cp ((((own_hd cd).set 6 (Value.int (((((vv.toInt64) &&& (127 : Int64)) ||| (128 : Int64)).toInt32).toInt8.toInt32))).set 7 (Value.int (((((((vv.toInt64).toUInt64 >>> ((7 : Int32) &&& 0x3f).toInt64.toUInt64).toInt64) &&& (127 : Int64)) ||| (128 : Int64)).toInt32).toInt8.toInt32))).set 8 (Value.int (((((((vv.toInt64).toUInt64 >>> ((7 : Int32) &&& 0x3f).toInt64.toUInt64).toInt64).toUInt64 >>> ((7 : Int32) &&& 0x3f).toInt64.toUInt64).toInt64).toInt32).toInt8.toInt32))) 256 ++ List.replicate 256 (Value.int (0 : Int32)))).take (9 : Int32).toNatClampNeg ++ ((List.range (300 : Int32).toNatClampNeg).map fun i => ((((List.replicate 300 (Value.int (0 : Int32))).set 0 (Value.int (p3.toInt8.toInt32))).set 299 (Value.int ((p3 >>> ((8 : Int32) &&& 31)).toInt8.toInt32)))).getD ((0 : Int32).toNatClampNeg + i) (Value.int (0 : Int32))) ++ ((own_cp ((((own_hd cd).set 6 (Value.int (((((vv.toInt64) &&& (127 : Int64)) ||| (128 : Int64)).toInt32).toInt8.toInt32))).set 7 (Value.int (((((((vv.toInt64).toUInt64 >>> ((7 : Int32) &&& 0x3f).toInt64.toUInt64).toInt64) &&& (127 : Int64)) ||| (128 : Int64)).toInt32).toInt8.toInt32))).set 8 (Value.int (((((((vv.toInt64).toUInt64 >>> ((7 : Int32) &&& 0x3f).toInt64.toUInt64).toInt64).toUInt64 >>> ((7 : Int32) &&& 0x3f).toInt64.toUInt64).toInt64).toInt32).toInt8.toInt32))) 256 ++ List.replicate 256 (Value.int (0 : Int32)))).drop ((9 : Int32).toNatClampNeg + (300 : Int32).toNatClampNeg)) 309).getD (0 : Int32).toNatClampNeg (Value.int (0 : Int32)) = (Value.int (69 : Int32))) (rfl : (own_cp (((own_cp ((((own_hd cd).set 6 (Value.int (((((vv.toInt64) &&& (127 : Int64)) ||| (128 : Int64)).toInt32).toInt8.toInt32))).set 7 (Value.int (((((((vv.toInt64).toUInt64 >>> ((7 : Int32) &&& 0x3f).toInt64.toUInt64).toInt64) &&& (127 : Int64)) ||| (128 : Int64)).toInt32).toInt8.toInt32))).set 8 (Value.int (((((((vv.toInt64).toUInt64 >>> ((7 : Int32) &&& 0x3f).toInt64.toUInt64).toInt64).toUInt64 >>> ((7 : Int32) &&& 0x3f).toInt64.toUInt64).toInt64).toInt32).toInt8.toInt32))) 256 ++ List.replicate 256 (Value.int (0 : Int32)))).take (9 : Int32).toNatClampNeg ++ ((List.range (300 : Int32).toNatClampNeg).map fun i => ((((List.replicate 300 (Value.int (0 : Int32))).set 0 (Value.int (p3.toInt8.toInt32))).set 299 (Value.int ((p3 >>> ((8 : Int32) &&& 31)).toInt8.toInt32)))).getD ((0 : Int32).toNatClampNeg + i) (Value.int (0 : Int32))) ++ ((own_cp ((((own_hd cd).set 6 (Value.int (((((vv.toInt64) &&& (127 : Int64)) ||| (128 : Int64)).toInt32).toInt8.toInt32))).set 7 (Value.int (((((((vv.toInt64).toUInt64 >>> ((7 : Int32) &&& 0x3f).toInt64.toUInt64).toInt64) &&& (127 : Int64)) ||| (128 : Int64)).toInt32).toInt8.toInt32))).set 8 (Value.int (((((((vv.toInt64).toUInt64 >>> ((7 : Int32) &&& 0x3f).toInt64.toUInt64).toInt64).toUInt64 >>> ((7 : Int32) &&& 0x3f).toInt64.toUInt64).toInt64).toInt32).toInt8.toInt32))) 256 ++ List.replicate 256 (Value.int (0 : Int32)))).drop ((9 : Int32).toNatClampNeg + (300 : Int32).toNatClampNeg)) 309).getD (1 : Int32).toNatClampNeg (Value.int (0 : Int32)) = (Value.int (66 : Int32))) (rfl : (own_cp (((own_cp ((((own_hd cd).set 6 (Value.int (((((vv.toInt64) &&& (127 : Int64)) ||| (128 : Int64)).toInt32).toInt8.toInt32))).set 7 (Value.int (((((((vv.toInt64).toUInt64 >>> ((7 : Int32) &&& 0x3f).toInt64.toUInt64).toInt64) &&& (127 : Int64)) ||| (128 : Int64)).toInt32).toInt8.toInt32))).set 8 (Value.int (((((((vv.toInt64).toUInt64 >>> ((7 : Int32) &&& 0x3f).toInt64.toUInt64).toInt64).toUInt64 >>> ((7 : Int32) &&& 0x3f).toInt64.toUInt64).toInt64).toInt32).toInt8.toInt32))) 256 ++ List.replicate 256 (Value.int (0 : Int32)))).take (9 : Int32).toNatClampNeg ++ ((List.range (300 : Int32).toNatClampNeg).map fun i => ((((List.replicate 300 (Value.int (0 : Int32))).set 0 (Value.int (p3.toInt8.toInt32))).set 299 (Value.int ((p3 >>> ((8 : Int32) &&& 31)).toInt8.toInt32)))).getD ((0 : Int32).toNatClampNeg + i) (Value.int (0 : Int32))) ++ ((own_cp ((((own_hd cd).set 6 (Value.int (((((vv.toInt64) &&& (127 : Int64)) ||| (128 : Int64)).toInt32).toInt8.toInt32))).set 7 (Value.int (((((((vv.toInt64).toUInt64 >>> ((7 : Int32) &&& 0x3f).toInt64.toUInt64).toInt64) &&& (127 : Int64)) ||| (128 : Int64)).toInt32).toInt8.toInt32))).set 8 (Value.int (((((((vv.toInt64).toUInt64 >>> ((7 : Int32) &&& 0x3f).toInt64.toUInt64).toInt64).toUInt64 >>> ((7 : Int32) &&& 0x3f).toInt64.toUInt64).toInt64).toInt32).toInt8.toInt32))) 256 ++ List.replicate 256 (Value.int (0 : Int32)))).drop ((9 : Int32).toNatClampNeg + (300 : Int32).toNatClampNeg)) 309).getD (2 : Int32).toNatClampNeg (Value.int (0 : Int32)) = (Value.int (66 : Int32))) (rfl : (own_cp (((own_cp ((((own_hd cd).set 6 (Value.int (((((vv.toInt64) &&& (127 : Int64)) ||| (128 : Int64)).toInt32).toInt8.toInt32))).set 7 (Value.int (((((((vv.toInt64).toUInt64 >>> ((7 : Int32) &&& 0x3f).toInt64.toUInt64).toInt64) &&& (127 : Int64)) ||| (128 : Int64)).toInt32).toInt8.toInt32))).set 8 (Value.int (((((((vv.toInt64).toUInt64 >>> ((7 : Int32) &&& 0x3f).toInt64.toUInt64).toInt64).toUInt64 >>> ((7 : Int32) &&& 0x3f).toInt64.toUInt64).toInt64).toInt32).toInt8.toInt32))) 256 ++ List.replicate 256 (Value.int (0 : Int32)))).take (9 : Int32).toNatClampNeg ++ ((List.range (300 : Int32).toNatClampNeg).map fun i => ((((List.replicate 300 (Value.int (0 : Int32))).set 0 (Value.int (p3.toInt8.toInt32))).set 299 (Value.int ((p3 >>> ((8 : Int32) &&& 31)).toInt8.toInt32)))).getD ((0 : Int32).toNatClampNeg + i) (Value.int (0 : Int32))) ++ ((own_cp ((((own_hd cd).set 6 (Value.int (((((vv.toInt64) &&& (127 : Int64)) ||| (128 : Int64)).toInt32).toInt8.toInt32))).set 7 (Value.int (((((((vv.toInt64).toUInt64 >>> ((7 : Int32) &&& 0x3f).toInt64.toUInt64).toInt64) &&& (127 : Int64)) ||| (128 : Int64)).toInt32).toInt8.toInt32))).set 8 (Value.int (((((((vv.toInt64).toUInt64 >>> ((7 : Int32) &&& 0x3f).toInt64.toUInt64).toInt64).toUInt64 >>> ((7 : Int32) &&& 0x3f).toInt64.toUInt64).toInt64).toInt32).toInt8.toInt32))) 256 ++ List.replicate 256 (Value.int (0 : Int32)))).drop ((9 : Int32).toNatClampNeg + (300 : Int32).toNatClampNeg)) 309).getD (3 : Int32).toNatClampNeg (Value.int (0 : Int32)) = (Value.int (84 : Int32))) (rfl : (own_cp (((own_cp ((((own_hd cd).set 6 (Value.int (((((vv.toInt64) &&& (127 : Int64)) ||| (128 : Int64)).toInt32).toInt8.toInt32))).set 7 (Value.int (((((((vv.toInt64).toUInt64 >>> ((7 : Int32) &&& 0x3f).toInt64.toUInt64).toInt64) &&& (127 : Int64)) ||| (128 : Int64)).toInt32).toInt8.toInt32))).set 8 (Value.int (((((((vv.toInt64).toUInt64 >>> ((7 : Int32) &&& 0x3f).toInt64.toUInt64).toInt64).toUInt64 >>> ((7 : Int32) &&& 0x3f).toInt64.toUInt64).toInt64).toInt32).toInt8.toInt32))) 256 ++ List.replicate 256 (Value.int (0 : Int32)))).take (9 : Int32).toNatClampNeg ++ ((List.range (300 : Int32).toNatClampNeg).map fun i => ((((List.replicate 300 (Value.int (0 : Int32))).set 0 (Value.int (p3.toInt8.toInt32))).set 299 (Value.int ((p3 >>> ((8 : Int32) &&& 31)).toInt8.toInt32)))).getD ((0 : Int32).toNatClampNeg + i) (Value.int (0 : Int32))) ++ ((own_cp ((((own_hd cd).set 6 (Value.int (((((vv.toInt64) &&& (127 : Int64)) ||| (128 : Int64)).toInt32).toInt8.toInt32))).set 7 (Value.int (((((((vv.toInt64).toUInt64 >>> ((7 : Int32) &&& 0x3f).toInt64.toUInt64).toInt64) &&& (127 : Int64)) ||| (128 : Int64)).toInt32).toInt8.toInt32))).set 8 (Value.int (((((((vv.toInt64).toUInt64 >>> ((7 : Int32) &&& 0x3f).toInt64.toUInt64).toInt64).toUInt64 >>> ((7 : Int32) &&& 0x3f).toInt64.toUInt64).toInt64).toInt32).toInt8.toInt32))) 256 ++ List.replicate 256 (Value.int (0 : Int32)))).drop ((9 : Int32).toNatClampNeg + (300 : Int32).toNatClampNeg)) 309).getD (4 : Int32).toNatClampNeg (Value.int (0 : Int32)) = (Value.int (3 : Int32))) (rfl : (own_cp (((own_cp ((((own_hd cd).set 6 (Value.int (((((vv.toInt64) &&& (127 : Int64)) ||| (128 : Int64)).toInt32).toInt8.toInt32))).set 7 (Value.int (((((((vv.toInt64).toUInt64 >>> ((7 : Int32) &&& 0x3f).toInt64.toUInt64).toInt64) &&& (127 : Int64)) ||| (128 : Int64)).toInt32).toInt8.toInt32))).set 8 (Value.int (((((((vv.toInt64).toUInt64 >>> ((7 : Int32) &&& 0x3f).toInt64.toUInt64).toInt64).toUInt64 >>> ((7 : Int32) &&& 0x3f).toInt64.toUInt64).toInt64).toInt32).toInt8.toInt32))) 256 ++ List.replicate 256 (Value.int (0 : Int32)))).take (9 : Int32).toNatClampNeg ++ ((List.range (300 : Int32).toNatClampNeg).map fun i => ((((List.replicate 300 (Value.int (0 : Int32))).set 0 (Value.int (p3.toInt8.toInt32))).set 299 (Value.int ((p3 >>> ((8 : Int32) &&& 31)).toInt8.toInt32)))).getD ((0 : Int32).toNatClampNeg + i) (Value.int (0 : Int32))) ++ ((own_cp ((((own_hd cd).set 6 (Value.int (((((vv.toInt64) &&& (127 : Int64)) ||| (128 : Int64)).toInt32).toInt8.toInt32))).set 7 (Value.int (((((((vv.toInt64).toUInt64 >>> ((7 : Int32) &&& 0x3f).toInt64.toUInt64).toInt64) &&& (127 : Int64)) ||| (128 : Int64)).toInt32).toInt8.toInt32))).set 8 (Value.int (((((((vv.toInt64).toUInt64 >>> ((7 : Int32) &&& 0x3f).toInt64.toUInt64).toInt64).toUInt64 >>> ((7 : Int32) &&& 0x3f).toInt64.toUInt64).toInt64).toInt32).toInt8.toInt32))) 256 ++ List.replicate 256 (Value.int (0 : Int32)))).drop ((9 : Int32).toNatClampNeg + (300 : Int32).toNatClampNeg)) 309).getD (5 : Int32).toNatClampNeg (Value.int (0 : Int32)) = (Value.int cd))) hZ233 (hw _ (List.mem_of_getElem? (i := 75) rfl)) (hw _ (List.mem_of_getElem? (i := 74) rfl)) (by decide) (by decide)) (g := (mkF m 433 #[sI p1, sI p2, sI p3, sI p4, sI sel, sR aK, sI cd, sI vv, sI (1 : Int32), sR ob122, sR ob131, sR b_137, sR b_237, sI (3 : Int32), .val (Value.int (((vv &&& (127 : Int32)) ||| (128 : Int32)).toInt8.toInt32)), .val (Value.int (((((vv.toUInt32 >>> ((7 : Int32) &&& 31).toUInt32).toInt32) &&& (127 : Int32)) ||| (128 : Int32)).toInt8.toInt32)), .val (Value.int (((vv.toUInt32 >>> ((14 : Int32) &&& 31).toUInt32).toInt32).toInt8.toInt32)), sI (309 : Int32), sR b_259] [(Value.int cd), (Value.ref b_259)])) rfl (by rw [hml]; rfl) (argsL := [(Value.ref b_259), (Value.int cd)]) (rest := []) (lenOf own_pd10 rfl) rfl (by show 2 * 0 + _ ≤ _; exact Nat.le_of_eq rfl) (hb hby at_433) (fun _ _ => ⟨rfl, rfl, (by decide : 11 + 0 ≤ _), (by decide : 1802 + 0 ≤ _)⟩)
          dsimp only [Pt.U, Pt.locs, Pt.cells, Pt.slots] at X267 l267 y267 z267 st267 hQ267
          subst l267 y267 z267
          refine own_Go.by st267 ?_
          obtain ⟨rfl, N267q, e267⟩ := hQ267
          have N267 := Fr.app N259 N267q
          show own_Go _ _ _ _ (T267.setTop (mkF m 436 #[sI p1, sI p2, sI p3, sI p4, sI sel, sR aK, sI cd, sI vv, sI (1 : Int32), sR ob122, sR ob131, sR b_137, sR b_237, sI (3 : Int32), .val (Value.int (((vv &&& (127 : Int32)) ||| (128 : Int32)).toInt8.toInt32)), .val (Value.int (((((vv.toUInt32 >>> ((7 : Int32) &&& 31).toUInt32).toInt32) &&& (127 : Int32)) ||| (128 : Int32)).toInt8.toInt32)), .val (Value.int (((vv.toUInt32 >>> ((14 : Int32) &&& 31).toUInt32).toInt32).toInt8.toInt32)), sI (309 : Int32), sR b_259] [(Value.int (1 : Int32))]))
          refine own_Go.by (fun tq kq => XS.ifNo X267.here hx rfl (hb hby at_436) rfl ((if0 _ _).trans (feq (by decide : ¬ ((1 : Int32) = (0 : Int32)))).1) kq) ?_
          refine own_Go.by (fun tq kq => XS.aload X267.here hx rfl (hb hby at_439) rfl rfl kq) ?_
          refine own_Go.by (fun tq kq => XS.bipush X267.here hx rfl (hb hby at_441) kq) ?_
          show own_Go _ _ _ _ (T267.setTop (mkF m 443 #[sI p1, sI p2, sI p3, sI p4, sI sel, sR aK, sI cd, sI vv, sI (1 : Int32), sR ob122, sR ob131, sR b_137, sR b_237, sI (3 : Int32), .val (Value.int (((vv &&& (127 : Int32)) ||| (128 : Int32)).toInt8.toInt32)), .val (Value.int (((((vv.toUInt32 >>> ((7 : Int32) &&& 31).toUInt32).toInt32) &&& (127 : Int32)) ||| (128 : Int32)).toInt8.toInt32)), .val (Value.int (((vv.toUInt32 >>> ((14 : Int32) &&& 31).toUInt32).toInt32).toInt8.toInt32)), sI (309 : Int32), sR b_259] [(Value.int (6 : Int32)), (Value.ref b_259)]))
          obtain ⟨cl268, Ar268, q268, S268, M268, Hh268, G268⟩ := id p259_1
          refine own_Go.by (fun tq kq => X267.baloadBytes hx (j := (6 : Int32)) (v := (Value.int (((((vv.toInt64) &&& (127 : Int64)) ||| (128 : Int64)).toInt32).toInt8.toInt32))) (by rw [e267]; exact Ar268.1) (State.isArrayOf_alike hZ233.alike Ar268.2.1) Ar268.2.2 (inb_of S268 (by decide : ¬ ((6 : Int32) < (0 : Int32)) ∧ (6 : Int32) < (309 : Int32))) (Has.at Hh268 (inb_of S268 (by decide : ¬ ((6 : Int32) < (0 : Int32)) ∧ (6 : Int32) < (309 : Int32))) rfl) (g := (mkF m 443 #[sI p1, sI p2, sI p3, sI p4, sI sel, sR aK, sI cd, sI vv, sI (1 : Int32), sR ob122, sR ob131, sR b_137, sR b_237, sI (3 : Int32), .val (Value.int (((vv &&& (127 : Int32)) ||| (128 : Int32)).toInt8.toInt32)), .val (Value.int (((((vv.toUInt32 >>> ((7 : Int32) &&& 31).toUInt32).toInt32) &&& (127 : Int32)) ||| (128 : Int32)).toInt8.toInt32)), .val (Value.int (((vv.toUInt32 >>> ((14 : Int32) &&& 31).toUInt32).toInt32).toInt8.toInt32)), sI (309 : Int32), sR b_259] [(Value.int (6 : Int32)), (Value.ref b_259)])) rfl rfl (hb hby at_443) _ kq) ?_
          refine own_Go.by (fun tq kq => XS.iload X267.here hx rfl (hb hby at_444) rfl kq) ?_
          show own_Go _ _ _ _ (T267.setTop (mkF m 446 #[sI p1, sI p2, sI p3, sI p4, sI sel, sR aK, sI cd, sI vv, sI (1 : Int32), sR ob122, sR ob131, sR b_137, sR b_237, sI (3 : Int32), .val (Value.int (((vv &&& (127 : Int32)) ||| (128 : Int32)).toInt8.toInt32)), .val (Value.int (((((vv.toUInt32 >>> ((7 : Int32) &&& 31).toUInt32).toInt32) &&& (127 : Int32)) ||| (128 : Int32)).toInt8.toInt32)), .val (Value.int (((vv.toUInt32 >>> ((14 : Int32) &&& 31).toUInt32).toInt32).toInt8.toInt32)), sI (309 : Int32), sR b_259] [(Value.int (((vv &&& (127 : Int32)) ||| (128 : Int32)).toInt8.toInt32)), (Value.int (((((vv.toInt64) &&& (127 : Int64)) ||| (128 : Int64)).toInt32).toInt8.toInt32))]))
          refine own_Go.by (fun tq kq => XS.icmpNo X267.here hx rfl (hb hby at_446) rfl (teq (own_lo (own_e64 vv) : (((((vv.toInt64) &&& (127 : Int64)) ||| (128 : Int64)).toInt32).toInt8.toInt32) = (((vv &&& (127 : Int32)) ||| (128 : Int32)).toInt8.toInt32))).2 kq) ?_
          refine own_Go.by (fun tq kq => XS.aload X267.here hx rfl (hb hby at_449) rfl rfl kq) ?_
          show own_Go _ _ _ _ (T267.setTop (mkF m 451 #[sI p1, sI p2, sI p3, sI p4, sI sel, sR aK, sI cd, sI vv, sI (1 : Int32), sR ob122, sR ob131, sR b_137, sR b_237, sI (3 : Int32), .val (Value.int (((vv &&& (127 : Int32)) ||| (128 : Int32)).toInt8.toInt32)), .val (Value.int (((((vv.toUInt32 >>> ((7 : Int32) &&& 31).toUInt32).toInt32) &&& (127 : Int32)) ||| (128 : Int32)).toInt8.toInt32)), .val (Value.int (((vv.toUInt32 >>> ((14 : Int32) &&& 31).toUInt32).toInt32).toInt8.toInt32)), sI (309 : Int32), sR b_259] [(Value.ref b_137)]))
          have c269 := (V257.keep K259q nin0)
          obtain ⟨cl270, Ar270, q270, S270, M270, Hh270, G270⟩ := id c269
          refine own_Go.by (fun tq kq => X267.arraylength hx (by rw [e267]; exact Ar270.1) (State.isArrayOf_alike hZ233.alike Ar270.2.1) (g := (mkF m 451 #[sI p1, sI p2, sI p3, sI p4, sI sel, sR aK, sI cd, sI vv, sI (1 : Int32), sR ob122, sR ob131, sR b_137, sR b_237, sI (3 : Int32), .val (Value.int (((vv &&& (127 : Int32)) ||| (128 : Int32)).toInt8.toInt32)), .val (Value.int (((((vv.toUInt32 >>> ((7 : Int32) &&& 31).toUInt32).toInt32) &&& (127 : Int32)) ||| (128 : Int32)).toInt8.toInt32)), .val (Value.int (((vv.toUInt32 >>> ((14 : Int32) &&& 31).toUInt32).toInt32).toInt8.toInt32)), sI (309 : Int32), sR b_259] [(Value.ref b_137)])) rfl rfl (hb hby at_451) _ kq) ?_
          rw [len_of S270 M270]
          refine own_Go.by (fun tq kq => XS.bipush X267.here hx rfl (hb hby at_452) kq) ?_
          show own_Go _ _ _ _ (T267.setTop (mkF m 454 #[sI p1, sI p2, sI p3, sI p4, sI sel, sR aK, sI cd, sI vv, sI (1 : Int32), sR ob122, sR ob131, sR b_137, sR b_237, sI (3 : Int32), .val (Value.int (((vv &&& (127 : Int32)) ||| (128 : Int32)).toInt8.toInt32)), .val (Value.int (((((vv.toUInt32 >>> ((7 : Int32) &&& 31).toUInt32).toInt32) &&& (127 : Int32)) ||| (128 : Int32)).toInt8.toInt32)), .val (Value.int (((vv.toUInt32 >>> ((14 : Int32) &&& 31).toUInt32).toInt32).toInt8.toInt32)), sI (309 : Int32), sR b_259] [(Value.int (6 : Int32)), (Value.int (6 : Int32))]))
          refine own_Go.by (fun tq kq => XS.icmpNo X267.here hx rfl (hb hby at_454) rfl (teq (by decide : (6 : Int32) = (6 : Int32))).2 kq) ?_
          refine own_Go.by (fun tq kq => XS.iconst X267.here hx rfl (hb hby at_457) kq) ?_
          refine own_Go.by (fun tq kq => XS.goto X267.here hx rfl (pc0 := 458) (pc' := 462) rfl (hb hby at_458) (by decide) (by decide) kq) ?_
          show own_Go _ _ _ _ (T267.setTop (mkF m 462 #[sI p1, sI p2, sI p3, sI p4, sI sel, sR aK, sI cd, sI vv, sI (1 : Int32), sR ob122, sR ob131, sR b_137, sR b_237, sI (3 : Int32), .val (Value.int (((vv &&& (127 : Int32)) ||| (128 : Int32)).toInt8.toInt32)), .val (Value.int (((((vv.toUInt32 >>> ((7 : Int32) &&& 31).toUInt32).toInt32) &&& (127 : Int32)) ||| (128 : Int32)).toInt8.toInt32)), .val (Value.int (((vv.toUInt32 >>> ((14 : Int32) &&& 31).toUInt32).toInt32).toInt8.toInt32)), sI (309 : Int32), sR b_259] [(Value.int (1 : Int32))]))
          obtain ⟨fs, hr, hrun, hended, hRE⟩ := Stand.leaveW (s := s) (vm₁ := T233.vm) X267 hS233 (by rw [e267]; exact hk_264) (v := some (Value.int (nar .boolean (1 : Int32)))) (fun h => by rw [Bd.returns] at h; cases h)
          refine own_Go.fin (retN X267 hx (t := .boolean) Bd.returns (by simp) (hb hby at_462) hr) ⟨hrun, hended, _, _, rfl, ?_, own_rew hRE (by decide) (by decide)⟩
          show Q0 Z p1 p2 p3 p4 aW aD aF aM kM h0 n0 _ T267.heap _
          rw [e267]
          exact ⟨rfl, N267, K264⟩
  ·
    intro g_aK_cd
    refine own_Go.by (fun tq kq => XS.iload X0.here hx rfl (hb hby at_8) rfl kq) ?_
    show own_Go _ _ _ _ (s₁.setTop (mkF m 10 #[sI p1, sI p2, sI p3, sI p4, sI sel, .unset, .unset, .unset, .unset, .unset, .unset, .unset, .unset, .unset, .unset, .unset, .unset, .unset, .unset] [(Value.int sel)]))
    by_cases hc10_271 : sel = (0 : Int32)
    ·
      refine own_Go.by (fun tq kq => XS.ifNo X0.here hx rfl (hb hby at_10) rfl ((if0 _ _).trans (teq hc10_271).2) kq) ?_
      show own_Go _ _ _ _ (s₁.setTop (mkF m 13 #[sI p1, sI p2, sI p3, sI p4, sI sel, .unset, .unset, .unset, .unset, .unset, .unset, .unset, .unset, .unset, .unset, .unset, .unset, .unset, .unset] []))
      obtain ⟨T272, X272, e272, st272⟩ := getS2 X0 hx hZ hown (host := "") (Or.inl (hw _ (List.mem_of_getElem? (i := 1) rfl))) Via.refl e0 (H0.ext O0.2) (g := (mkF m 13 #[sI p1, sI p2, sI p3, sI p4, sI sel, .unset, .unset, .unset, .unset, .unset, .unset, .unset, .unset, .unset, .unset, .unset, .unset, .unset, .unset] [])) rfl (hb hby at_13)
      refine own_Go.by st272 ?_
      refine own_Go.by (fun tq kq => XS.astore X272.here hx rfl (hb hby at_16) rfl rfl (l' := #[sI p1, sI p2, sI p3, sI p4, sI sel, sR aW, .unset, .unset, .unset, .unset, .unset, .unset, .unset, .unset, .unset, .unset, .unset, .unset, .unset]) rfl kq) ?_
      refine own_Go.by (fun tq kq => XS.iconst X272.here hx rfl (hb hby at_18) kq) ?_
      refine own_Go.by (fun tq kq => XS.istore X272.here hx rfl (hb hby at_19) rfl (l' := #[sI p1, sI p2, sI p3, sI p4, sI sel, sR aW, sI (1 : Int32), .unset, .unset, .unset, .unset, .unset, .unset, .unset, .unset, .unset, .unset, .unset, .unset]) rfl kq) ?_
      show own_Go _ _ _ _ (T272.setTop (mkF m 21 #[sI p1, sI p2, sI p3, sI p4, sI sel, sR aW, sI (1 : Int32), .unset, .unset, .unset, .unset, .unset, .unset, .unset, .unset, .unset, .unset, .unset, .unset] []))
      refine own_Go.by (fun tq kq => XS.goto X272.here hx rfl (pc0 := 21) (pc' := 49) rfl (hb hby at_21) (by decide) (by decide) kq) ?_
      exact g_aK_cd (T272, aW, (1 : Int32)) ⟨X272, e272, (Or.inl ⟨rfl, rfl⟩)⟩
    ·
      refine own_Go.by (fun tq kq => XS.ifYes X0.here hx rfl (pc0 := 10) (pc' := 24) rfl (hb hby at_10) rfl ((if0 _ _).trans (feq hc10_271).2) (by decide) (by decide) kq) ?_
      refine own_Go.by (fun tq kq => XS.iload X0.here hx rfl (hb hby at_24) rfl kq) ?_
      refine own_Go.by (fun tq kq => XS.iconst X0.here hx rfl (hb hby at_26) kq) ?_
      show own_Go _ _ _ _ (s₁.setTop (mkF m 27 #[sI p1, sI p2, sI p3, sI p4, sI sel, .unset, .unset, .unset, .unset, .unset, .unset, .unset, .unset, .unset, .unset, .unset, .unset, .unset, .unset] [(Value.int (1 : Int32)), (Value.int sel)]))
      by_cases hc27_273 : sel = (1 : Int32)
      ·
        refine own_Go.by (fun tq kq => XS.icmpNo X0.here hx rfl (hb hby at_27) rfl (teq hc27_273).2 kq) ?_
        show own_Go _ _ _ _ (s₁.setTop (mkF m 30 #[sI p1, sI p2, sI p3, sI p4, sI sel, .unset, .unset, .unset, .unset, .unset, .unset, .unset, .unset, .unset, .unset, .unset, .unset, .unset, .unset] []))
        obtain ⟨T274, X274, e274, st274⟩ := getS2 X0 hx hZ hown (host := "") (Or.inl (hw _ (List.mem_of_getElem? (i := 91) rfl))) Via.refl e0 (H1.ext O0.2) (g := (mkF m 30 #[sI p1, sI p2, sI p3, sI p4, sI sel, .unset, .unset, .unset, .unset, .unset, .unset, .unset, .unset, .unset, .unset, .unset, .unset, .unset, .unset] [])) rfl (hb hby at_30)
        refine own_Go.by st274 ?_
        refine own_Go.by (fun tq kq => XS.astore X274.here hx rfl (hb hby at_33) rfl rfl (l' := #[sI p1, sI p2, sI p3, sI p4, sI sel, sR aD, .unset, .unset, .unset, .unset, .unset, .unset, .unset, .unset, .unset, .unset, .unset, .unset, .unset]) rfl kq) ?_
        refine own_Go.by (fun tq kq => XS.iconst X274.here hx rfl (hb hby at_35) kq) ?_
        refine own_Go.by (fun tq kq => XS.istore X274.here hx rfl (hb hby at_36) rfl (l' := #[sI p1, sI p2, sI p3, sI p4, sI sel, sR aD, sI (2 : Int32), .unset, .unset, .unset, .unset, .unset, .unset, .unset, .unset, .unset, .unset, .unset, .unset]) rfl kq) ?_
        show own_Go _ _ _ _ (T274.setTop (mkF m 38 #[sI p1, sI p2, sI p3, sI p4, sI sel, sR aD, sI (2 : Int32), .unset, .unset, .unset, .unset, .unset, .unset, .unset, .unset, .unset, .unset, .unset, .unset] []))
        refine own_Go.by (fun tq kq => XS.goto X274.here hx rfl (pc0 := 38) (pc' := 49) rfl (hb hby at_38) (by decide) (by decide) kq) ?_
        exact g_aK_cd (T274, aD, (2 : Int32)) ⟨X274, e274, (Or.inr (Or.inl ⟨rfl, rfl⟩))⟩
      ·
        refine own_Go.by (fun tq kq => XS.icmpYes X0.here hx rfl (pc0 := 27) (pc' := 41) rfl (hb hby at_27) rfl (feq hc27_273).2 (by decide) (by decide) kq) ?_
        show own_Go _ _ _ _ (s₁.setTop (mkF m 41 #[sI p1, sI p2, sI p3, sI p4, sI sel, .unset, .unset, .unset, .unset, .unset, .unset, .unset, .unset, .unset, .unset, .unset, .unset, .unset, .unset] []))
        obtain ⟨T275, X275, e275, st275⟩ := getS2 X0 hx hZ hown (host := "") (Or.inl (hw _ (List.mem_of_getElem? (i := 95) rfl))) Via.refl e0 (H2.ext O0.2) (g := (mkF m 41 #[sI p1, sI p2, sI p3, sI p4, sI sel, .unset, .unset, .unset, .unset, .unset, .unset, .unset, .unset, .unset, .unset, .unset, .unset, .unset, .unset] [])) rfl (hb hby at_41)
        refine own_Go.by st275 ?_
        refine own_Go.by (fun tq kq => XS.astore X275.here hx rfl (hb hby at_44) rfl rfl (l' := #[sI p1, sI p2, sI p3, sI p4, sI sel, sR aF, .unset, .unset, .unset, .unset, .unset, .unset, .unset, .unset, .unset, .unset, .unset, .unset, .unset]) rfl kq) ?_
        refine own_Go.by (fun tq kq => XS.iconst X275.here hx rfl (hb hby at_46) kq) ?_
        refine own_Go.by (fun tq kq => XS.istore X275.here hx rfl (hb hby at_47) rfl (l' := #[sI p1, sI p2, sI p3, sI p4, sI sel, sR aF, sI (3 : Int32), .unset, .unset, .unset, .unset, .unset, .unset, .unset, .unset, .unset, .unset, .unset, .unset]) rfl kq) ?_
        exact g_aK_cd (T275, aF, (3 : Int32)) ⟨X275, e275, (Or.inr (Or.inr ⟨rfl, rfl⟩))⟩

theorem own_len4 {args : Array Value} {s : State} {t : Term} {a : Addr} {cl : Cell} (ht : t.eval args s none [] s = some (.ref a)) (ha : s.arrayAt? a = some cl) (h : (Jvm.Cond.eq (Term.length t) (Term.int (4 : Int32))).value args s none s [] = some true) : cl.slots.size < 2 ^ 31 ∧ cl.slots.size.toInt32 = (4 : Int32) := by
  by_cases q : cl.slots.size < 2 ^ 31
  · exact ⟨q, gotT (Cond.eq_ints (len_f ht ha q) rfl) h⟩
  · exfalso
    simp [Cond.value, Term.eval, ht, ha, q] at h

set_option maxRecDepth 65536 in
set_option maxHeartbeats 40000000 in
theorem comes_1 {Post : Tables → Env → Array Value → State → Outcome → State → Prop} (hpost : ∀ tb e args s v u, (limb_1_1.after args s (.returned v) u = true ∧ limb_1_2.after args s (.returned v) u = true ∧ True) → ReturnedEndW s (.returned v) u (Jvm.fieldLocs frame_1_writes args s ++ Jvm.arrayLocs frame_1_arrays args s ++ Jvm.staticLocs frame_1_statics s) 32 5568 → Post tb e args s (.returned v) u) :
    ArmFor flags0 classFile x code maxLocals ret World_1 tables_1 room_1 Calls_1 rest_1 Pre_1 Post := by
  intro l hfl _ _ p e ha hc hk s m args below hf hA hF happ hP
  obtain ⟨hcalls, hrest, hpre⟩ := hP
  obtain ⟨-, -, -, hnamed, -, -, -, hat⟩ := (Spec.applies_iff hf).mp happ
  obtain ⟨hg, hn⟩ := and_e (Cond.before_iff.mp (show (Jvm.Cond.and given_1 narrow_1).before args s = true from hpre))
  obtain ⟨hcount, hg⟩ := and_e hg
  obtain ⟨hg0, hg⟩ := and_e hg
  obtain ⟨hg1, hg⟩ := and_e hg
  obtain ⟨hg2, hg⟩ := and_e hg
  have hg3 := hg
  obtain ⟨w0, w1, w2, w3, rfl⟩ : ∃ w0 w1 w2 w3 : Value, args = #[w0, w1, w2, w3] := by
    have hs : args.size = 4 := by simpa [Cond.value, given_1] using hcount
    obtain ⟨L⟩ := args
    match L, hs with
    | [w0, w1, w2, w3], _ => exact ⟨w0, w1, w2, w3, rfl⟩
  have hw := fun d (hd : d ∈ tables_1) => atoms_spec (ws := Jvm.Cond.code x code maxLocals ret :: tables_1) hat d (List.mem_cons_of_mem _ hd)
  have hfit : Fit s := fun {y c} hc i hi => by
    obtain ⟨ha, rfl⟩ := Array.getElem?_eq_some_iff.mp hc
    have q := List.all_eq_true.mp ((Array.all_eq_true_iff_forall_mem.mp hF) _ (Array.getElem_mem ha)) i (List.mem_range.mpr hi)
    simpa [Array.getElem?_eq_getElem hi] using q
  obtain ⟨i0, ei0⟩ := is_v hg0
  obtain rfl : w0 = (.int i0) := Option.some.inj ei0
  obtain ⟨i1, ei1⟩ := is_v hg1
  obtain rfl : w1 = (.int i1) := Option.some.inj ei1
  obtain ⟨i2, ei2⟩ := is_v hg2
  obtain rfl : w2 = (.int i2) := Option.some.inj ei2
  obtain ⟨i3, ei3⟩ := is_v hg3
  obtain rfl : w3 = (.int i3) := Option.some.inj ei3
  obtain ⟨hW, hn⟩ := and_e hn
  obtain ⟨hMa, hn⟩ := and_e hn
  obtain ⟨hMl, hn⟩ := and_e hn
  obtain ⟨hM0, hn⟩ := and_e hn
  obtain ⟨hM1, hn⟩ := and_e hn
  obtain ⟨hM2, hn⟩ := and_e hn
  obtain ⟨hM3, hn⟩ := and_e hn
  obtain ⟨hWc, hn⟩ := and_e hn
  obtain ⟨hD, hn⟩ := and_e hn
  obtain ⟨hDc, hn⟩ := and_e hn
  obtain ⟨hF, hFc⟩ := and_e hn
  obtain ⟨aW, eW⟩ := exa_v hW
  have SW := Sta.start eW (Or.inr ⟨(hw _ (List.mem_of_getElem? (i := 2) rfl)), (hw _ (List.mem_of_getElem? (i := 3) rfl))⟩)
  have EW := Exa.start eW hW
  have FW := own_fldInt eW hWc
  obtain ⟨aD, eD⟩ := exa_v hD
  have SD := Sta.start eD (Or.inr ⟨(hw _ (List.mem_of_getElem? (i := 2) rfl)), (hw _ (List.mem_of_getElem? (i := 92) rfl))⟩)
  have ED := Exa.start eD hD
  have FD := own_fldInt eD hDc
  obtain ⟨aF, eF⟩ := exa_v hF
  have SF := Sta.start eF (Or.inr ⟨(hw _ (List.mem_of_getElem? (i := 2) rfl)), (hw _ (List.mem_of_getElem? (i := 96) rfl))⟩)
  have EF := Exa.start eF hF
  have FF := own_fldInt eF hFc
  obtain ⟨aM, eM⟩ := arr_v hMa
  have SM := Sta.start eM (Or.inr ⟨(hw _ (List.mem_of_getElem? (i := 8) rfl)), (hw _ (List.mem_of_getElem? (i := 29) rfl))⟩)
  obtain ⟨clM, ArM⟩ := Arr.start eM hMa
  obtain ⟨hMs, hMz⟩ := own_len4 eM (ArM.fin (Vm.Alike.refl _)) hMl
  have VM : Arv s s.heap aM clM.cls .byte (4 : Int32) [(.int (69 : Int32)), (.int (66 : Int32)), (.int (66 : Int32)), (.int (84 : Int32))] (.int (0 : Int32)) := Arv.start hfit ArM hMs hMz (by decide) rfl ⟨own_el eM ArM.1 hM0, own_el eM ArM.1 hM1, own_el eM ArM.1 hM2, own_el eM ArM.1 hM3, trivial⟩
  obtain ⟨n, o, h1, h2, h3, _, L, rfl, ⟨rfl, N, -⟩, hq⟩ := rm0 l s _ hw tables_1 i0 i1 i2 i3 aW aD aF aM clM.cls s.heap s.heap.size (Old.start s) SW SD SF EW ED EF FW FD FF SM VM p e ha hc hk s m _ below hf ((Spec.applies_iff_loose hf).mp happ).1 ⟨rfl, State.Warmed39.refl s, rfl⟩ trivial
  refine ⟨n, _, h1, h2, h3, hpost _ _ _ _ _ _ ⟨Cond.after_iff.mpr rfl, Cond.after_iff.mpr (eq_i res_at (Term.int_eval (1)) rfl), trivial⟩ ⟨hq.1, hq.2.1, hq.2.2.1, (hq.2.2.2.sift fun y hy => Or.inr (N y hy)).mono (by decide) (by decide)⟩⟩
theorem main_1_1 : Claimed_1_1 := comes_1 fun _ _ _ _ _ _ h hF => ⟨h.1, hF⟩
theorem main_1_2 : Claimed_1_2 := comes_1 fun _ _ _ _ _ _ h hF => ⟨h.2.1, hF⟩
end Jvm.Pilot.@@N@@
namespace Jvm.Pilot.@@N@@
open Jvm Jvm.ClassFile Sem Op Lib Jvm.Free Jvm.Stand Jvm.Pilot.@@N@@.Jvm.D
/-! MADE BY PROGRAM (witnessworld.py) out of the Statement's table words and the real class files: 20 classes; the members and pool entries that the words name. The judged class is class 1, her method 1. -/
namespace start1
open Jvm.ClassFile
def u (s : String) : CpInfo := .utf8 (stringToUtf16 s)
/-- a pool by its gaps: so many unusable entries, then the entry; so many at the end -/
def gap : Nat → List CpInfo → List CpInfo
  | 0, r => r
  | n + 1, r => .unusable :: gap n r
def poolList (es : List (Nat × CpInfo)) (last : Nat) : List CpInfo := es.foldr (fun e r => gap e.1 (e.2 :: r)) (gap last [])
def pool (es : List (Nat × CpInfo)) (last : Nat) : Array CpInfo := ⟨poolList es last⟩
def fileOf (pool : Array CpInfo) (this : Nat) (attrs : Array Attribute := #[]) (ms : Array MethodInfo := #[]) (fl : Nat := 33) (sup : Nat := 0) (ifs : Array Nat := #[]) (fds : Array FieldInfo := #[]) : ClassFile where
  minorVersion := 0
  majorVersion := 65
  constantPool := pool
  accessFlags := fl
  thisClass := this
  superClass := sup
  interfaces := ifs
  fields := fds
  methods := ms
  attributes := attrs
def plain (name : String) (sup : Option ClassId) : Class where
  name := name
  kind := .ordinary
  loader := none
  accessFlags := 33
  super := sup
  interfaces := #[]
  cf := none
  fields := #[]
  methods := #[]
  instanceTypes := #[]
  staticTypes := #[]
  resolved := #[]
  callSites := []
  init := .initialized
  statics := none
  mirror := none

def pool0 : Array CpInfo := pool [(5, u "<init>"), (0, u "()V"), (1, .class_ 10), (1, u "java/lang/Object")] 113

def k0c0 : Code := { maxStack := 0, maxLocals := 1, code := object_method_1_code, exceptionTable := #[], attributes := #[] }
def k0m0 : Method := { name := "<init>", desc := "()V", sig := { parameters := [], returnType := none }, accessFlags := 1, code := some k0c0 }
/-- java/lang/Object -/
def k0 : Class := { plain "java/lang/Object" none with
  accessFlags := 33
  interfaces := #[]
  cf := some (fileOf pool0 8 #[] #[{ accessFlags := 1, nameIndex := 5, descriptorIndex := 6, attributes := #[] }] 33 0 #[] #[])
  fields := #[]
  methods := #[k0m0]
  instanceTypes := #[]
  staticTypes := #[]
  resolved := Array.replicate 124 none
  statics := none }

def pool1 : Array CpInfo := pool [(2, .class_ 4), (1, u "java/lang/Object"), (0, u "<init>"), (0, u "()V"), (0, .integer 2147483647), (0, .fieldref 9 10), (0, .class_ 11), (0, .nameAndType 12 13), (0, u "com/example/ebbtide/ebbtide/core/SummaryKind"), (0, u "WINDOW"), (0, u "Lcom/example/ebbtide/ebbtide/core/SummaryKind;"), (0, .fieldref 9 15), (0, .nameAndType 16 13), (0, u "DISTINCT"), (0, .fieldref 9 18), (0, .nameAndType 19 13), (0, u "FILTER"), (0, .integer 2097151), (0, .class_ 22), (0, u "com/example/ebbtide/ebbtide/core/Encoder"), (0, .methodref 21 24), (0, .nameAndType 5 25), (0, u "(Lcom/example/ebbtide/ebbtide/core/SummaryKind;)V"), (0, .methodref 21 27), (0, .nameAndType 28 29), (0, u "toByteArray"), (0, u "()[B"), (0, .methodref 31 32), (0, .class_ 33), (0, .nameAndType 34 35), (0, u "com/example/ebbtide/ebbtide/core/EncoderToByteArrayPinLaw"), (0, u "header"), (0, u "([BI)Z"), (0, .methodref 21 37), (0, .nameAndType 38 39), (0, u "unsigned"), (0, u "(J)V"), (0, .methodref 21 41), (0, .nameAndType 42 43), (0, u "bytes"), (0, u "([B)V"), (2, u "law"), (0, u "(IIII)Z")] 5

def k1m0 : Method := { name := "<init>", desc := "()V", sig := { parameters := [], returnType := none }, accessFlags := 2, code := none }
def k1c1 : Code := { maxStack := 4, maxLocals := 19, code := code, exceptionTable := #[], attributes := #[] }
def k1m1 : Method := { name := "law", desc := "(IIII)Z", sig := { parameters := [.int, .int, .int, .int], returnType := some .boolean }, accessFlags := 9, code := some k1c1 }
def k1c2 : Code := { maxStack := 2, maxLocals := 2, code := method_3_code, exceptionTable := #[], attributes := #[] }
def k1m2 : Method := { name := "header", desc := "([BI)Z", sig := { parameters := [(.array .byte), .int], returnType := some .boolean }, accessFlags := 10, code := some k1c2 }
/-- com/example/ebbtide/ebbtide/core/EncoderToByteArrayPinLaw -/
def k1 : Class := { plain "com/example/ebbtide/ebbtide/core/EncoderToByteArrayPinLaw" (some 0) with
  accessFlags := 49
  interfaces := #[]
  cf := some (fileOf pool1 31 #[] #[{ accessFlags := 2, nameIndex := 5, descriptorIndex := 6, attributes := #[] }, { accessFlags := 9, nameIndex := 46, descriptorIndex := 47, attributes := #[] }, { accessFlags := 10, nameIndex := 34, descriptorIndex := 35, attributes := #[] }] 49 2 #[] #[])
  fields := #[]
  methods := #[k1m0, k1m1, k1m2]
  instanceTypes := #[]
  staticTypes := #[]
  resolved := Array.replicate 53 none
  statics := none }

def pool2 : Array CpInfo := pool [(1, .class_ 2), (0, u "java/lang/constant/Constable"), (0, .class_ 4), (0, u "java/lang/Object")] 6

/-- java/lang/constant/Constable -/
def k2 : Class := { plain "java/lang/constant/Constable" (some 0) with
  accessFlags := 1537
  interfaces := #[]
  cf := some (fileOf pool2 1 #[] #[] 1537 3 #[] #[])
  fields := #[]
  methods := #[]
  instanceTypes := #[]
  staticTypes := #[]
  resolved := Array.replicate 11 none
  statics := none }

def pool3 : Array CpInfo := pool [(1, .class_ 2), (0, u "java/lang/Comparable"), (0, .class_ 4), (0, u "java/lang/Object")] 7

/-- java/lang/Comparable -/
def k3 : Class := { plain "java/lang/Comparable" (some 0) with
  accessFlags := 1537
  interfaces := #[]
  cf := some (fileOf pool3 1 #[] #[] 1537 3 #[] #[])
  fields := #[]
  methods := #[]
  instanceTypes := #[]
  staticTypes := #[]
  resolved := Array.replicate 12 none
  statics := none }

def pool4 : Array CpInfo := pool [(1, .class_ 2), (0, u "java/io/Serializable"), (0, .class_ 4), (0, u "java/lang/Object")] 2

/-- java/io/Serializable -/
def k4 : Class := { plain "java/io/Serializable" (some 0) with
  accessFlags := 1537
  interfaces := #[]
  cf := some (fileOf pool4 1 #[] #[] 1537 3 #[] #[])
  fields := #[]
  methods := #[]
  instanceTypes := #[]
  staticTypes := #[]
  resolved := Array.replicate 7 none
  statics := none }

def pool5 : Array CpInfo := pool [(2, .class_ 4), (1, u "java/lang/Enum"), (0, u "name"), (0, u "Ljava/lang/String;"), (2, u "ordinal"), (0, u "I"), (1, .class_ 14), (1, u "java/lang/Object"), (4, u "hash"), (86, .class_ 108), (1, u "java/lang/Enum$EnumDesc"), (2, .class_ 112), (0, u "java/lang/constant/Constable"), (0, .class_ 114), (0, u "java/lang/Comparable"), (0, .class_ 116), (0, u "java/io/Serializable")] 87

/-- java/lang/Enum -/
def k5 : Class := { plain "java/lang/Enum" (some 0) with
  accessFlags := 1057
  interfaces := #[2, 3, 4]
  cf := some (fileOf pool5 2 #[.nestMembers #[106]] #[] 1057 12 #[111, 113, 115] #[{ accessFlags := 18, nameIndex := 5, descriptorIndex := 6, attributes := #[] }, { accessFlags := 18, nameIndex := 9, descriptorIndex := 10, attributes := #[] }, { accessFlags := 2, nameIndex := 19, descriptorIndex := 10, attributes := #[] }])
  fields := #[{ name := "name", type := (.object "java/lang/String"), accessFlags := 18, slot := 0, constantValue := 0 }, { name := "ordinal", type := .int, accessFlags := 18, slot := 1, constantValue := 0 }, { name := "hash", type := .int, accessFlags := 2, slot := 2, constantValue := 0 }]
  methods := #[]
  instanceTypes := #[(.object "java/lang/String"), .int, .int]
  staticTypes := #[]
  resolved := Array.replicate 204 none
  statics := none }

def pool6 : Array CpInfo := pool [(1, .class_ 2), (0, u "com/example/ebbtide/ebbtide/core/SummaryKind"), (2, u "WINDOW"), (0, u "Lcom/example/ebbtide/ebbtide/core/SummaryKind;"), (2, u "DISTINCT"), (2, u "FILTER"), (2, u "$VALUES"), (0, u "[Lcom/example/ebbtide/ebbtide/core/SummaryKind;"), (6, .class_ 25), (1, u "java/lang/Enum"), (6, .fieldref 1 33), (0, .nameAndType 34 35), (0, u "code"), (0, u "I"), (2, u "word"), (0, u "Ljava/lang/String;"), (44, u "()I")] 33

def k6c0 : Code := { maxStack := 1, maxLocals := 1, code := prog_26_method_4_code, exceptionTable := #[], attributes := #[] }
def k6m0 : Method := { name := "code", desc := "()I", sig := { parameters := [], returnType := some .int }, accessFlags := 1, code := some k6c0 }
/-- com/example/ebbtide/ebbtide/core/SummaryKind -/
def k6 : Class := { plain "com/example/ebbtide/ebbtide/core/SummaryKind" (some 5) with
  accessFlags := 16433
  interfaces := #[]
  cf := some (fileOf pool6 1 #[] #[{ accessFlags := 1, nameIndex := 34, descriptorIndex := 84, attributes := #[] }] 16433 23 #[] #[{ accessFlags := 16409, nameIndex := 5, descriptorIndex := 6, attributes := #[] }, { accessFlags := 16409, nameIndex := 9, descriptorIndex := 6, attributes := #[] }, { accessFlags := 16409, nameIndex := 12, descriptorIndex := 6, attributes := #[] }, { accessFlags := 18, nameIndex := 34, descriptorIndex := 35, attributes := #[] }, { accessFlags := 18, nameIndex := 38, descriptorIndex := 39, attributes := #[] }, { accessFlags := 4122, nameIndex := 15, descriptorIndex := 16, attributes := #[] }])
  fields := #[{ name := "WINDOW", type := (.object "com/example/ebbtide/ebbtide/core/SummaryKind"), accessFlags := 16409, slot := 0, constantValue := 0 }, { name := "DISTINCT", type := (.object "com/example/ebbtide/ebbtide/core/SummaryKind"), accessFlags := 16409, slot := 1, constantValue := 0 }, { name := "FILTER", type := (.object "com/example/ebbtide/ebbtide/core/SummaryKind"), accessFlags := 16409, slot := 2, constantValue := 0 }, { name := "code", type := .int, accessFlags := 18, slot := 3, constantValue := 0 }, { name := "word", type := (.object "java/lang/String"), accessFlags := 18, slot := 4, constantValue := 0 }, { name := "$VALUES", type := (.array (.object "com/example/ebbtide/ebbtide/core/SummaryKind")), accessFlags := 4122, slot := 3, constantValue := 0 }]
  methods := #[k6m0]
  instanceTypes := #[(.object "java/lang/String"), .int, .int, .int, (.object "java/lang/String")]
  staticTypes := #[(.object "com/example/ebbtide/ebbtide/core/SummaryKind"), (.object "com/example/ebbtide/ebbtide/core/SummaryKind"), (.object "com/example/ebbtide/ebbtide/core/SummaryKind"), (.array (.object "com/example/ebbtide/ebbtide/core/SummaryKind"))]
  resolved := Array.replicate 118 none
  statics := some 0 }

def pool7 : Array CpInfo := pool [(3, .methodref 4 5), (0, .class_ 6), (0, .nameAndType 7 8), (0, u "java/lang/Object"), (0, u "<init>"), (0, u "()V"), (0, .fieldref 10 11), (0, .class_ 12), (0, .nameAndType 13 14), (0, u "com/example/ebbtide/ebbtide/core/Encoder"), (0, u "bytes"), (0, u "[B"), (0, .string 16), (0, u "kind is null"), (0, .methodref 18 19), (0, .class_ 20), (0, .nameAndType 21 22), (0, u "java/util/Objects"), (0, u "requireNonNull"), (0, u "(Ljava/lang/Object;Ljava/lang/String;)Ljava/lang/Object;"), (0, .fieldref 10 24), (0, .nameAndType 25 14), (0, u "MAGIC"), (0, .methodref 10 27), (0, .nameAndType 28 29), (0, u "put"), (0, u "(B)V"), (0, .long 3), (1, .methodref 10 33), (0, .nameAndType 34 35), (0, u "unsigned"), (0, u "(J)V"), (0, .methodref 37 38), (0, .class_ 39), (0, .nameAndType 40 41), (0, u "com/example/ebbtide/ebbtide/core/SummaryKind"), (0, u "code"), (0, u "()I"), (0, .long 18446744073709551488), (1, .long 127), (1, .long 128), (28, .methodref 10 76), (0, .nameAndType 77 78), (0, u "ensure"), (0, u "(I)V"), (0, .fieldref 10 80), (0, .nameAndType 81 82), (0, u "length"), (0, u "I"), (0, .methodref 84 85), (0, .class_ 86), (0, .nameAndType 87 88), (0, u "java/lang/System"), (0, u "arraycopy"), (0, u "(Ljava/lang/Object;ILjava/lang/Object;II)V"), (0, .string 90), (0, u "bytes is null"), (0, .methodref 92 93), (0, .class_ 94), (0, .nameAndType 95 96), (0, u "java/util/Arrays"), (0, u "copyOf"), (0, u "([BI)[B"), (0, .long 2147483639), (6, .long 2), (1, .methodref 107 108), (0, .class_ 109), (0, .nameAndType 110 111), (0, u "java/lang/Math"), (0, u "max"), (0, u "(JJ)J"), (0, .methodref 107 113), (0, .nameAndType 114 111), (0, u "min"), (0, u "FORMAT_VERSION"), (2, u "MAX_LENGTH"), (1, u "(Lcom/example/ebbtide/ebbtide/core/SummaryKind;)V"), (10, u "([B)V"), (0, u "toByteArray"), (0, u "()[B")] 18

def k7c0 : Code := { maxStack := 3, maxLocals := 6, code := prog_10_method_1_code, exceptionTable := #[], attributes := #[] }
def k7m0 : Method := { name := "<init>", desc := "(Lcom/example/ebbtide/ebbtide/core/SummaryKind;)V", sig := { parameters := [(.object "com/example/ebbtide/ebbtide/core/SummaryKind")], returnType := none }, accessFlags := 1, code := some k7c0 }
def k7c1 : Code := { maxStack := 5, maxLocals := 5, code := prog_10_method_2_code, exceptionTable := #[], attributes := #[] }
def k7m1 : Method := { name := "unsigned", desc := "(J)V", sig := { parameters := [.long], returnType := none }, accessFlags := 1, code := some k7c1 }
def k7c2 : Code := { maxStack := 5, maxLocals := 2, code := prog_10_method_7_code, exceptionTable := #[], attributes := #[] }
def k7m2 : Method := { name := "bytes", desc := "([B)V", sig := { parameters := [(.array .byte)], returnType := none }, accessFlags := 1, code := some k7c2 }
def k7c3 : Code := { maxStack := 2, maxLocals := 1, code := prog_10_method_8_code, exceptionTable := #[], attributes := #[] }
def k7m3 : Method := { name := "toByteArray", desc := "()[B", sig := { parameters := [], returnType := some (.array .byte) }, accessFlags := 1, code := some k7c3 }
def k7c4 : Code := { maxStack := 5, maxLocals := 2, code := prog_10_method_9_code, exceptionTable := #[], attributes := #[] }
def k7m4 : Method := { name := "put", desc := "(B)V", sig := { parameters := [.byte], returnType := none }, accessFlags := 2, code := some k7c4 }
def k7c5 : Code := { maxStack := 8, maxLocals := 4, code := prog_10_method_10_code, exceptionTable := #[], attributes := #[] }
def k7m5 : Method := { name := "ensure", desc := "(I)V", sig := { parameters := [.int], returnType := none }, accessFlags := 2, code := some k7c5 }
/-- com/example/ebbtide/ebbtide/core/Encoder -/
def k7 : Class := { plain "com/example/ebbtide/ebbtide/core/Encoder" (some 0) with
  accessFlags := 49
  interfaces := #[]
  cf := some (fileOf pool7 10 #[] #[{ accessFlags := 1, nameIndex := 7, descriptorIndex := 120, attributes := #[] }, { accessFlags := 1, nameIndex := 34, descriptorIndex := 35, attributes := #[] }, { accessFlags := 1, nameIndex := 13, descriptorIndex := 131, attributes := #[] }, { accessFlags := 1, nameIndex := 132, descriptorIndex := 133, attributes := #[] }, { accessFlags := 2, nameIndex := 28, descriptorIndex := 29, attributes := #[] }, { accessFlags := 2, nameIndex := 77, descriptorIndex := 78, attributes := #[] }] 49 4 #[] #[{ accessFlags := 24, nameIndex := 25, descriptorIndex := 14, attributes := #[] }, { accessFlags := 25, nameIndex := 115, descriptorIndex := 82, attributes := #[] }, { accessFlags := 26, nameIndex := 118, descriptorIndex := 82, attributes := #[] }, { accessFlags := 2, nameIndex := 13, descriptorIndex := 14, attributes := #[] }, { accessFlags := 2, nameIndex := 81, descriptorIndex := 82, attributes := #[] }])
  fields := #[{ name := "MAGIC", type := (.array .byte), accessFlags := 24, slot := 0, constantValue := 0 }, { name := "FORMAT_VERSION", type := .int, accessFlags := 25, slot := 1, constantValue := 0 }, { name := "MAX_LENGTH", type := .int, accessFlags := 26, slot := 2, constantValue := 0 }, { name := "bytes", type := (.array .byte), accessFlags := 2, slot := 0, constantValue := 0 }, { name := "length", type := .int, accessFlags := 2, slot := 1, constantValue := 0 }]
  methods := #[k7m0, k7m1, k7m2, k7m3, k7m4, k7m5]
  instanceTypes := #[(.array .byte), .int]
  staticTypes := #[(.array .byte), .int, .int]
  resolved := Array.replicate 152 none
  statics := some 1 }

def pool8 : Array CpInfo := pool [(2, .class_ 4), (1, u "java/lang/CharSequence"), (42, .class_ 48), (0, u "java/lang/CharSequence$1CodePointIterator"), (10, .class_ 60), (0, u "java/lang/CharSequence$1CharIterator"), (5, .class_ 67), (0, u "java/lang/Object")] 63

/-- java/lang/CharSequence -/
def k8 : Class := { plain "java/lang/CharSequence" (some 0) with
  accessFlags := 1537
  interfaces := #[]
  cf := some (fileOf pool8 2 #[.nestMembers #[47, 59]] #[] 1537 66 #[] #[])
  fields := #[]
  methods := #[]
  instanceTypes := #[]
  staticTypes := #[]
  resolved := Array.replicate 131 none
  statics := none }

def pool9 : Array CpInfo := pool [(1, .class_ 2), (0, u "java/lang/constant/ConstantDesc"), (0, .class_ 4), (0, u "java/lang/Object")] 32

/-- java/lang/constant/ConstantDesc -/
def k9 : Class := { plain "java/lang/constant/ConstantDesc" (some 0) with
  accessFlags := 1537
  interfaces := #[]
  cf := some (fileOf pool9 1 #[] #[] 1537 3 #[] #[])
  fields := #[]
  methods := #[]
  instanceTypes := #[]
  staticTypes := #[]
  resolved := Array.replicate 37 none
  statics := none }

def pool10 : Array CpInfo := pool [(2, .class_ 4), (1, u "java/lang/Object"), (0, u "<init>"), (0, u "()V"), (3, .class_ 12), (1, u "java/lang/String"), (0, u "value"), (0, u "[B"), (2, u "coder"), (0, u "B"), (2, u "hash"), (0, u "I"), (2, u "hashIsZero"), (0, u "Z"), (13, u "COMPACT_STRINGS"), (534, .class_ 576), (0, u "java/lang/CharSequence"), (22, u "CASE_INSENSITIVE_ORDER"), (0, u "Ljava/util/Comparator;"), (500, u "serialPersistentFields"), (0, u "[Ljava/io/ObjectStreamField;"), (0, .class_ 1104), (0, u "java/lang/String$CaseInsensitiveComparator"), (1, .class_ 1107), (0, u "java/io/Serializable"), (0, .class_ 1109), (0, u "java/lang/Comparable"), (0, .class_ 1111), (0, u "java/lang/constant/Constable"), (0, .class_ 1113), (0, u "java/lang/constant/ConstantDesc"), (2, u "serialVersionUID"), (0, u "J"), (3, u "REPL"), (0, u "C"), (2, u "LATIN1"), (1, u "UTF16")] 323

def k10m0 : Method := { name := "<init>", desc := "()V", sig := { parameters := [], returnType := none }, accessFlags := 1, code := none }
/-- java/lang/String -/
def k10 : Class := { plain "java/lang/String" (some 0) with
  accessFlags := 49
  interfaces := #[4, 3, 8, 2, 9]
  cf := some (fileOf pool10 10 #[.nestMembers #[1103]] #[{ accessFlags := 1, nameIndex := 5, descriptorIndex := 6, attributes := #[] }] 49 2 #[1106, 1108, 575, 1110, 1112] #[{ accessFlags := 18, nameIndex := 13, descriptorIndex := 14, attributes := #[] }, { accessFlags := 18, nameIndex := 17, descriptorIndex := 18, attributes := #[] }, { accessFlags := 2, nameIndex := 21, descriptorIndex := 22, attributes := #[] }, { accessFlags := 2, nameIndex := 25, descriptorIndex := 26, attributes := #[] }, { accessFlags := 26, nameIndex := 1116, descriptorIndex := 1117, attributes := #[] }, { accessFlags := 24, nameIndex := 40, descriptorIndex := 26, attributes := #[] }, { accessFlags := 26, nameIndex := 1101, descriptorIndex := 1102, attributes := #[] }, { accessFlags := 26, nameIndex := 1121, descriptorIndex := 1122, attributes := #[] }, { accessFlags := 25, nameIndex := 599, descriptorIndex := 600, attributes := #[] }, { accessFlags := 24, nameIndex := 1125, descriptorIndex := 18, attributes := #[] }, { accessFlags := 24, nameIndex := 1127, descriptorIndex := 18, attributes := #[] }])
  fields := #[{ name := "value", type := (.array .byte), accessFlags := 18, slot := 0, constantValue := 0 }, { name := "coder", type := .byte, accessFlags := 18, slot := 1, constantValue := 0 }, { name := "hash", type := .int, accessFlags := 2, slot := 2, constantValue := 0 }, { name := "hashIsZero", type := .boolean, accessFlags := 2, slot := 3, constantValue := 0 }, { name := "serialVersionUID", type := .long, accessFlags := 26, slot := 0, constantValue := 0 }, { name := "COMPACT_STRINGS", type := .boolean, accessFlags := 24, slot := 1, constantValue := 0 }, { name := "serialPersistentFields", type := (.array (.object "java/io/ObjectStreamField")), accessFlags := 26, slot := 2, constantValue := 0 }, { name := "REPL", type := .char, accessFlags := 26, slot := 3, constantValue := 0 }, { name := "CASE_INSENSITIVE_ORDER", type := (.object "java/util/Comparator"), accessFlags := 25, slot := 4, constantValue := 0 }, { name := "LATIN1", type := .byte, accessFlags := 24, slot := 5, constantValue := 0 }, { name := "UTF16", type := .byte, accessFlags := 24, slot := 6, constantValue := 0 }]
  methods := #[k10m0]
  instanceTypes := #[(.array .byte), .byte, .int, .boolean]
  staticTypes := #[.long, .boolean, (.array (.object "java/io/ObjectStreamField")), .char, (.object "java/util/Comparator"), .byte, .byte]
  resolved := Array.replicate 1451 none
  statics := none }

def pool11 : Array CpInfo := pool [(2, .class_ 4), (1, u "java/lang/Object"), (0, u "<init>"), (0, u "()V"), (35, .class_ 44), (1, u "java/util/Objects"), (0, u "requireNonNull"), (48, u "(Ljava/lang/Object;Ljava/lang/String;)Ljava/lang/Object;")] 89

def k11m0 : Method := { name := "<init>", desc := "()V", sig := { parameters := [], returnType := none }, accessFlags := 2, code := none }
def k11c1 : Code := { maxStack := 3, maxLocals := 2, code := jdk_31_method_11_code, exceptionTable := #[], attributes := #[] }
def k11m1 : Method := { name := "requireNonNull", desc := "(Ljava/lang/Object;Ljava/lang/String;)Ljava/lang/Object;", sig := { parameters := [(.object "java/lang/Object"), (.object "java/lang/String")], returnType := some (.object "java/lang/Object") }, accessFlags := 9, code := some k11c1 }
/-- java/util/Objects -/
def k11 : Class := { plain "java/util/Objects" (some 0) with
  accessFlags := 49
  interfaces := #[]
  cf := some (fileOf pool11 42 #[] #[{ accessFlags := 2, nameIndex := 5, descriptorIndex := 6, attributes := #[] }, { accessFlags := 9, nameIndex := 45, descriptorIndex := 94, attributes := #[] }] 49 2 #[] #[])
  fields := #[]
  methods := #[k11m0, k11m1]
  instanceTypes := #[]
  staticTypes := #[]
  resolved := Array.replicate 184 none
  statics := none }

def pool12 : Array CpInfo := pool [(2, .class_ 4), (1, u "java/lang/Object"), (0, u "<init>"), (0, u "()V"), (7, .class_ 16), (1, u "java/util/Arrays"), (57, .class_ 76), (1, u "java/util/Arrays$NaturalOrder"), (36, .class_ 115), (1, u "java/util/Arrays$LegacyMergeSort"), (1, u "Z"), (32, .methodref 151 152), (0, .class_ 153), (0, .nameAndType 154 155), (0, u "java/lang/System"), (0, u "arraycopy"), (0, u "(Ljava/lang/Object;ILjava/lang/Object;II)V"), (146, u "copyOf"), (1, .methodref 305 306), (0, .class_ 307), (0, .nameAndType 308 309), (0, u "java/lang/Math"), (0, u "min"), (0, u "(II)I"), (65, .class_ 376), (0, u "java/util/Arrays$ArrayList"), (68, u "$assertionsDisabled"), (269, u "MIN_ARRAY_SORT_GRAN"), (0, u "I"), (2, u "INSERTIONSORT_THRESHOLD"), (149, u "([BI)[B"), (105, .class_ 976), (0, u "java/util/Arrays$ArrayItr")] 52

def k12m0 : Method := { name := "<init>", desc := "()V", sig := { parameters := [], returnType := none }, accessFlags := 2, code := none }
def k12c1 : Code := { maxStack := 6, maxLocals := 3, code := jdk_65_method_121_code, exceptionTable := #[], attributes := #[] }
def k12m1 : Method := { name := "copyOf", desc := "([BI)[B", sig := { parameters := [(.array .byte), .int], returnType := some (.array .byte) }, accessFlags := 9, code := some k12c1 }
/-- java/util/Arrays -/
def k12 : Class := { plain "java/util/Arrays" (some 0) with
  accessFlags := 49
  interfaces := #[]
  cf := some (fileOf pool12 14 #[.nestMembers #[975, 375, 113, 74]] #[{ accessFlags := 2, nameIndex := 5, descriptorIndex := 6, attributes := #[] }, { accessFlags := 9, nameIndex := 302, descriptorIndex := 869, attributes := #[] }] 49 2 #[] #[{ accessFlags := 26, nameIndex := 715, descriptorIndex := 716, attributes := #[] }, { accessFlags := 26, nameIndex := 719, descriptorIndex := 716, attributes := #[] }, { accessFlags := 4120, nameIndex := 445, descriptorIndex := 117, attributes := #[] }])
  fields := #[{ name := "MIN_ARRAY_SORT_GRAN", type := .int, accessFlags := 26, slot := 0, constantValue := 0 }, { name := "INSERTIONSORT_THRESHOLD", type := .int, accessFlags := 26, slot := 1, constantValue := 0 }, { name := "$assertionsDisabled", type := .boolean, accessFlags := 4120, slot := 2, constantValue := 0 }]
  methods := #[k12m0, k12m1]
  instanceTypes := #[]
  staticTypes := #[.int, .int, .boolean]
  resolved := Array.replicate 1029 none
  statics := none }

def pool13 : Array CpInfo := pool [(1, .class_ 2), (0, u "java/lang/Math"), (1, .class_ 6), (1, u "java/lang/Object"), (0, u "<init>"), (0, u "()V"), (89, .class_ 100), (1, u "java/lang/Math$RandomNumberGeneratorHolder"), (20, u "(JJ)J"), (50, u "negativeZeroFloatBits"), (0, u "J"), (2, u "negativeZeroDoubleBits"), (21, u "max"), (2, u "min"), (43, u "$assertionsDisabled"), (0, u "Z"), (88, u "(II)I"), (2, u "twoToTheDoubleScaleDown"), (0, u "D"), (4, u "twoToTheDoubleScaleUp"), (9, u "E"), (3, u "PI"), (2, u "TAU"), (2, u "DEGREES_TO_RADIANS"), (0, u "RADIANS_TO_DEGREES")] 94

def k13m0 : Method := { name := "<init>", desc := "()V", sig := { parameters := [], returnType := none }, accessFlags := 2, code := none }
def k13c1 : Code := { maxStack := 4, maxLocals := 4, code := jdk_29_method_66_code, exceptionTable := #[], attributes := #[] }
def k13m1 : Method := { name := "max", desc := "(JJ)J", sig := { parameters := [.long, .long], returnType := some .long }, accessFlags := 9, code := some k13c1 }
def k13c2 : Code := { maxStack := 2, maxLocals := 2, code := jdk_29_method_69_code, exceptionTable := #[], attributes := #[] }
def k13m2 : Method := { name := "min", desc := "(II)I", sig := { parameters := [.int, .int], returnType := some .int }, accessFlags := 9, code := some k13c2 }
def k13c3 : Code := { maxStack := 4, maxLocals := 4, code := jdk_29_method_70_code, exceptionTable := #[], attributes := #[] }
def k13m3 : Method := { name := "min", desc := "(JJ)J", sig := { parameters := [.long, .long], returnType := some .long }, accessFlags := 9, code := some k13c3 }
/-- java/lang/Math -/
def k13 : Class := { plain "java/lang/Math" (some 0) with
  accessFlags := 49
  interfaces := #[]
  cf := some (fileOf pool13 1 #[.nestMembers #[98]] #[{ accessFlags := 2, nameIndex := 7, descriptorIndex := 8, attributes := #[] }, { accessFlags := 9, nameIndex := 198, descriptorIndex := 121, attributes := #[] }, { accessFlags := 9, nameIndex := 201, descriptorIndex := 335, attributes := #[] }, { accessFlags := 9, nameIndex := 201, descriptorIndex := 121, attributes := #[] }] 49 4 #[] #[{ accessFlags := 25, nameIndex := 354, descriptorIndex := 339, attributes := #[] }, { accessFlags := 25, nameIndex := 358, descriptorIndex := 339, attributes := #[] }, { accessFlags := 25, nameIndex := 361, descriptorIndex := 339, attributes := #[] }, { accessFlags := 26, nameIndex := 364, descriptorIndex := 339, attributes := #[] }, { accessFlags := 26, nameIndex := 365, descriptorIndex := 339, attributes := #[] }, { accessFlags := 26, nameIndex := 172, descriptorIndex := 173, attributes := #[] }, { accessFlags := 26, nameIndex := 176, descriptorIndex := 173, attributes := #[] }, { accessFlags := 8, nameIndex := 344, descriptorIndex := 339, attributes := #[] }, { accessFlags := 8, nameIndex := 338, descriptorIndex := 339, attributes := #[] }, { accessFlags := 4120, nameIndex := 245, descriptorIndex := 246, attributes := #[] }])
  fields := #[{ name := "E", type := .double, accessFlags := 25, slot := 0, constantValue := 0 }, { name := "PI", type := .double, accessFlags := 25, slot := 1, constantValue := 0 }, { name := "TAU", type := .double, accessFlags := 25, slot := 2, constantValue := 0 }, { name := "DEGREES_TO_RADIANS", type := .double, accessFlags := 26, slot := 3, constantValue := 0 }, { name := "RADIANS_TO_DEGREES", type := .double, accessFlags := 26, slot := 4, constantValue := 0 }, { name := "negativeZeroFloatBits", type := .long, accessFlags := 26, slot := 5, constantValue := 0 }, { name := "negativeZeroDoubleBits", type := .long, accessFlags := 26, slot := 6, constantValue := 0 }, { name := "twoToTheDoubleScaleUp", type := .double, accessFlags := 8, slot := 7, constantValue := 0 }, { name := "twoToTheDoubleScaleDown", type := .double, accessFlags := 8, slot := 8, constantValue := 0 }, { name := "$assertionsDisabled", type := .boolean, accessFlags := 4120, slot := 9, constantValue := 0 }]
  methods := #[k13m0, k13m1, k13m2, k13m3]
  instanceTypes := #[]
  staticTypes := #[.double, .double, .double, .double, .double, .long, .long, .double, .double, .boolean]
  resolved := Array.replicate 460 none
  statics := none }

def pool14 : Array CpInfo := pool [(2, .class_ 4), (1, u "java/lang/Object"), (0, u "<init>"), (0, u "()V"), (1, .class_ 10), (1, u "java/lang/System"), (0, u "allowSecurityManager"), (0, u "I"), (16, u "cons"), (0, u "Ljava/io/Console;"), (77, .class_ 110), (1, u "java/lang/System$CallersHolder"), (43, u "initialErrStream"), (0, u "Ljava/io/PrintStream;"), (19, u "security"), (0, u "Ljava/lang/SecurityManager;"), (31, .class_ 209), (0, u "java/lang/System$1"), (7, u "props"), (0, u "Ljava/util/Properties;"), (2, u "lineSeparator"), (0, u "Ljava/lang/String;"), (96, .class_ 321), (1, u "java/lang/System$LoggerFinder"), (5, .class_ 328), (0, u "java/lang/System$Logger"), (67, u "err"), (2, u "out"), (91, u "notSupportedJnuEncoding"), (15, u "in"), (17, u "initialIn"), (0, u "Ljava/io/InputStream;"), (35, u "bootLayer"), (0, u "Ljava/lang/ModuleLayer;"), (99, .class_ 664), (0, u "java/lang/System$2"), (9, u "NEVER"), (2, u "MAYBE"), (49, u "arraycopy"), (0, u "(Ljava/lang/Object;ILjava/lang/Object;II)V"), (72, .class_ 802), (0, u "java/lang/System$Logger$Level")] 31

def k14m0 : Method := { name := "<init>", desc := "()V", sig := { parameters := [], returnType := none }, accessFlags := 2, code := none }
def k14m1 : Method := { name := "arraycopy", desc := "(Ljava/lang/Object;ILjava/lang/Object;II)V", sig := { parameters := [(.object "java/lang/Object"), .int, (.object "java/lang/Object"), .int, .int], returnType := none }, accessFlags := 265, code := none }
/-- java/lang/System -/
def k14 : Class := { plain "java/lang/System" (some 0) with
  accessFlags := 49
  interfaces := #[]
  cf := some (fileOf pool14 8 #[.nestMembers #[319, 327, 801, 108, 663, 208]] #[{ accessFlags := 2, nameIndex := 5, descriptorIndex := 6, attributes := #[] }, { accessFlags := 265, nameIndex := 727, descriptorIndex := 728, attributes := #[] }] 49 2 #[] #[{ accessFlags := 25, nameIndex := 507, descriptorIndex := 526, attributes := #[] }, { accessFlags := 25, nameIndex := 399, descriptorIndex := 155, attributes := #[] }, { accessFlags := 25, nameIndex := 396, descriptorIndex := 155, attributes := #[] }, { accessFlags := 10, nameIndex := 525, descriptorIndex := 526, attributes := #[] }, { accessFlags := 26, nameIndex := 674, descriptorIndex := 12, attributes := #[] }, { accessFlags := 26, nameIndex := 677, descriptorIndex := 12, attributes := #[] }, { accessFlags := 10, nameIndex := 11, descriptorIndex := 12, attributes := #[] }, { accessFlags := 74, nameIndex := 175, descriptorIndex := 176, attributes := #[] }, { accessFlags := 10, nameIndex := 491, descriptorIndex := 222, attributes := #[] }, { accessFlags := 74, nameIndex := 29, descriptorIndex := 30, attributes := #[] }, { accessFlags := 74, nameIndex := 154, descriptorIndex := 155, attributes := #[] }, { accessFlags := 10, nameIndex := 217, descriptorIndex := 218, attributes := #[] }, { accessFlags := 10, nameIndex := 221, descriptorIndex := 222, attributes := #[] }, { accessFlags := 8, nameIndex := 562, descriptorIndex := 563, attributes := #[] }])
  fields := #[{ name := "in", type := (.object "java/io/InputStream"), accessFlags := 25, slot := 0, constantValue := 0 }, { name := "out", type := (.object "java/io/PrintStream"), accessFlags := 25, slot := 1, constantValue := 0 }, { name := "err", type := (.object "java/io/PrintStream"), accessFlags := 25, slot := 2, constantValue := 0 }, { name := "initialIn", type := (.object "java/io/InputStream"), accessFlags := 10, slot := 3, constantValue := 0 }, { name := "NEVER", type := .int, accessFlags := 26, slot := 4, constantValue := 0 }, { name := "MAYBE", type := .int, accessFlags := 26, slot := 5, constantValue := 0 }, { name := "allowSecurityManager", type := .int, accessFlags := 10, slot := 6, constantValue := 0 }, { name := "security", type := (.object "java/lang/SecurityManager"), accessFlags := 74, slot := 7, constantValue := 0 }, { name := "notSupportedJnuEncoding", type := (.object "java/lang/String"), accessFlags := 10, slot := 8, constantValue := 0 }, { name := "cons", type := (.object "java/io/Console"), accessFlags := 74, slot := 9, constantValue := 0 }, { name := "initialErrStream", type := (.object "java/io/PrintStream"), accessFlags := 74, slot := 10, constantValue := 0 }, { name := "props", type := (.object "java/util/Properties"), accessFlags := 10, slot := 11, constantValue := 0 }, { name := "lineSeparator", type := (.object "java/lang/String"), accessFlags := 10, slot := 12, constantValue := 0 }, { name := "bootLayer", type := (.object "java/lang/ModuleLayer"), accessFlags := 8, slot := 13, constantValue := 0 }]
  methods := #[k14m0, k14m1]
  instanceTypes := #[]
  staticTypes := #[(.object "java/io/InputStream"), (.object "java/io/PrintStream"), (.object "java/io/PrintStream"), (.object "java/io/InputStream"), .int, .int, .int, (.object "java/lang/SecurityManager"), (.object "java/lang/String"), (.object "java/io/Console"), (.object "java/io/PrintStream"), (.object "java/util/Properties"), (.object "java/lang/String"), (.object "java/lang/ModuleLayer")]
  resolved := Array.replicate 834 none
  statics := none }

def pool15 : Array CpInfo := pool [(1, u "java/lang/Cloneable"), (0, .class_ 1), (0, u "java/lang/Object"), (0, .class_ 3)] 3

/-- java/lang/Cloneable -/
def k15 : Class := { plain "java/lang/Cloneable" (some 0) with
  accessFlags := 1537
  interfaces := #[]
  cf := some (fileOf pool15 2 #[] #[] 1537 4 #[] #[])
  fields := #[]
  methods := #[]
  instanceTypes := #[]
  staticTypes := #[]
  resolved := Array.replicate 8 none
  statics := none }

/-- the primitive byte -/
def k16 : Class := { plain "byte" none with kind := .primitive 'B', accessFlags := 0x411 }
/-- [B -/
def k17 : Class := { plain "[B" (some 0) with kind := .array 16 .byte, interfaces := #[15, 4], accessFlags := 1041 }

/-- the primitive int -/
def k18 : Class := { plain "int" none with kind := .primitive 'I', accessFlags := 0x411 }
/-- [I -/
def k19 : Class := { plain "[I" (some 0) with kind := .array 18 .int, interfaces := #[15, 4], accessFlags := 1041 }

def heap : Heap := #[{ cls := 6, slots := #[.ref 2, .ref 3, .ref 4, .null], vm := .statics 6 },
  { cls := 7, slots := #[.ref 5, .int 0, .int 0], vm := .statics 7 },
  { cls := 6, slots := #[.null, .int 0, .int 0, .int 1, .null], vm := .none },
  { cls := 6, slots := #[.null, .int 1, .int 0, .int 2, .null], vm := .none },
  { cls := 6, slots := #[.null, .int 2, .int 0, .int 3, .null], vm := .none },
  { cls := 17, slots := #[.int 69, .int 66, .int 66, .int 84], vm := .none }]
def classes : Array Class := #[k0, k1, k2, k3, k4, k5, k6, k7, k8, k9, k10, k11, k12, k13, k14, k15, k16, k17, k18, k19]
def interned : List (Array UInt16 × Addr) := []
def slotsUsed : Nat := 26
def theMethod : MethodId := ⟨1, 1⟩
def args0 : Array Value := #[.int 5, .int 6, .int 7, .int 8]
def aboutOver (below : List Frame) : State where
  vm := { classes := classes, interned := interned.toArray }
  heap := heap
  slotsUsed := slotsUsed
  threads := #[{ frames := .invoking theMethod args0 :: below }]
def below0 : List Frame := [.native { method := ⟨0, 0⟩, args := #[] }]
def about1 : State := aboutOver below0
def p0 : Program := .bare "" "" ""
def e0 : Env := launch0.env 0 0 0
theorem w_frames : about1.frames = Frame.invoking theMethod args0 :: below0 := rfl
set_option maxRecDepth 65536 in
theorem w_args : argsFit about1.vm theMethod args0 = true := by decide +kernel
set_option maxRecDepth 65536 in
theorem w_heap : heapFits about1 = true := by decide +kernel
set_option maxRecDepth 65536 in
theorem w_runnable : about1.curStatus? = some .runnable := by decide +kernel
set_option maxRecDepth 65536 in
theorem w_alone : about1.alone = true := by decide +kernel
set_option maxRecDepth 65536 in
theorem w_named : about1.methodNamed? x = some theMethod := by decide +kernel
set_option maxRecDepth 65536 in
theorem w_hears : about1.hears theMethod below0 = true := by decide +kernel
set_option maxRecDepth 65536 in
theorem w_ripe : about1.ripe theMethod args0 below0 = true := by decide +kernel
theorem w_running : about1.status = .running := rfl
set_option maxRecDepth 65536 in
theorem w_room : about1.hasRoom e0.platform room_1 = true :=
  launch0.hasRoom_least _ room_1 (by decide +kernel) (by decide +kernel) (by decide +kernel) (by decide +kernel) (by decide +kernel) (by decide +kernel)
theorem allAtoms_all (ts : List Jvm.Cond) (a : Array Jvm.Value) (st : Jvm.State) : (allAtoms ts).before a st = ts.all (fun c => c.before a st) := by
  induction ts with
  | nil => rfl
  | cons c t ih =>
    show (Jvm.Cond.and c (allAtoms t)).before a st = _
    rw [Jvm.Cond.before_and, ih, List.all_cons]
def words1 : List Jvm.Cond := Jvm.Cond.code x code maxLocals ret :: tables_1
/-- a 'code' word, met by the world's own term for the bytes: nothing is compared byte by byte -/
theorem code_word {y : MethodName} {bytes : ByteArray} {mx : Nat} {rt : Option FieldType} {a : Array Value} {s : State} {m : MethodId} {meth : Method} {c : Code} (h1 : s.methodNamed? y = some m) (h2 : s.vm.method? m = some meth) (h3 : meth.code = some c) (h4 : c.code = bytes)
    (h5 : (c.maxLocals == mx && c.exceptionTable.isEmpty && decide (c.maxStack ≤ mostOperands) && decide (meth.sig.returnType = rt) && !meth.locks && decide (parseMethodDescriptor y.desc = some meth.sig)) = true) : (Jvm.Cond.code y bytes mx rt).before a s = true := by
  simp only [Bool.and_eq_true, beq_iff_eq, Bool.not_eq_true', decide_eq_true_eq] at h5
  obtain ⟨⟨⟨⟨⟨g1, g2⟩, g3⟩, g4⟩, g5⟩, g6⟩ := h5
  simp [Cond.before, Cond.holds, Cond.value, h1, h2, h3, h4, g1, g2, g3, g4, g5, g6]
def isCode : Jvm.Cond → Bool
  | .code _ _ _ _ => true
  | _ => false
theorem all_split {L : List Jvm.Cond} {P : Jvm.Cond → Bool} (h1 : L.all (fun c => isCode c || P c) = true) (h2 : ∀ c ∈ L.filter isCode, P c = true) : L.all P = true := by
  refine List.all_eq_true.mpr fun c hc => ?_
  have h := List.all_eq_true.mp h1 c hc
  rcases Bool.eq_false_or_eq_true (isCode c) with hi | hi
  · exact h2 c (List.mem_filter.mpr ⟨hc, hi⟩)
  · simpa [hi] using h
set_option maxRecDepth 65536 in
theorem w_c0 : (Jvm.Cond.code x code maxLocals ret).before args0 about1 = true := code_word (m := ⟨1, 1⟩) (meth := k1m1) (c := k1c1) (by decide +kernel) rfl rfl rfl (by decide +kernel)
set_option maxRecDepth 65536 in
theorem w_c1 : (Jvm.Cond.code ({ cls := "com/example/ebbtide/ebbtide/core/Encoder", name := "<init>", desc := "(Lcom/example/ebbtide/ebbtide/core/SummaryKind;)V" } : Jvm.MethodName) prog_10_method_1_code (6 : Nat) (Option.none : Option Jvm.ClassFile.FieldType)).before args0 about1 = true := code_word (m := ⟨7, 0⟩) (meth := k7m0) (c := k7c0) (by decide +kernel) rfl rfl rfl (by decide +kernel)
set_option maxRecDepth 65536 in
theorem w_c2 : (Jvm.Cond.code ({ cls := "java/lang/Object", name := "<init>", desc := "()V" } : Jvm.MethodName) object_method_1_code (1 : Nat) (Option.none : Option Jvm.ClassFile.FieldType)).before args0 about1 = true := code_word (m := ⟨0, 0⟩) (meth := k0m0) (c := k0c0) (by decide +kernel) rfl rfl rfl (by decide +kernel)
set_option maxRecDepth 65536 in
theorem w_c3 : (Jvm.Cond.code ({ cls := "java/util/Objects", name := "requireNonNull", desc := "(Ljava/lang/Object;Ljava/lang/String;)Ljava/lang/Object;" } : Jvm.MethodName) jdk_31_method_11_code (2 : Nat) (Option.some (Jvm.ClassFile.FieldType.object "java/lang/Object"))).before args0 about1 = true := code_word (m := ⟨11, 1⟩) (meth := k11m1) (c := k11c1) (by decide +kernel) rfl rfl rfl (by decide +kernel)
set_option maxRecDepth 65536 in
theorem w_c4 : (Jvm.Cond.code ({ cls := "com/example/ebbtide/ebbtide/core/Encoder", name := "put", desc := "(B)V" } : Jvm.MethodName) prog_10_method_9_code (2 : Nat) (Option.none : Option Jvm.ClassFile.FieldType)).before args0 about1 = true := code_word (m := ⟨7, 4⟩) (meth := k7m4) (c := k7c4) (by decide +kernel) rfl rfl rfl (by decide +kernel)
set_option maxRecDepth 65536 in
theorem w_c5 : (Jvm.Cond.code ({ cls := "com/example/ebbtide/ebbtide/core/Encoder", name := "ensure", desc := "(I)V" } : Jvm.MethodName) prog_10_method_10_code (4 : Nat) (Option.none : Option Jvm.ClassFile.FieldType)).before args0 about1 = true := code_word (m := ⟨7, 5⟩) (meth := k7m5) (c := k7c5) (by decide +kernel) rfl rfl rfl (by decide +kernel)
set_option maxRecDepth 65536 in
theorem w_c6 : (Jvm.Cond.code ({ cls := "com/example/ebbtide/ebbtide/core/Encoder", name := "unsigned", desc := "(J)V" } : Jvm.MethodName) prog_10_method_2_code (5 : Nat) (Option.none : Option Jvm.ClassFile.FieldType)).before args0 about1 = true := code_word (m := ⟨7, 1⟩) (meth := k7m1) (c := k7c1) (by decide +kernel) rfl rfl rfl (by decide +kernel)
set_option maxRecDepth 65536 in
theorem w_c7 : (Jvm.Cond.code ({ cls := "com/example/ebbtide/ebbtide/core/SummaryKind", name := "code", desc := "()I" } : Jvm.MethodName) prog_26_method_4_code (1 : Nat) (Option.some Jvm.ClassFile.FieldType.int)).before args0 about1 = true := code_word (m := ⟨6, 0⟩) (meth := k6m0) (c := k6c0) (by decide +kernel) rfl rfl rfl (by decide +kernel)
set_option maxRecDepth 65536 in
theorem w_c8 : (Jvm.Cond.code ({ cls := "com/example/ebbtide/ebbtide/core/Encoder", name := "toByteArray", desc := "()[B" } : Jvm.MethodName) prog_10_method_8_code (1 : Nat) (Option.some (Jvm.ClassFile.FieldType.array Jvm.ClassFile.FieldType.byte))).before args0 about1 = true := code_word (m := ⟨7, 3⟩) (meth := k7m3) (c := k7c3) (by decide +kernel) rfl rfl rfl (by decide +kernel)
set_option maxRecDepth 65536 in
theorem w_c9 : (Jvm.Cond.code ({ cls := "java/util/Arrays", name := "copyOf", desc := "([BI)[B" } : Jvm.MethodName) jdk_65_method_121_code (3 : Nat) (Option.some (Jvm.ClassFile.FieldType.array Jvm.ClassFile.FieldType.byte))).before args0 about1 = true := code_word (m := ⟨12, 1⟩) (meth := k12m1) (c := k12c1) (by decide +kernel) rfl rfl rfl (by decide +kernel)
set_option maxRecDepth 65536 in
theorem w_c10 : (Jvm.Cond.code ({ cls := "java/lang/Math", name := "min", desc := "(II)I" } : Jvm.MethodName) jdk_29_method_69_code (2 : Nat) (Option.some Jvm.ClassFile.FieldType.int)).before args0 about1 = true := code_word (m := ⟨13, 2⟩) (meth := k13m2) (c := k13c2) (by decide +kernel) rfl rfl rfl (by decide +kernel)
set_option maxRecDepth 65536 in
theorem w_c11 : (Jvm.Cond.code ({ cls := "com/example/ebbtide/ebbtide/core/EncoderToByteArrayPinLaw", name := "header", desc := "([BI)Z" } : Jvm.MethodName) method_3_code (2 : Nat) (Option.some Jvm.ClassFile.FieldType.boolean)).before args0 about1 = true := code_word (m := ⟨1, 2⟩) (meth := k1m2) (c := k1c2) (by decide +kernel) rfl rfl rfl (by decide +kernel)
set_option maxRecDepth 65536 in
theorem w_c12 : (Jvm.Cond.code ({ cls := "com/example/ebbtide/ebbtide/core/Encoder", name := "bytes", desc := "([B)V" } : Jvm.MethodName) prog_10_method_7_code (2 : Nat) (Option.none : Option Jvm.ClassFile.FieldType)).before args0 about1 = true := code_word (m := ⟨7, 2⟩) (meth := k7m2) (c := k7c2) (by decide +kernel) rfl rfl rfl (by decide +kernel)
set_option maxRecDepth 65536 in
theorem w_c13 : (Jvm.Cond.code ({ cls := "java/lang/Math", name := "max", desc := "(JJ)J" } : Jvm.MethodName) jdk_29_method_66_code (4 : Nat) (Option.some Jvm.ClassFile.FieldType.long)).before args0 about1 = true := code_word (m := ⟨13, 1⟩) (meth := k13m1) (c := k13c1) (by decide +kernel) rfl rfl rfl (by decide +kernel)
set_option maxRecDepth 65536 in
theorem w_c14 : (Jvm.Cond.code ({ cls := "java/lang/Math", name := "min", desc := "(JJ)J" } : Jvm.MethodName) jdk_29_method_70_code (4 : Nat) (Option.some Jvm.ClassFile.FieldType.long)).before args0 about1 = true := code_word (m := ⟨13, 3⟩) (meth := k13m3) (c := k13c3) (by decide +kernel) rfl rfl rfl (by decide +kernel)
def codes1 : List Jvm.Cond := [Jvm.Cond.code x code maxLocals ret, Jvm.Cond.code ({ cls := "com/example/ebbtide/ebbtide/core/Encoder", name := "<init>", desc := "(Lcom/example/ebbtide/ebbtide/core/SummaryKind;)V" } : Jvm.MethodName) prog_10_method_1_code (6 : Nat) (Option.none : Option Jvm.ClassFile.FieldType), Jvm.Cond.code ({ cls := "java/lang/Object", name := "<init>", desc := "()V" } : Jvm.MethodName) object_method_1_code (1 : Nat) (Option.none : Option Jvm.ClassFile.FieldType), Jvm.Cond.code ({ cls := "java/util/Objects", name := "requireNonNull", desc := "(Ljava/lang/Object;Ljava/lang/String;)Ljava/lang/Object;" } : Jvm.MethodName) jdk_31_method_11_code (2 : Nat) (Option.some (Jvm.ClassFile.FieldType.object "java/lang/Object")), Jvm.Cond.code ({ cls := "com/example/ebbtide/ebbtide/core/Encoder", name := "put", desc := "(B)V" } : Jvm.MethodName) prog_10_method_9_code (2 : Nat) (Option.none : Option Jvm.ClassFile.FieldType), Jvm.Cond.code ({ cls := "com/example/ebbtide/ebbtide/core/Encoder", name := "ensure", desc := "(I)V" } : Jvm.MethodName) prog_10_method_10_code (4 : Nat) (Option.none : Option Jvm.ClassFile.FieldType), Jvm.Cond.code ({ cls := "com/example/ebbtide/ebbtide/core/Encoder", name := "unsigned", desc := "(J)V" } : Jvm.MethodName) prog_10_method_2_code (5 : Nat) (Option.none : Option Jvm.ClassFile.FieldType), Jvm.Cond.code ({ cls := "com/example/ebbtide/ebbtide/core/SummaryKind", name := "code", desc := "()I" } : Jvm.MethodName) prog_26_method_4_code (1 : Nat) (Option.some Jvm.ClassFile.FieldType.int), Jvm.Cond.code ({ cls := "com/example/ebbtide/ebbtide/core/Encoder", name := "toByteArray", desc := "()[B" } : Jvm.MethodName) prog_10_method_8_code (1 : Nat) (Option.some (Jvm.ClassFile.FieldType.array Jvm.ClassFile.FieldType.byte)), Jvm.Cond.code ({ cls := "java/util/Arrays", name := "copyOf", desc := "([BI)[B" } : Jvm.MethodName) jdk_65_method_121_code (3 : Nat) (Option.some (Jvm.ClassFile.FieldType.array Jvm.ClassFile.FieldType.byte)), Jvm.Cond.code ({ cls := "java/lang/Math", name := "min", desc := "(II)I" } : Jvm.MethodName) jdk_29_method_69_code (2 : Nat) (Option.some Jvm.ClassFile.FieldType.int), Jvm.Cond.code ({ cls := "com/example/ebbtide/ebbtide/core/EncoderToByteArrayPinLaw", name := "header", desc := "([BI)Z" } : Jvm.MethodName) method_3_code (2 : Nat) (Option.some Jvm.ClassFile.FieldType.boolean), Jvm.Cond.code ({ cls := "com/example/ebbtide/ebbtide/core/Encoder", name := "bytes", desc := "([B)V" } : Jvm.MethodName) prog_10_method_7_code (2 : Nat) (Option.none : Option Jvm.ClassFile.FieldType), Jvm.Cond.code ({ cls := "java/lang/Math", name := "max", desc := "(JJ)J" } : Jvm.MethodName) jdk_29_method_66_code (4 : Nat) (Option.some Jvm.ClassFile.FieldType.long), Jvm.Cond.code ({ cls := "java/lang/Math", name := "min", desc := "(JJ)J" } : Jvm.MethodName) jdk_29_method_70_code (4 : Nat) (Option.some Jvm.ClassFile.FieldType.long)]
set_option maxRecDepth 65536 in
theorem codes_eq : words1.filter isCode = codes1 := rfl
theorem w_codes : ∀ c ∈ words1.filter isCode, c.before args0 about1 = true := by
  rw [codes_eq]
  intro c hc
  simp only [codes1, List.mem_cons, List.not_mem_nil, or_false] at hc
  rcases hc with rfl | rfl | rfl | rfl | rfl | rfl | rfl | rfl | rfl | rfl | rfl | rfl | rfl | rfl | rfl
  · exact w_c0
  · exact w_c1
  · exact w_c2
  · exact w_c3
  · exact w_c4
  · exact w_c5
  · exact w_c6
  · exact w_c7
  · exact w_c8
  · exact w_c9
  · exact w_c10
  · exact w_c11
  · exact w_c12
  · exact w_c13
  · exact w_c14
set_option maxRecDepth 65536 in
theorem w_t1 : (words1.take 24).all (fun c => isCode c || c.before args0 about1) = true := by decide +kernel
set_option maxRecDepth 65536 in
theorem w_t2 : ((words1.drop 24).take 24).all (fun c => isCode c || c.before args0 about1) = true := by decide +kernel
set_option maxRecDepth 65536 in
theorem w_t3 : (((words1.drop 24).drop 24).take 24).all (fun c => isCode c || c.before args0 about1) = true := by decide +kernel
set_option maxRecDepth 65536 in
theorem w_t4 : ((((words1.drop 24).drop 24).drop 24).take 24).all (fun c => isCode c || c.before args0 about1) = true := by decide +kernel
set_option maxRecDepth 65536 in
theorem w_t5 : ((((words1.drop 24).drop 24).drop 24).drop 24).all (fun c => isCode c || c.before args0 about1) = true := by decide +kernel
theorem w_tables : (allAtoms (Jvm.Cond.code x code maxLocals ret :: tables_1)).before args0 about1 = true := by
  rw [allAtoms_all]
  show words1.all (fun c => c.before args0 about1) = true
  refine all_split ?_ w_codes
  rw [← List.take_append_drop 24 words1, List.all_append, w_t1, ← List.take_append_drop 24 (words1.drop 24), List.all_append, w_t2, ← List.take_append_drop 24 ((words1.drop 24).drop 24), List.all_append, w_t3, ← List.take_append_drop 24 (((words1.drop 24).drop 24).drop 24), List.all_append, w_t4, w_t5]
  rfl
set_option maxRecDepth 65536 in
theorem w_case : (Jvm.Cond.and given_1 narrow_1).before args0 about1 = true := by decide +kernel
theorem w_applies : (headSpec (Jvm.Cond.code x code maxLocals ret :: tables_1) room_1).applies x e0.platform about1 = true :=
  (Spec.applies_iff w_frames).mpr ⟨w_running, w_runnable, w_alone, w_named, w_hears, w_ripe, w_room, w_tables⟩
theorem atStart : AtStart classFile x code maxLocals ret World_1 tables_1 room_1 Calls_1 rest_1 Pre_1 launch0 p0 e0 about1 theMethod args0 below0 :=
  ⟨lists_1, trivial, launch0.admits_env _ _ _, launch0.least_env, fairChoices_fair.cas, fairChoices_fair.clock, w_frames, w_args, w_heap, w_applies, trivial, trivial, w_case⟩
end start1
theorem witness_1 : WitnessClaimed_1 := ⟨start1.p0, start1.e0, start1.about1, start1.theMethod, start1.args0, start1.below0, start1.atStart⟩
end Jvm.Pilot.@@N@@
