import JvmDerived
import JvmDerived.Pilot.@@N@@Statement
import JvmDerived.Pilot.@@N@@Code
set_option linter.unusedVariables false
set_option linter.unusedSimpArgs false
namespace Jvm.RoadKit
open Sem ClassFile Op Lib Jvm.Stand Jvm.Free Jvm.LawKit
section New
variable {p : Program} {l : Launch} {e : Env} {R : Room} {s : State} {m : MethodId} {args : Array Value} {below : List Frame} {meth : Method} {c : Code} {T : State} {locs : List Loc} {cells slots : Nat}
theorem retI (X : Stand p l e R s m args below meth c T locs cells slots) (hx : p.tables.exec = Jvm.exec) {pc : Nat} {Ls : Array Slot} {z : Int32} {rest : List Value} (hret : meth.sig.returnType = some .int) (hd : decode c.code pc = .ok (.ireturn, 1)) {fs : List Frame}
    (hl : ∀ (f : JFrame) (acts : List Action), f.method = m → f.locked = none → f.entered = [] → (doReturn e (T.setTop f) acts (some (.int z))).1 = T.setFrames fs) : Steps p.tables e below (T.setTop (mkF m pc Ls (.int z :: rest))) (T.setFrames fs) := by
  have hm' : T.vm.method? m = some meth := X.method'
  have hn : narrow .int (.int z) = .int z := rfl
  show Steps p.tables e below (T.setTop { method := m, pc := pc, locals := Ls, stack := _ :: rest, locked := none }) _
  jvm_step X.here [X.here.top, hx, hd, hm', hret, hn]
  first | (intro acts; rw [hl _ acts rfl rfl rfl]) | rw [hl _ _ rfl rfl rfl]
  exact Steps.refl _
end New
end Jvm.RoadKit

namespace Jvm.Pilot.@@N@@
open Jvm Jvm.ClassFile Sem Op Lib Jvm.Free Jvm.Stand Jvm.LawKit Jvm.RoadKit Bundle Jvm.Pilot.@@N@@.Jvm.D
def own_Go (tb : Tables) (e : Env) (below : List Frame) (K : State → Outcome → Prop) (S : State) : Prop := ∃ t o, Steps tb e below S t ∧ K t o
theorem own_Go.by {tb : Tables} {e : Env} {below : List Frame} {K : State → Outcome → Prop} {S S' : State} (h : ∀ t, Steps tb e below S' t → Steps tb e below S t) (g : own_Go tb e below K S') : own_Go tb e below K S := by
  obtain ⟨t, o, a, b⟩ := g
  exact ⟨t, o, h t a, b⟩
theorem own_Go.fin {tb : Tables} {e : Env} {below : List Frame} {K : State → Outcome → Prop} {S t : State} {o : Outcome} (h : Steps tb e below S t) (k : K t o) : own_Go tb e below K S := ⟨t, o, h, k⟩
theorem own_merge {α : Type} {P : α → Prop} {F : α → State} {tb : Tables} {e : Env} {below : List Frame} {K : State → Outcome → Prop} {S : State} (g : ∀ v, P v → own_Go tb e below K (F v)) (h : (∀ v, P v → own_Go tb e below K (F v)) → own_Go tb e below K S) : own_Go tb e below K S := h g
theorem own_old_le {Z : State} {n0 : Nat} {h : Heap} (O : Old Z n0 h) : n0 ≤ h.size := O.1 ▸ O.2.1
theorem own_rew {s t : State} {o : Outcome} {L : List Loc} {k n k' n' : Nat} (h : ReturnedEndW s o t L k n) (hk : k ≤ k') (hn : n ≤ n') : ReturnedEndW s o t L k' n' := ⟨h.1, h.2.1, h.2.2.1, h.2.2.2.mono hk hn⟩
theorem own_privsel {s : State} {a1 a2 args : Array Value} {y : MethodName} {n : Nat} (wi : (Jvm.Cond.instantiable y.cls n).before a1 s = true) (wp : (Jvm.Cond.privateMethod y).before a2 s = true) (wm : (Jvm.Cond.instanceMethod y).before args s = true) (hy : y.cls ≠ "java/lang/invoke/MethodHandle" ∧ y.cls ≠ "java/lang/invoke/VarHandle") : (Jvm.Cond.selects y.cls y y).before args s = true := by
  obtain ⟨c, k, h1, h2, -, h4, -⟩ := Cond.instantiable_spec wi
  simp only [Bool.or_eq_false_iff] at h4
  exact selects_self_of_private h1 h2 h4.1 (Cond.privateMethod_at wp) wm hy
theorem own_arr_keep {Z : State} {h h' : Heap} {a : Addr} {c : Cell} {ty : FieldType} {ws : List Addr} (A : Arr Z h a c ty) (K : Keep h h' ws) (q : a ∉ ws) : Arr Z h' a c ty := ⟨K.2.1 a c A.1 q, A.2⟩

theorem own_fldRef {args : Array Value} {s : State} {t : Term} {C n dd : String} {a : Addr} {v : Value} (ht : t.eval args s none [] s = some (.ref a)) (h : (Term.field t C n dd).eval args s none [] s = some v) : Fld s s.heap a C n dd v := Fld.start (by rw [← fld_at ht]; exact h)
theorem own_st1 (x : Int64) : (0 : Int64) < ((x &&& (7 : Int64)) + (1 : Int64)) := by
  have q := c_maskL x (7 : Int64) 3 (by decide) (by decide)
  have t := c_ladd (x &&& (7 : Int64)) (1 : Int64)
  have e1 : (1 : Int64).toInt = 1 := rfl
  have e0 : (0 : Int64).toInt = 0 := rfl
  have r := rng64 ((x &&& (7 : Int64)) + (1 : Int64))
  rw [Int64.lt_iff_toInt_lt]
  omega
theorem own_st2 {x : Int64} (h : ¬ ((x &&& (9223372036854775807 : Int64)) = (0 : Int64))) : (0 : Int64) < (x &&& (9223372036854775807 : Int64)) := by
  have q := c_maskL x (9223372036854775807 : Int64) 63 (by decide) (by decide)
  have e0 : (0 : Int64).toInt = 0 := rfl
  have n : ¬ (x &&& (9223372036854775807 : Int64)).toInt = (0 : Int64).toInt := fun e => h (Int64.toInt_inj.mp e)
  rw [Int64.lt_iff_toInt_lt]
  omega
theorem own_pos0 {x : Int64} (h : (0 : Int64) < x) : x ≠ 0 := fun e => by rw [e] at h; exact absurd h (by decide)
theorem own_mulmod (x y : Int64) : ((x / y) * y) = x ↔ (x % y) = (0 : Int64) := by
  rw [← lrem_mod]
  constructor
  · intro h; rw [h]; exact Int64.sub_self _
  · intro h
    have q : x - x / y * y + x / y * y = 0 + x / y * y := by rw [h]
    rw [Int64.sub_add_cancel, Int64.zero_add] at q
    exact q.symm

theorem d4_0 : decode jdk_30_method_1_code 0 = .ok (.aload_n 0, 1) := by decide +kernel
theorem d4_1 : decode jdk_30_method_1_code 1 = .ok (.invokespecial 1, 3) := by decide +kernel
theorem d4_4 : decode jdk_30_method_1_code 4 = .ok (.return_, 1) := by decide +kernel
theorem own_pn_java_lang_Record : plainName "java/lang/Record" = true := by first | (simp [plainName, overriddenIn]; done) | decide +kernel
theorem own_ef_4 (m : MethodId) (a1 : Addr) : entryFrame m #[(.ref a1)] 1 = mkF m 0 #[.val (.ref a1)] [] := by first | (simp [entryFrame, mkF, argsToLocals, Value.category]; done) | rfl
def Q4 (Z : State) (a1 : Addr) (h0 : Heap) (n0 : Nat) (v : Option Value) (h : Heap) (L : List Loc) : Prop := v = none ∧ Fr n0 L ∧ h = h0
set_option maxRecDepth 65536 in
set_option maxHeartbeats 40000000 in
theorem rm4 (l : Launch) (Z : State) (a0 : Array Value) (hw : ∀ d ∈ tables_1, d.before a0 Z = true) (ws : List Jvm.Cond) (a1 : Addr) (h0 : Heap) (n0 : Nat) (O0 : Old Z n0 h0) :
    MetFree l (⟨"java/lang/Record", "<init>", "()V"⟩ : MethodName) (head1 (Jvm.Cond.code (⟨"java/lang/Record", "<init>", "()V"⟩ : MethodName) jdk_30_method_1_code 1 none :: ws) ({ frames := 1, cells := 0, slots := 0, locals := 12 } : Room)) (fun a U => a = #[(.ref a1)] ∧ Z.Warmed39 U.vm ∧ U.heap = h0) (fun _ _ _ _ _ => True) (fun _ U o U' => ∃ v L, o = .returned v ∧ Q4 Z a1 h0 n0 v U'.heap L ∧ FrameEnd U o U' L ({ frames := 1, cells := 0, slots := 0, locals := 12 } : Room).cells ({ frames := 1, cells := 0, slots := 0, locals := 12 } : Room).slots) := by
  refine MetFree.of_bodySF (plainFor_of_name own_pn_java_lang_Record) hisR ?_
  intro p e s m args below meth c s₁ Bd hml0 hP hK
  obtain ⟨rfl, hZ, hh⟩ := hP
  have hx := Bd.exec
  have hby := Bd.bytes
  have hml : c.maxLocals = 1 := hml0
  have hown : s.vm.findClass "java/lang/Record" = some m.cls := findClass_of_methodNamed Bd.named
  have hnm := (name_of_methodNamed Bd.named Bd.method).1
  have X0 : Stand p l e ({ frames := 1, cells := 0, slots := 0, locals := 12 } : Room) s m #[(.ref a1)] below meth c s₁ [] 0 0 := Stand.of_body Bd
  have e0 : s₁.heap = h0 := by rw [← hh, Bd.state]; rfl
  have N0 := Fr.nil n0
  have K0 : Keep h0 h0 [] := Keep.refl h0 []
  show own_Go p.tables e below _ (s₁.setTop (entryFrame m #[(.ref a1)] 1))
  refine own_Go.by (fun tq kq => castTop (own_ef_4 m a1) kq) ?_
  show own_Go p.tables e below _ (s₁.setTop (mkF m 0 #[.val (.ref a1)] []))
  refine own_Go.by (fun tq kq => XS.aloadN X0.here hx rfl (hb hby d4_0) rfl rfl kq) ?_
  show own_Go p.tables e below _ (s₁.setTop (mkF m 1 #[.val (.ref a1)] [(.ref a1)]))
  obtain ⟨T1, X1, e1, st1⟩ := initO X0 hx hZ hown (hw _ (List.mem_of_getElem? (i := 28) rfl)) (hw _ (List.mem_of_getElem? (i := 29) rfl)) (hw _ (List.mem_of_getElem? (i := 30) rfl)) e0 (g := (mkF m 1 #[.val (.ref a1)] [(.ref a1)])) rfl (by rw [hml]; rfl) rfl (hb hby d4_1) (by decide) (W := 0) (by show 2 * 0 + _ ≤ _; exact Nat.le_of_eq rfl) (by decide)
  refine own_Go.by st1 ?_
  show own_Go p.tables e below _ (T1.setTop (mkF m 4 #[.val (.ref a1)] []))
  obtain ⟨fs, hr, hrun, hended, hW, hsame⟩ := X1.leave (v := none) (fun _ => rfl)
  refine own_Go.fin (X1.returnOut hx Bd.returns (hb hby d4_4) hr) ⟨hrun, hended, _, _, rfl, ?_, ⟨_, rfl⟩, hW, hsame.mono (by decide) (by decide)⟩
  show Q4 Z a1 h0 n0 _ T1.heap _
  rw [e1]
  exact ⟨rfl, N0, rfl⟩

theorem d6_0 : decode jdk_96_method_29_code 0 = .ok (.aload_n 0, 1) := by decide +kernel
theorem d6_1 : decode jdk_96_method_29_code 1 = .ok (.instanceof 31, 3) := by decide +kernel
theorem d6_4 : decode jdk_96_method_29_code 4 = .ok (.ifCond .eq 8, 3) := by decide +kernel
theorem d6_7 : decode jdk_96_method_29_code 7 = .ok (.aload_n 0, 1) := by decide +kernel
theorem d6_8 : decode jdk_96_method_29_code 8 = .ok (.checkcast 33, 3) := by decide +kernel
theorem d6_11 : decode jdk_96_method_29_code 11 = .ok (.areturn, 1) := by decide +kernel
theorem own_pn_java_util_Set : plainName "java/util/Set" = true := by first | (simp [plainName, overriddenIn]; done) | decide +kernel
theorem own_ef_6 (m : MethodId) (a1 : Addr) : entryFrame m #[(.ref a1)] 1 = mkF m 0 #[.val (.ref a1)] [] := by first | (simp [entryFrame, mkF, argsToLocals, Value.category]; done) | rfl
def Q6 (Z : State) (a1 : Addr) (h0 : Heap) (n0 : Nat) (v : Option Value) (h : Heap) (L : List Loc) : Prop := v = some (.ref a1) ∧ Fr n0 L ∧ h = h0
set_option maxRecDepth 65536 in
set_option maxHeartbeats 40000000 in
theorem rm6 (l : Launch) (Z : State) (a0 : Array Value) (hw : ∀ d ∈ tables_1, d.before a0 Z = true) (ws : List Jvm.Cond) (a1 : Addr) (h0 : Heap) (n0 : Nat) (O0 : Old Z n0 h0) (H0 : Exa Z h0 a1 "java/util/ImmutableCollections$SetN") :
    MetFree l (⟨"java/util/Set", "copyOf", "(Ljava/util/Collection;)Ljava/util/Set;"⟩ : MethodName) (head1 (Jvm.Cond.code (⟨"java/util/Set", "copyOf", "(Ljava/util/Collection;)Ljava/util/Set;"⟩ : MethodName) jdk_96_method_29_code 1 (some (.object "java/util/Set")) :: ws) ({ frames := 0, cells := 0, slots := 0, locals := 0 } : Room)) (fun a U => a = #[(.ref a1)] ∧ Z.Warmed39 U.vm ∧ U.heap = h0) (fun _ _ _ _ _ => True) (fun _ U o U' => ∃ v L, o = .returned v ∧ Q6 Z a1 h0 n0 v U'.heap L ∧ FrameEnd U o U' L ({ frames := 0, cells := 0, slots := 0, locals := 0 } : Room).cells ({ frames := 0, cells := 0, slots := 0, locals := 0 } : Room).slots) := by
  refine MetFree.of_bodySF (plainFor_of_name own_pn_java_util_Set) hisR ?_
  intro p e s m args below meth c s₁ Bd hml0 hP hK
  obtain ⟨rfl, hZ, hh⟩ := hP
  have hx := Bd.exec
  have hby := Bd.bytes
  have hml : c.maxLocals = 1 := hml0
  have hown : s.vm.findClass "java/util/Set" = some m.cls := findClass_of_methodNamed Bd.named
  have hnm := (name_of_methodNamed Bd.named Bd.method).1
  have X0 : Stand p l e ({ frames := 0, cells := 0, slots := 0, locals := 0 } : Room) s m #[(.ref a1)] below meth c s₁ [] 0 0 := Stand.of_body Bd
  have e0 : s₁.heap = h0 := by rw [← hh, Bd.state]; rfl
  have N0 := Fr.nil n0
  have K0 : Keep h0 h0 [] := Keep.refl h0 []
  show own_Go p.tables e below _ (s₁.setTop (entryFrame m #[(.ref a1)] 1))
  refine own_Go.by (fun tq kq => castTop (own_ef_6 m a1) kq) ?_
  show own_Go p.tables e below _ (s₁.setTop (mkF m 0 #[.val (.ref a1)] []))
  refine own_Go.by (fun tq kq => XS.aloadN X0.here hx rfl (hb hby d6_0) rfl rfl kq) ?_
  show own_Go p.tables e below _ (s₁.setTop (mkF m 1 #[.val (.ref a1)] [(.ref a1)]))
  obtain ⟨T1, X1, e1, st1⟩ := instY X0 hx hZ hown (hw _ (List.mem_of_getElem? (i := 35) rfl)) e0 (Ins.of_exa H0 (hw _ (List.mem_of_getElem? (i := 36) rfl))) (g := (mkF m 1 #[.val (.ref a1)] [(.ref a1)])) rfl rfl (hb hby d6_1)
  refine own_Go.by st1 ?_
  show own_Go p.tables e below _ (T1.setTop (mkF m 4 #[.val (.ref a1)] [(.int (1 : Int32))]))
  refine own_Go.by (fun tq kq => XS.ifNo X1.here hx rfl (hb hby d6_4) rfl ((if0 _ _).trans (feq (by decide : ¬ ((1 : Int32) = (0 : Int32)))).1) kq) ?_
  show own_Go p.tables e below _ (T1.setTop (mkF m 7 #[.val (.ref a1)] []))
  refine own_Go.by (fun tq kq => XS.aloadN X1.here hx rfl (hb hby d6_7) rfl rfl kq) ?_
  show own_Go p.tables e below _ (T1.setTop (mkF m 8 #[.val (.ref a1)] [(.ref a1)]))
  obtain ⟨T2, X2, e2, st2⟩ := castY X1 hx hZ hown (hw _ (List.mem_of_getElem? (i := 37) rfl)) e1 (Ins.of_exa H0 (hw _ (List.mem_of_getElem? (i := 38) rfl))) (g := (mkF m 8 #[.val (.ref a1)] [(.ref a1)])) rfl rfl (hb hby d6_8)
  refine own_Go.by st2 ?_
  show own_Go p.tables e below _ (T2.setTop (mkF m 11 #[.val (.ref a1)] [(.ref a1)]))
  obtain ⟨fs, hr, hrun, hended, hW, hsame⟩ := X2.leave (v := some (.ref a1)) (fun h => by rw [Bd.returns] at h; cases h)
  refine own_Go.fin (retOut X2 hx Bd.returns rfl (Or.inr (Or.inr (Or.inr (Or.inr ⟨rfl, rfl, rfl⟩)))) (hb hby d6_11) hr) ⟨hrun, hended, _, _, rfl, ?_, ⟨_, rfl⟩, hW, hsame.mono (by decide) (by decide)⟩
  show Q6 Z a1 h0 n0 _ T2.heap _
  rw [e2]
  exact ⟨rfl, N0, rfl⟩

theorem d1_0 : decode prog_59_method_22_code 0 = .ok (.aload_n 0, 1) := by decide +kernel
theorem d1_1 : decode prog_59_method_22_code 1 = .ok (.getfield 41, 3) := by decide +kernel
theorem d1_4 : decode prog_59_method_22_code 4 = .ok (.areturn, 1) := by decide +kernel
theorem own_pn_com_example_gridmatch_gridmatch_Product : plainName "com/example/gridmatch/gridmatch/Product" = true := by first | (simp [plainName, overriddenIn]; done) | decide +kernel
theorem own_ef_1 (m : MethodId) (a1 : Addr) : entryFrame m #[(.ref a1)] 1 = mkF m 0 #[.val (.ref a1)] [] := by first | (simp [entryFrame, mkF, argsToLocals, Value.category]; done) | rfl
def Q1 (Z : State) (a1 : Addr) (a2 : Addr) (h0 : Heap) (n0 : Nat) (v : Option Value) (h : Heap) (L : List Loc) : Prop := v = some (.ref a2) ∧ Fr n0 L ∧ h = h0
set_option maxRecDepth 65536 in
set_option maxHeartbeats 40000000 in
theorem rm1 (l : Launch) (Z : State) (a0 : Array Value) (hw : ∀ d ∈ tables_1, d.before a0 Z = true) (ws : List Jvm.Cond) (a1 : Addr) (a2 : Addr) (h0 : Heap) (n0 : Nat) (O0 : Old Z n0 h0) (H0 : Fld Z h0 a1 "com/example/gridmatch/gridmatch/Product" "types" "Ljava/util/Set;" (.ref a2)) :
    MetFree l (⟨"com/example/gridmatch/gridmatch/Product", "types", "()Ljava/util/Set;"⟩ : MethodName) (head1 (Jvm.Cond.code (⟨"com/example/gridmatch/gridmatch/Product", "types", "()Ljava/util/Set;"⟩ : MethodName) prog_59_method_22_code 1 (some (.object "java/util/Set")) :: ws) ({ frames := 0, cells := 0, slots := 0, locals := 0 } : Room)) (fun a U => a = #[(.ref a1)] ∧ Z.Warmed39 U.vm ∧ U.heap = h0) (fun _ _ _ _ _ => True) (fun _ U o U' => ∃ v L, o = .returned v ∧ Q1 Z a1 a2 h0 n0 v U'.heap L ∧ FrameEnd U o U' L ({ frames := 0, cells := 0, slots := 0, locals := 0 } : Room).cells ({ frames := 0, cells := 0, slots := 0, locals := 0 } : Room).slots) := by
  refine MetFree.of_bodySF (plainFor_of_name own_pn_com_example_gridmatch_gridmatch_Product) hisR ?_
  intro p e s m args below meth c s₁ Bd hml0 hP hK
  obtain ⟨rfl, hZ, hh⟩ := hP
  have hx := Bd.exec
  have hby := Bd.bytes
  have hml : c.maxLocals = 1 := hml0
  have hown : s.vm.findClass "com/example/gridmatch/gridmatch/Product" = some m.cls := findClass_of_methodNamed Bd.named
  have hnm := (name_of_methodNamed Bd.named Bd.method).1
  have X0 : Stand p l e ({ frames := 0, cells := 0, slots := 0, locals := 0 } : Room) s m #[(.ref a1)] below meth c s₁ [] 0 0 := Stand.of_body Bd
  have e0 : s₁.heap = h0 := by rw [← hh, Bd.state]; rfl
  have N0 := Fr.nil n0
  have K0 : Keep h0 h0 [] := Keep.refl h0 []
  show own_Go p.tables e below _ (s₁.setTop (entryFrame m #[(.ref a1)] 1))
  refine own_Go.by (fun tq kq => castTop (own_ef_1 m a1) kq) ?_
  show own_Go p.tables e below _ (s₁.setTop (mkF m 0 #[.val (.ref a1)] []))
  refine own_Go.by (fun tq kq => XS.aloadN X0.here hx rfl (hb hby d1_0) rfl rfl kq) ?_
  show own_Go p.tables e below _ (s₁.setTop (mkF m 1 #[.val (.ref a1)] [(.ref a1)]))
  obtain ⟨T1, X1, e1, st1⟩ := getF X0 hx hZ hown (host := "") (Or.inl (hw _ (List.mem_of_getElem? (i := 11) rfl))) Via.refl e0 H0 (g := (mkF m 1 #[.val (.ref a1)] [(.ref a1)])) rfl rfl (hb hby d1_1)
  refine own_Go.by st1 ?_
  show own_Go p.tables e below _ (T1.setTop (mkF m 4 #[.val (.ref a1)] [(.ref a2)]))
  obtain ⟨fs, hr, hrun, hended, hW, hsame⟩ := X1.leave (v := some (.ref a2)) (fun h => by rw [Bd.returns] at h; cases h)
  refine own_Go.fin (retOut X1 hx Bd.returns rfl (Or.inr (Or.inr (Or.inr (Or.inr ⟨rfl, rfl, rfl⟩)))) (hb hby d1_4) hr) ⟨hrun, hended, _, _, rfl, ?_, ⟨_, rfl⟩, hW, hsame.mono (by decide) (by decide)⟩
  show Q1 Z a1 a2 h0 n0 _ T1.heap _
  rw [e1]
  exact ⟨rfl, N0, rfl⟩

theorem d2_0 : decode prog_59_method_23_code 0 = .ok (.aload_n 0, 1) := by decide +kernel
theorem d2_1 : decode prog_59_method_23_code 1 = .ok (.getfield 45, 3) := by decide +kernel
theorem d2_4 : decode prog_59_method_23_code 4 = .ok (.areturn, 1) := by decide +kernel
theorem own_ef_2 (m : MethodId) (a1 : Addr) : entryFrame m #[(.ref a1)] 1 = mkF m 0 #[.val (.ref a1)] [] := by first | (simp [entryFrame, mkF, argsToLocals, Value.category]; done) | rfl
def Q2 (Z : State) (a1 : Addr) (a2 : Addr) (h0 : Heap) (n0 : Nat) (v : Option Value) (h : Heap) (L : List Loc) : Prop := v = some (.ref a2) ∧ Fr n0 L ∧ h = h0
set_option maxRecDepth 65536 in
set_option maxHeartbeats 40000000 in
theorem rm2 (l : Launch) (Z : State) (a0 : Array Value) (hw : ∀ d ∈ tables_1, d.before a0 Z = true) (ws : List Jvm.Cond) (a1 : Addr) (a2 : Addr) (h0 : Heap) (n0 : Nat) (O0 : Old Z n0 h0) (H0 : Fld Z h0 a1 "com/example/gridmatch/gridmatch/Product" "restrictions" "Ljava/util/Set;" (.ref a2)) :
    MetFree l (⟨"com/example/gridmatch/gridmatch/Product", "restrictions", "()Ljava/util/Set;"⟩ : MethodName) (head1 (Jvm.Cond.code (⟨"com/example/gridmatch/gridmatch/Product", "restrictions", "()Ljava/util/Set;"⟩ : MethodName) prog_59_method_23_code 1 (some (.object "java/util/Set")) :: ws) ({ frames := 0, cells := 0, slots := 0, locals := 0 } : Room)) (fun a U => a = #[(.ref a1)] ∧ Z.Warmed39 U.vm ∧ U.heap = h0) (fun _ _ _ _ _ => True) (fun _ U o U' => ∃ v L, o = .returned v ∧ Q2 Z a1 a2 h0 n0 v U'.heap L ∧ FrameEnd U o U' L ({ frames := 0, cells := 0, slots := 0, locals := 0 } : Room).cells ({ frames := 0, cells := 0, slots := 0, locals := 0 } : Room).slots) := by
  refine MetFree.of_bodySF (plainFor_of_name own_pn_com_example_gridmatch_gridmatch_Product) hisR ?_
  intro p e s m args below meth c s₁ Bd hml0 hP hK
  obtain ⟨rfl, hZ, hh⟩ := hP
  have hx := Bd.exec
  have hby := Bd.bytes
  have hml : c.maxLocals = 1 := hml0
  have hown : s.vm.findClass "com/example/gridmatch/gridmatch/Product" = some m.cls := findClass_of_methodNamed Bd.named
  have hnm := (name_of_methodNamed Bd.named Bd.method).1
  have X0 : Stand p l e ({ frames := 0, cells := 0, slots := 0, locals := 0 } : Room) s m #[(.ref a1)] below meth c s₁ [] 0 0 := Stand.of_body Bd
  have e0 : s₁.heap = h0 := by rw [← hh, Bd.state]; rfl
  have N0 := Fr.nil n0
  have K0 : Keep h0 h0 [] := Keep.refl h0 []
  show own_Go p.tables e below _ (s₁.setTop (entryFrame m #[(.ref a1)] 1))
  refine own_Go.by (fun tq kq => castTop (own_ef_2 m a1) kq) ?_
  show own_Go p.tables e below _ (s₁.setTop (mkF m 0 #[.val (.ref a1)] []))
  refine own_Go.by (fun tq kq => XS.aloadN X0.here hx rfl (hb hby d2_0) rfl rfl kq) ?_
  show own_Go p.tables e below _ (s₁.setTop (mkF m 1 #[.val (.ref a1)] [(.ref a1)]))
  obtain ⟨T1, X1, e1, st1⟩ := getF X0 hx hZ hown (host := "") (Or.inl (hw _ (List.mem_of_getElem? (i := 18) rfl))) Via.refl e0 H0 (g := (mkF m 1 #[.val (.ref a1)] [(.ref a1)])) rfl rfl (hb hby d2_1)
  refine own_Go.by st1 ?_
  show own_Go p.tables e below _ (T1.setTop (mkF m 4 #[.val (.ref a1)] [(.ref a2)]))
  obtain ⟨fs, hr, hrun, hended, hW, hsame⟩ := X1.leave (v := some (.ref a2)) (fun h => by rw [Bd.returns] at h; cases h)
  refine own_Go.fin (retOut X1 hx Bd.returns rfl (Or.inr (Or.inr (Or.inr (Or.inr ⟨rfl, rfl, rfl⟩)))) (hb hby d2_4) hr) ⟨hrun, hended, _, _, rfl, ?_, ⟨_, rfl⟩, hW, hsame.mono (by decide) (by decide)⟩
  show Q2 Z a1 a2 h0 n0 _ T1.heap _
  rw [e1]
  exact ⟨rfl, N0, rfl⟩

theorem own_pd0 : parseMethodDescriptor "()V" = some ⟨[], none⟩ := by decide +kernel
theorem own_pd1 : parseMethodDescriptor "(Ljava/util/Collection;)Ljava/util/Set;" = some ⟨[(.object "java/util/Collection")], some (.object "java/util/Set")⟩ := by decide +kernel
theorem d3_0 : decode prog_59_method_1_code 0 = .ok (.aload_n 0, 1) := by decide +kernel
theorem d3_1 : decode prog_59_method_1_code 1 = .ok (.invokespecial 1, 3) := by decide +kernel
theorem d3_4 : decode prog_59_method_1_code 4 = .ok (.aload 16, 2) := by decide +kernel
theorem d3_6 : decode prog_59_method_1_code 6 = .ok (.invokestatic 7, 3) := by decide +kernel
theorem d3_9 : decode prog_59_method_1_code 9 = .ok (.astore 16, 2) := by decide +kernel
theorem d3_11 : decode prog_59_method_1_code 11 = .ok (.aload 17, 2) := by decide +kernel
theorem d3_13 : decode prog_59_method_1_code 13 = .ok (.invokestatic 7, 3) := by decide +kernel
theorem d3_16 : decode prog_59_method_1_code 16 = .ok (.astore 17, 2) := by decide +kernel
theorem d3_18 : decode prog_59_method_1_code 18 = .ok (.aload_n 0, 1) := by decide +kernel
theorem d3_19 : decode prog_59_method_1_code 19 = .ok (.lload_n 1, 1) := by decide +kernel
theorem d3_20 : decode prog_59_method_1_code 20 = .ok (.putfield 13, 3) := by decide +kernel
theorem d3_23 : decode prog_59_method_1_code 23 = .ok (.aload_n 0, 1) := by decide +kernel
theorem d3_24 : decode prog_59_method_1_code 24 = .ok (.aload_n 3, 1) := by decide +kernel
theorem d3_25 : decode prog_59_method_1_code 25 = .ok (.putfield 19, 3) := by decide +kernel
theorem d3_28 : decode prog_59_method_1_code 28 = .ok (.aload_n 0, 1) := by decide +kernel
theorem d3_29 : decode prog_59_method_1_code 29 = .ok (.lload 4, 2) := by decide +kernel
theorem d3_31 : decode prog_59_method_1_code 31 = .ok (.putfield 23, 3) := by decide +kernel
theorem d3_34 : decode prog_59_method_1_code 34 = .ok (.aload_n 0, 1) := by decide +kernel
theorem d3_35 : decode prog_59_method_1_code 35 = .ok (.lload 6, 2) := by decide +kernel
theorem d3_37 : decode prog_59_method_1_code 37 = .ok (.putfield 26, 3) := by decide +kernel
theorem d3_40 : decode prog_59_method_1_code 40 = .ok (.aload_n 0, 1) := by decide +kernel
theorem d3_41 : decode prog_59_method_1_code 41 = .ok (.lload 8, 2) := by decide +kernel
theorem d3_43 : decode prog_59_method_1_code 43 = .ok (.putfield 29, 3) := by decide +kernel
theorem d3_46 : decode prog_59_method_1_code 46 = .ok (.aload_n 0, 1) := by decide +kernel
theorem d3_47 : decode prog_59_method_1_code 47 = .ok (.lload 10, 2) := by decide +kernel
theorem d3_49 : decode prog_59_method_1_code 49 = .ok (.putfield 32, 3) := by decide +kernel
theorem d3_52 : decode prog_59_method_1_code 52 = .ok (.aload_n 0, 1) := by decide +kernel
theorem d3_53 : decode prog_59_method_1_code 53 = .ok (.lload 12, 2) := by decide +kernel
theorem d3_55 : decode prog_59_method_1_code 55 = .ok (.putfield 35, 3) := by decide +kernel
theorem d3_58 : decode prog_59_method_1_code 58 = .ok (.aload_n 0, 1) := by decide +kernel
theorem d3_59 : decode prog_59_method_1_code 59 = .ok (.lload 14, 2) := by decide +kernel
theorem d3_61 : decode prog_59_method_1_code 61 = .ok (.putfield 38, 3) := by decide +kernel
theorem d3_64 : decode prog_59_method_1_code 64 = .ok (.aload_n 0, 1) := by decide +kernel
theorem d3_65 : decode prog_59_method_1_code 65 = .ok (.aload 16, 2) := by decide +kernel
theorem d3_67 : decode prog_59_method_1_code 67 = .ok (.putfield 41, 3) := by decide +kernel
theorem d3_70 : decode prog_59_method_1_code 70 = .ok (.aload_n 0, 1) := by decide +kernel
theorem d3_71 : decode prog_59_method_1_code 71 = .ok (.aload 17, 2) := by decide +kernel
theorem d3_73 : decode prog_59_method_1_code 73 = .ok (.putfield 45, 3) := by decide +kernel
theorem d3_76 : decode prog_59_method_1_code 76 = .ok (.aload_n 0, 1) := by decide +kernel
theorem d3_77 : decode prog_59_method_1_code 77 = .ok (.iload 18, 2) := by decide +kernel
theorem d3_79 : decode prog_59_method_1_code 79 = .ok (.putfield 48, 3) := by decide +kernel
theorem d3_82 : decode prog_59_method_1_code 82 = .ok (.return_, 1) := by decide +kernel
theorem own_ef_3 (m : MethodId) (a1 : Addr) (q2 : Int64) (q3 : Int64) (q4 : Int64) (q5 : Int64) (q6 : Int64) (q7 : Int64) (q8 : Int64) (a9 : Addr) (a10 : Addr) (p11 : Int32) : entryFrame m #[(.ref a1), (.long q2), .null, (.long q3), (.long q4), (.long q5), (.long q6), (.long q7), (.long q8), (.ref a9), (.ref a10), (.int p11)] 19 = mkF m 0 #[.val (.ref a1), .val (.long q2), .second, .val .null, .val (.long q3), .second, .val (.long q4), .second, .val (.long q5), .second, .val (.long q6), .second, .val (.long q7), .second, .val (.long q8), .second, .val (.ref a9), .val (.ref a10), .val (.int p11)] [] := by first | (simp [entryFrame, mkF, argsToLocals, Value.category]; done) | rfl
def Q3 (Z : State) (a1 : Addr) (q2 : Int64) (q3 : Int64) (q4 : Int64) (q5 : Int64) (q6 : Int64) (q7 : Int64) (q8 : Int64) (a9 : Addr) (a10 : Addr) (p11 : Int32) (h0 : Heap) (n0 : Nat) (v : Option Value) (h : Heap) (L : List Loc) : Prop := v = none ∧ Fr n0 L ∧ Keep h0 h [a1] ∧ (Exa Z h a1 "com/example/gridmatch/gridmatch/Product") ∧ (Fld Z h a1 "com/example/gridmatch/gridmatch/Product" "quantityStep" "J" (.long q5)) ∧ (Fld Z h a1 "com/example/gridmatch/gridmatch/Product" "minQuantity" "J" (.long q6)) ∧ (Fld Z h a1 "com/example/gridmatch/gridmatch/Product" "maxQuantity" "J" (.long q7))
set_option maxRecDepth 65536 in
set_option maxHeartbeats 40000000 in
theorem rm3 (l : Launch) (Z : State) (a0 : Array Value) (hw : ∀ d ∈ tables_1, d.before a0 Z = true) (ws : List Jvm.Cond) (a1 : Addr) (q2 : Int64) (q3 : Int64) (q4 : Int64) (q5 : Int64) (q6 : Int64) (q7 : Int64) (q8 : Int64) (a9 : Addr) (a10 : Addr) (p11 : Int32) (h0 : Heap) (n0 : Nat) (O0 : Old Z n0 h0) (H0 : Exa Z h0 a1 "com/example/gridmatch/gridmatch/Product") (H1 : Exa Z h0 a9 "java/util/ImmutableCollections$SetN") (H2 : Exa Z h0 a10 "java/util/ImmutableCollections$SetN") (H3 : n0 ≤ a1) (H4 : Fld Z h0 a1 "com/example/gridmatch/gridmatch/Product" "tick" "J" (.long (0 : Int64))) (H5 : Fld Z h0 a1 "com/example/gridmatch/gridmatch/Product" "prices" "Lcom/example/gridmatch/gridmatch/PriceSteps;" .null) (H6 : Fld Z h0 a1 "com/example/gridmatch/gridmatch/Product" "minPrice" "J" (.long (0 : Int64))) (H7 : Fld Z h0 a1 "com/example/gridmatch/gridmatch/Product" "maxPrice" "J" (.long (0 : Int64))) (H8 : Fld Z h0 a1 "com/example/gridmatch/gridmatch/Product" "quantityStep" "J" (.long (0 : Int64))) (H9 : Fld Z h0 a1 "com/example/gridmatch/gridmatch/Product" "minQuantity" "J" (.long (0 : Int64))) (H10 : Fld Z h0 a1 "com/example/gridmatch/gridmatch/Product" "maxQuantity" "J" (.long (0 : Int64))) (H11 : Fld Z h0 a1 "com/example/gridmatch/gridmatch/Product" "minPeak" "J" (.long (0 : Int64))) (H12 : Fld Z h0 a1 "com/example/gridmatch/gridmatch/Product" "types" "Ljava/util/Set;" .null) (H13 : Fld Z h0 a1 "com/example/gridmatch/gridmatch/Product" "restrictions" "Ljava/util/Set;" .null) (H14 : Fld Z h0 a1 "com/example/gridmatch/gridmatch/Product" "gtdGridMinutes" "I" (.int (0 : Int32))) :
    MetFree l (⟨"com/example/gridmatch/gridmatch/Product", "<init>", "(JLcom/example/gridmatch/gridmatch/PriceSteps;JJJJJJLjava/util/Set;Ljava/util/Set;I)V"⟩ : MethodName) (head1 (Jvm.Cond.code (⟨"com/example/gridmatch/gridmatch/Product", "<init>", "(JLcom/example/gridmatch/gridmatch/PriceSteps;JJJJJJLjava/util/Set;Ljava/util/Set;I)V"⟩ : MethodName) prog_59_method_1_code 19 none :: ws) ({ frames := 2, cells := 0, slots := 0, locals := 24 } : Room)) (fun a U => a = #[(.ref a1), (.long q2), .null, (.long q3), (.long q4), (.long q5), (.long q6), (.long q7), (.long q8), (.ref a9), (.ref a10), (.int p11)] ∧ Z.Warmed39 U.vm ∧ U.heap = h0) (fun _ _ _ _ _ => True) (fun _ U o U' => ∃ v L, o = .returned v ∧ Q3 Z a1 q2 q3 q4 q5 q6 q7 q8 a9 a10 p11 h0 n0 v U'.heap L ∧ FrameEnd U o U' L ({ frames := 2, cells := 0, slots := 0, locals := 24 } : Room).cells ({ frames := 2, cells := 0, slots := 0, locals := 24 } : Room).slots) := by
  refine MetFree.of_bodySF (plainFor_of_name own_pn_com_example_gridmatch_gridmatch_Product) hisR ?_
  intro p e s m args below meth c s₁ Bd hml0 hP hK
  obtain ⟨rfl, hZ, hh⟩ := hP
  have hx := Bd.exec
  have hby := Bd.bytes
  have hml : c.maxLocals = 19 := hml0
  have hown : s.vm.findClass "com/example/gridmatch/gridmatch/Product" = some m.cls := findClass_of_methodNamed Bd.named
  have hnm := (name_of_methodNamed Bd.named Bd.method).1
  have X0 : Stand p l e ({ frames := 2, cells := 0, slots := 0, locals := 24 } : Room) s m #[(.ref a1), (.long q2), .null, (.long q3), (.long q4), (.long q5), (.long q6), (.long q7), (.long q8), (.ref a9), (.ref a10), (.int p11)] below meth c s₁ [] 0 0 := Stand.of_body Bd
  have e0 : s₁.heap = h0 := by rw [← hh, Bd.state]; rfl
  have N0 := Fr.nil n0
  have K0 := Keep.refl h0 [a1]
  show own_Go p.tables e below _ (s₁.setTop (entryFrame m #[(.ref a1), (.long q2), .null, (.long q3), (.long q4), (.long q5), (.long q6), (.long q7), (.long q8), (.ref a9), (.ref a10), (.int p11)] 19))
  refine own_Go.by (fun tq kq => castTop (own_ef_3 m a1 q2 q3 q4 q5 q6 q7 q8 a9 a10 p11) kq) ?_
  show own_Go p.tables e below _ (s₁.setTop (mkF m 0 #[.val (.ref a1), .val (.long q2), .second, .val .null, .val (.long q3), .second, .val (.long q4), .second, .val (.long q5), .second, .val (.long q6), .second, .val (.long q7), .second, .val (.long q8), .second, .val (.ref a9), .val (.ref a10), .val (.int p11)] []))
  refine own_Go.by (fun tq kq => XS.aloadN X0.here hx rfl (hb hby d3_0) rfl rfl kq) ?_
  show own_Go p.tables e below _ (s₁.setTop (mkF m 1 #[.val (.ref a1), .val (.long q2), .second, .val .null, .val (.long q3), .second, .val (.long q4), .second, .val (.long q5), .second, .val (.long q6), .second, .val (.long q7), .second, .val (.long q8), .second, .val (.ref a9), .val (.ref a10), .val (.int p11)] [(.ref a1)]))
  obtain ⟨_, _, ⟨T1, L1, k1, n1⟩, -, X1, ⟨Lc1, hQ1, l1, y1, z1⟩, st1⟩ := X0.specialBack hx (y := (⟨"java/lang/Record", "<init>", "()V"⟩ : MethodName)) rfl hown (mvT hZ (hw _ (List.mem_of_getElem? (i := 23) rfl))) (mvT hZ (hw _ (List.mem_of_getElem? (i := 24) rfl))) (mvT hZ (hw _ (List.mem_of_getElem? (i := 27) rfl))) (by decide) (backOf (W := 0) (rm4 l Z a0 hw [] a1 h0 n0 O0 ) hZ (hw _ (List.mem_of_getElem? (i := 27) rfl)) (hw _ (List.mem_of_getElem? (i := 26) rfl)) (by decide) (by decide)) (g := (mkF m 1 #[.val (.ref a1), .val (.long q2), .second, .val .null, .val (.long q3), .second, .val (.long q4), .second, .val (.long q5), .second, .val (.long q6), .second, .val (.long q7), .second, .val (.long q8), .second, .val (.ref a9), .val (.ref a10), .val (.int p11)] [(.ref a1)])) rfl (by rw [hml]; rfl) (Steps.refl _) (a := a1) (argsL := []) (rest := []) (lenOf own_pd0 rfl) rfl (by show 2 * 0 + _ ≤ _; exact Nat.le_of_eq rfl) (hb hby d3_1) (fun _ _ => ⟨rfl, e0, (by decide : 0 + 0 ≤ _), (by decide : 0 + 0 ≤ _)⟩)
  dsimp only [Pt.U, Pt.locs, Pt.cells, Pt.slots] at X1 l1 y1 z1 st1 hQ1
  subst l1 y1 z1
  refine own_Go.by (fun tq kq => st1.trans kq) ?_
  obtain ⟨rfl, N1q, e1⟩ := hQ1
  have N1 := Fr.app N0 N1q
  show own_Go p.tables e below _ (T1.setTop (mkF m 4 #[.val (.ref a1), .val (.long q2), .second, .val .null, .val (.long q3), .second, .val (.long q4), .second, .val (.long q5), .second, .val (.long q6), .second, .val (.long q7), .second, .val (.long q8), .second, .val (.ref a9), .val (.ref a10), .val (.int p11)] []))
  refine own_Go.by (fun tq kq => XS.aload X1.here hx rfl (hb hby d3_4) rfl rfl kq) ?_
  show own_Go p.tables e below _ (T1.setTop (mkF m 6 #[.val (.ref a1), .val (.long q2), .second, .val .null, .val (.long q3), .second, .val (.long q4), .second, .val (.long q5), .second, .val (.long q6), .second, .val (.long q7), .second, .val (.long q8), .second, .val (.ref a9), .val (.ref a10), .val (.int p11)] [(.ref a9)]))
  obtain ⟨_, _, ⟨T2, L2, k2, n2⟩, -, X2, ⟨Lc2, hQ2, l2, y2, z2⟩, st2⟩ := Jvm.LawKit.callS X1 hx (y := (⟨"java/util/Set", "copyOf", "(Ljava/util/Collection;)Ljava/util/Set;"⟩ : MethodName)) hown (mvT hZ (hw _ (List.mem_of_getElem? (i := 31) rfl))) (mvT hZ (hw _ (List.mem_of_getElem? (i := 32) rfl))) (mvT hZ (hw _ (List.mem_of_getElem? (i := 33) rfl))) (mvT hZ (hw _ (List.mem_of_getElem? (i := 34) rfl))) (by decide) (backOf (W := 0) (rm6 l Z a0 hw [] a9 h0 n0 O0 H1) hZ (hw _ (List.mem_of_getElem? (i := 34) rfl)) (hw _ (List.mem_of_getElem? (i := 33) rfl)) (by decide) (by decide)) (g := (mkF m 6 #[.val (.ref a1), .val (.long q2), .second, .val .null, .val (.long q3), .second, .val (.long q4), .second, .val (.long q5), .second, .val (.long q6), .second, .val (.long q7), .second, .val (.long q8), .second, .val (.ref a9), .val (.ref a10), .val (.int p11)] [(.ref a9)])) rfl (by rw [hml]; rfl) (argsL := [(.ref a9)]) (rest := []) (lenOf own_pd1 rfl) rfl (by show 2 * 0 + _ ≤ _; exact Nat.le_of_eq rfl) (hb hby d3_6) (fun _ _ => ⟨rfl, e1, (by decide : 0 + 0 ≤ _), (by decide : 0 + 0 ≤ _)⟩)
  dsimp only [Pt.U, Pt.locs, Pt.cells, Pt.slots] at X2 l2 y2 z2 st2 hQ2
  subst l2 y2 z2
  refine own_Go.by st2 ?_
  obtain ⟨rfl, N2q, e2⟩ := hQ2
  have N2 := Fr.app N1 N2q
  show own_Go p.tables e below _ (T2.setTop (mkF m 9 #[.val (.ref a1), .val (.long q2), .second, .val .null, .val (.long q3), .second, .val (.long q4), .second, .val (.long q5), .second, .val (.long q6), .second, .val (.long q7), .second, .val (.long q8), .second, .val (.ref a9), .val (.ref a10), .val (.int p11)] [(.ref a9)]))
  refine own_Go.by (fun tq kq => XS.astore X2.here hx rfl (hb hby d3_9) rfl rfl (l' := #[.val (.ref a1), .val (.long q2), .second, .val .null, .val (.long q3), .second, .val (.long q4), .second, .val (.long q5), .second, .val (.long q6), .second, .val (.long q7), .second, .val (.long q8), .second, .val (.ref a9), .val (.ref a10), .val (.int p11)]) rfl kq) ?_
  show own_Go p.tables e below _ (T2.setTop (mkF m 11 #[.val (.ref a1), .val (.long q2), .second, .val .null, .val (.long q3), .second, .val (.long q4), .second, .val (.long q5), .second, .val (.long q6), .second, .val (.long q7), .second, .val (.long q8), .second, .val (.ref a9), .val (.ref a10), .val (.int p11)] []))
  refine own_Go.by (fun tq kq => XS.aload X2.here hx rfl (hb hby d3_11) rfl rfl kq) ?_
  show own_Go p.tables e below _ (T2.setTop (mkF m 13 #[.val (.ref a1), .val (.long q2), .second, .val .null, .val (.long q3), .second, .val (.long q4), .second, .val (.long q5), .second, .val (.long q6), .second, .val (.long q7), .second, .val (.long q8), .second, .val (.ref a9), .val (.ref a10), .val (.int p11)] [(.ref a10)]))
  obtain ⟨_, _, ⟨T3, L3, k3, n3⟩, -, X3, ⟨Lc3, hQ3, l3, y3, z3⟩, st3⟩ := Jvm.LawKit.callS X2 hx (y := (⟨"java/util/Set", "copyOf", "(Ljava/util/Collection;)Ljava/util/Set;"⟩ : MethodName)) hown (mvT hZ (hw _ (List.mem_of_getElem? (i := 31) rfl))) (mvT hZ (hw _ (List.mem_of_getElem? (i := 32) rfl))) (mvT hZ (hw _ (List.mem_of_getElem? (i := 33) rfl))) (mvT hZ (hw _ (List.mem_of_getElem? (i := 34) rfl))) (by decide) (backOf (W := 0) (rm6 l Z a0 hw [] a10 h0 n0 O0 H2) hZ (hw _ (List.mem_of_getElem? (i := 34) rfl)) (hw _ (List.mem_of_getElem? (i := 33) rfl)) (by decide) (by decide)) (g := (mkF m 13 #[.val (.ref a1), .val (.long q2), .second, .val .null, .val (.long q3), .second, .val (.long q4), .second, .val (.long q5), .second, .val (.long q6), .second, .val (.long q7), .second, .val (.long q8), .second, .val (.ref a9), .val (.ref a10), .val (.int p11)] [(.ref a10)])) rfl (by rw [hml]; rfl) (argsL := [(.ref a10)]) (rest := []) (lenOf own_pd1 rfl) rfl (by show 2 * 0 + _ ≤ _; exact Nat.le_of_eq rfl) (hb hby d3_13) (fun _ _ => ⟨rfl, e2, (by decide : 0 + 0 ≤ _), (by decide : 0 + 0 ≤ _)⟩)
  dsimp only [Pt.U, Pt.locs, Pt.cells, Pt.slots] at X3 l3 y3 z3 st3 hQ3
  subst l3 y3 z3
  refine own_Go.by st3 ?_
  obtain ⟨rfl, N3q, e3⟩ := hQ3
  have N3 := Fr.app N2 N3q
  show own_Go p.tables e below _ (T3.setTop (mkF m 16 #[.val (.ref a1), .val (.long q2), .second, .val .null, .val (.long q3), .second, .val (.long q4), .second, .val (.long q5), .second, .val (.long q6), .second, .val (.long q7), .second, .val (.long q8), .second, .val (.ref a9), .val (.ref a10), .val (.int p11)] [(.ref a10)]))
  refine own_Go.by (fun tq kq => XS.astore X3.here hx rfl (hb hby d3_16) rfl rfl (l' := #[.val (.ref a1), .val (.long q2), .second, .val .null, .val (.long q3), .second, .val (.long q4), .second, .val (.long q5), .second, .val (.long q6), .second, .val (.long q7), .second, .val (.long q8), .second, .val (.ref a9), .val (.ref a10), .val (.int p11)]) rfl kq) ?_
  show own_Go p.tables e below _ (T3.setTop (mkF m 18 #[.val (.ref a1), .val (.long q2), .second, .val .null, .val (.long q3), .second, .val (.long q4), .second, .val (.long q5), .second, .val (.long q6), .second, .val (.long q7), .second, .val (.long q8), .second, .val (.ref a9), .val (.ref a10), .val (.int p11)] []))
  refine own_Go.by (fun tq kq => XS.aloadN X3.here hx rfl (hb hby d3_18) rfl rfl kq) ?_
  show own_Go p.tables e below _ (T3.setTop (mkF m 19 #[.val (.ref a1), .val (.long q2), .second, .val .null, .val (.long q3), .second, .val (.long q4), .second, .val (.long q5), .second, .val (.long q6), .second, .val (.long q7), .second, .val (.long q8), .second, .val (.ref a9), .val (.ref a10), .val (.int p11)] [(.ref a1)]))
  refine own_Go.by (fun tq kq => XS.lloadN X3.here hx rfl (hb hby d3_19) rfl kq) ?_
  show own_Go p.tables e below _ (T3.setTop (mkF m 20 #[.val (.ref a1), .val (.long q2), .second, .val .null, .val (.long q3), .second, .val (.long q4), .second, .val (.long q5), .second, .val (.long q6), .second, .val (.long q7), .second, .val (.long q8), .second, .val (.ref a9), .val (.ref a10), .val (.int p11)] [(.long q2), (.ref a1)]))
  obtain ⟨T4, h4, X4, e4, W4, st4⟩ := putF X3 hx hZ hown (host := "") (Or.inl (hw _ (List.mem_of_getElem? (i := 39) rfl))) Via.refl e3 H4 H0 (Or.inr ⟨(hw _ (List.mem_of_getElem? (i := 40) rfl)), rfl, hnm⟩) (hw _ (List.mem_of_getElem? (i := 2) rfl)) (ty := .long) (by decide) rfl rfl (g := (mkF m 20 #[.val (.ref a1), .val (.long q2), .second, .val .null, .val (.long q3), .second, .val (.long q4), .second, .val (.long q5), .second, .val (.long q6), .second, .val (.long q7), .second, .val (.long q8), .second, .val (.ref a9), .val (.ref a10), .val (.int p11)] [(.long q2), (.ref a1)])) rfl rfl (hb hby d3_20)
  refine own_Go.by st4 ?_
  have N4 := Fr.snoc X4 N3 H3
  have O5 := O0.wr W4 H3
  have K5 := K0.wr W4 (Or.inl (List.mem_of_getElem? (i := 0) rfl))
  have F4 := H4.same W4
  show own_Go p.tables e below _ (T4.setTop (mkF m 23 #[.val (.ref a1), .val (.long q2), .second, .val .null, .val (.long q3), .second, .val (.long q4), .second, .val (.long q5), .second, .val (.long q6), .second, .val (.long q7), .second, .val (.long q8), .second, .val (.ref a9), .val (.ref a10), .val (.int p11)] []))
  refine own_Go.by (fun tq kq => XS.aloadN X4.here hx rfl (hb hby d3_23) rfl rfl kq) ?_
  show own_Go p.tables e below _ (T4.setTop (mkF m 24 #[.val (.ref a1), .val (.long q2), .second, .val .null, .val (.long q3), .second, .val (.long q4), .second, .val (.long q5), .second, .val (.long q6), .second, .val (.long q7), .second, .val (.long q8), .second, .val (.ref a9), .val (.ref a10), .val (.int p11)] [(.ref a1)]))
  refine own_Go.by (fun tq kq => XS.aloadN X4.here hx rfl (hb hby d3_24) rfl rfl kq) ?_
  show own_Go p.tables e below _ (T4.setTop (mkF m 25 #[.val (.ref a1), .val (.long q2), .second, .val .null, .val (.long q3), .second, .val (.long q4), .second, .val (.long q5), .second, .val (.long q6), .second, .val (.long q7), .second, .val (.long q8), .second, .val (.ref a9), .val (.ref a10), .val (.int p11)] [.null, (.ref a1)]))
  have c6 := (H5.other W4 (Or.inr (slot_ne (Or.inr (hw _ (List.mem_of_getElem? (i := 42) rfl))) (Or.inr (hw _ (List.mem_of_getElem? (i := 40) rfl))) (by decide) (t := (.object "com/example/gridmatch/gridmatch/PriceSteps")) (t' := .long) (by decide) (by decide))))
  have c7 := (H0.wr W4)
  obtain ⟨T8, h8, X8, e8, W8, st8⟩ := putF X4 hx hZ hown (host := "") (Or.inl (hw _ (List.mem_of_getElem? (i := 41) rfl))) Via.refl e4 c6 c7 (Or.inr ⟨(hw _ (List.mem_of_getElem? (i := 42) rfl)), rfl, hnm⟩) (hw _ (List.mem_of_getElem? (i := 2) rfl)) (ty := (.object "com/example/gridmatch/gridmatch/PriceSteps")) (by decide) rfl rfl (g := (mkF m 25 #[.val (.ref a1), .val (.long q2), .second, .val .null, .val (.long q3), .second, .val (.long q4), .second, .val (.long q5), .second, .val (.long q6), .second, .val (.long q7), .second, .val (.long q8), .second, .val (.ref a9), .val (.ref a10), .val (.int p11)] [.null, (.ref a1)])) rfl rfl (hb hby d3_25)
  refine own_Go.by st8 ?_
  have N8 := Fr.snoc X8 N4 H3
  have O9 := O5.wr W8 H3
  have K9 := K5.wr W8 (Or.inl (List.mem_of_getElem? (i := 0) rfl))
  have F8 := c6.same W8
  show own_Go p.tables e below _ (T8.setTop (mkF m 28 #[.val (.ref a1), .val (.long q2), .second, .val .null, .val (.long q3), .second, .val (.long q4), .second, .val (.long q5), .second, .val (.long q6), .second, .val (.long q7), .second, .val (.long q8), .second, .val (.ref a9), .val (.ref a10), .val (.int p11)] []))
  refine own_Go.by (fun tq kq => XS.aloadN X8.here hx rfl (hb hby d3_28) rfl rfl kq) ?_
  show own_Go p.tables e below _ (T8.setTop (mkF m 29 #[.val (.ref a1), .val (.long q2), .second, .val .null, .val (.long q3), .second, .val (.long q4), .second, .val (.long q5), .second, .val (.long q6), .second, .val (.long q7), .second, .val (.long q8), .second, .val (.ref a9), .val (.ref a10), .val (.int p11)] [(.ref a1)]))
  refine own_Go.by (fun tq kq => XS.lload X8.here hx rfl (hb hby d3_29) rfl kq) ?_
  show own_Go p.tables e below _ (T8.setTop (mkF m 31 #[.val (.ref a1), .val (.long q2), .second, .val .null, .val (.long q3), .second, .val (.long q4), .second, .val (.long q5), .second, .val (.long q6), .second, .val (.long q7), .second, .val (.long q8), .second, .val (.ref a9), .val (.ref a10), .val (.int p11)] [(.long q3), (.ref a1)]))
  have c10 := ((H6.other W4 (Or.inr (slot_ne (Or.inr (hw _ (List.mem_of_getElem? (i := 44) rfl))) (Or.inr (hw _ (List.mem_of_getElem? (i := 40) rfl))) (by decide) (t := .long) (t' := .long) (by decide) (by decide)))).other W8 (Or.inr (slot_ne (Or.inr (hw _ (List.mem_of_getElem? (i := 44) rfl))) (Or.inr (hw _ (List.mem_of_getElem? (i := 42) rfl))) (by decide) (t := .long) (t' := (.object "com/example/gridmatch/gridmatch/PriceSteps")) (by decide) (by decide))))
  have c11 := (c7.wr W8)
  obtain ⟨T12, h12, X12, e12, W12, st12⟩ := putF X8 hx hZ hown (host := "") (Or.inl (hw _ (List.mem_of_getElem? (i := 43) rfl))) Via.refl e8 c10 c11 (Or.inr ⟨(hw _ (List.mem_of_getElem? (i := 44) rfl)), rfl, hnm⟩) (hw _ (List.mem_of_getElem? (i := 2) rfl)) (ty := .long) (by decide) rfl rfl (g := (mkF m 31 #[.val (.ref a1), .val (.long q2), .second, .val .null, .val (.long q3), .second, .val (.long q4), .second, .val (.long q5), .second, .val (.long q6), .second, .val (.long q7), .second, .val (.long q8), .second, .val (.ref a9), .val (.ref a10), .val (.int p11)] [(.long q3), (.ref a1)])) rfl rfl (hb hby d3_31)
  refine own_Go.by st12 ?_
  have N12 := Fr.snoc X12 N8 H3
  have O13 := O9.wr W12 H3
  have K13 := K9.wr W12 (Or.inl (List.mem_of_getElem? (i := 0) rfl))
  have F12 := c10.same W12
  show own_Go p.tables e below _ (T12.setTop (mkF m 34 #[.val (.ref a1), .val (.long q2), .second, .val .null, .val (.long q3), .second, .val (.long q4), .second, .val (.long q5), .second, .val (.long q6), .second, .val (.long q7), .second, .val (.long q8), .second, .val (.ref a9), .val (.ref a10), .val (.int p11)] []))
  refine own_Go.by (fun tq kq => XS.aloadN X12.here hx rfl (hb hby d3_34) rfl rfl kq) ?_
  show own_Go p.tables e below _ (T12.setTop (mkF m 35 #[.val (.ref a1), .val (.long q2), .second, .val .null, .val (.long q3), .second, .val (.long q4), .second, .val (.long q5), .second, .val (.long q6), .second, .val (.long q7), .second, .val (.long q8), .second, .val (.ref a9), .val (.ref a10), .val (.int p11)] [(.ref a1)]))
  refine own_Go.by (fun tq kq => XS.lload X12.here hx rfl (hb hby d3_35) rfl kq) ?_
  show own_Go p.tables e below _ (T12.setTop (mkF m 37 #[.val (.ref a1), .val (.long q2), .second, .val .null, .val (.long q3), .second, .val (.long q4), .second, .val (.long q5), .second, .val (.long q6), .second, .val (.long q7), .second, .val (.long q8), .second, .val (.ref a9), .val (.ref a10), .val (.int p11)] [(.long q4), (.ref a1)]))
  have c14 := (((H7.other W4 (Or.inr (slot_ne (Or.inr (hw _ (List.mem_of_getElem? (i := 46) rfl))) (Or.inr (hw _ (List.mem_of_getElem? (i := 40) rfl))) (by decide) (t := .long) (t' := .long) (by decide) (by decide)))).other W8 (Or.inr (slot_ne (Or.inr (hw _ (List.mem_of_getElem? (i := 46) rfl))) (Or.inr (hw _ (List.mem_of_getElem? (i := 42) rfl))) (by decide) (t := .long) (t' := (.object "com/example/gridmatch/gridmatch/PriceSteps")) (by decide) (by decide)))).other W12 (Or.inr (slot_ne (Or.inr (hw _ (List.mem_of_getElem? (i := 46) rfl))) (Or.inr (hw _ (List.mem_of_getElem? (i := 44) rfl))) (by decide) (t := .long) (t' := .long) (by decide) (by decide))))
  have c15 := (c11.wr W12)
  obtain ⟨T16, h16, X16, e16, W16, st16⟩ := putF X12 hx hZ hown (host := "") (Or.inl (hw _ (List.mem_of_getElem? (i := 45) rfl))) Via.refl e12 c14 c15 (Or.inr ⟨(hw _ (List.mem_of_getElem? (i := 46) rfl)), rfl, hnm⟩) (hw _ (List.mem_of_getElem? (i := 2) rfl)) (ty := .long) (by decide) rfl rfl (g := (mkF m 37 #[.val (.ref a1), .val (.long q2), .second, .val .null, .val (.long q3), .second, .val (.long q4), .second, .val (.long q5), .second, .val (.long q6), .second, .val (.long q7), .second, .val (.long q8), .second, .val (.ref a9), .val (.ref a10), .val (.int p11)] [(.long q4), (.ref a1)])) rfl rfl (hb hby d3_37)
  refine own_Go.by st16 ?_
  have N16 := Fr.snoc X16 N12 H3
  have O17 := O13.wr W16 H3
  have K17 := K13.wr W16 (Or.inl (List.mem_of_getElem? (i := 0) rfl))
  have F16 := c14.same W16
  show own_Go p.tables e below _ (T16.setTop (mkF m 40 #[.val (.ref a1), .val (.long q2), .second, .val .null, .val (.long q3), .second, .val (.long q4), .second, .val (.long q5), .second, .val (.long q6), .second, .val (.long q7), .second, .val (.long q8), .second, .val (.ref a9), .val (.ref a10), .val (.int p11)] []))
  refine own_Go.by (fun tq kq => XS.aloadN X16.here hx rfl (hb hby d3_40) rfl rfl kq) ?_
  show own_Go p.tables e below _ (T16.setTop (mkF m 41 #[.val (.ref a1), .val (.long q2), .second, .val .null, .val (.long q3), .second, .val (.long q4), .second, .val (.long q5), .second, .val (.long q6), .second, .val (.long q7), .second, .val (.long q8), .second, .val (.ref a9), .val (.ref a10), .val (.int p11)] [(.ref a1)]))
  refine own_Go.by (fun tq kq => XS.lload X16.here hx rfl (hb hby d3_41) rfl kq) ?_
  show own_Go p.tables e below _ (T16.setTop (mkF m 43 #[.val (.ref a1), .val (.long q2), .second, .val .null, .val (.long q3), .second, .val (.long q4), .second, .val (.long q5), .second, .val (.long q6), .second, .val (.long q7), .second, .val (.long q8), .second, .val (.ref a9), .val (.ref a10), .val (.int p11)] [(.long q5), (.ref a1)]))
  have c18 := ((((H8.other W4 (Or.inr (slot_ne (Or.inr (hw _ (List.mem_of_getElem? (i := 48) rfl))) (Or.inr (hw _ (List.mem_of_getElem? (i := 40) rfl))) (by decide) (t := .long) (t' := .long) (by decide) (by decide)))).other W8 (Or.inr (slot_ne (Or.inr (hw _ (List.mem_of_getElem? (i := 48) rfl))) (Or.inr (hw _ (List.mem_of_getElem? (i := 42) rfl))) (by decide) (t := .long) (t' := (.object "com/example/gridmatch/gridmatch/PriceSteps")) (by decide) (by decide)))).other W12 (Or.inr (slot_ne (Or.inr (hw _ (List.mem_of_getElem? (i := 48) rfl))) (Or.inr (hw _ (List.mem_of_getElem? (i := 44) rfl))) (by decide) (t := .long) (t' := .long) (by decide) (by decide)))).other W16 (Or.inr (slot_ne (Or.inr (hw _ (List.mem_of_getElem? (i := 48) rfl))) (Or.inr (hw _ (List.mem_of_getElem? (i := 46) rfl))) (by decide) (t := .long) (t' := .long) (by decide) (by decide))))
  have c19 := (c15.wr W16)
  obtain ⟨T20, h20, X20, e20, W20, st20⟩ := putF X16 hx hZ hown (host := "") (Or.inl (hw _ (List.mem_of_getElem? (i := 47) rfl))) Via.refl e16 c18 c19 (Or.inr ⟨(hw _ (List.mem_of_getElem? (i := 48) rfl)), rfl, hnm⟩) (hw _ (List.mem_of_getElem? (i := 2) rfl)) (ty := .long) (by decide) rfl rfl (g := (mkF m 43 #[.val (.ref a1), .val (.long q2), .second, .val .null, .val (.long q3), .second, .val (.long q4), .second, .val (.long q5), .second, .val (.long q6), .second, .val (.long q7), .second, .val (.long q8), .second, .val (.ref a9), .val (.ref a10), .val (.int p11)] [(.long q5), (.ref a1)])) rfl rfl (hb hby d3_43)
  refine own_Go.by st20 ?_
  have N20 := Fr.snoc X20 N16 H3
  have O21 := O17.wr W20 H3
  have K21 := K17.wr W20 (Or.inl (List.mem_of_getElem? (i := 0) rfl))
  have F20 := c18.same W20
  show own_Go p.tables e below _ (T20.setTop (mkF m 46 #[.val (.ref a1), .val (.long q2), .second, .val .null, .val (.long q3), .second, .val (.long q4), .second, .val (.long q5), .second, .val (.long q6), .second, .val (.long q7), .second, .val (.long q8), .second, .val (.ref a9), .val (.ref a10), .val (.int p11)] []))
  refine own_Go.by (fun tq kq => XS.aloadN X20.here hx rfl (hb hby d3_46) rfl rfl kq) ?_
  show own_Go p.tables e below _ (T20.setTop (mkF m 47 #[.val (.ref a1), .val (.long q2), .second, .val .null, .val (.long q3), .second, .val (.long q4), .second, .val (.long q5), .second, .val (.long q6), .second, .val (.long q7), .second, .val (.long q8), .second, .val (.ref a9), .val (.ref a10), .val (.int p11)] [(.ref a1)]))
  refine own_Go.by (fun tq kq => XS.lload X20.here hx rfl (hb hby d3_47) rfl kq) ?_
  show own_Go p.tables e below _ (T20.setTop (mkF m 49 #[.val (.ref a1), .val (.long q2), .second, .val .null, .val (.long q3), .second, .val (.long q4), .second, .val (.long q5), .second, .val (.long q6), .second, .val (.long q7), .second, .val (.long q8), .second, .val (.ref a9), .val (.ref a10), .val (.int p11)] [(.long q6), (.ref a1)]))
  have c22 := (((((H9.other W4 (Or.inr (slot_ne (Or.inr (hw _ (List.mem_of_getElem? (i := 50) rfl))) (Or.inr (hw _ (List.mem_of_getElem? (i := 40) rfl))) (by decide) (t := .long) (t' := .long) (by decide) (by decide)))).other W8 (Or.inr (slot_ne (Or.inr (hw _ (List.mem_of_getElem? (i := 50) rfl))) (Or.inr (hw _ (List.mem_of_getElem? (i := 42) rfl))) (by decide) (t := .long) (t' := (.object "com/example/gridmatch/gridmatch/PriceSteps")) (by decide) (by decide)))).other W12 (Or.inr (slot_ne (Or.inr (hw _ (List.mem_of_getElem? (i := 50) rfl))) (Or.inr (hw _ (List.mem_of_getElem? (i := 44) rfl))) (by decide) (t := .long) (t' := .long) (by decide) (by decide)))).other W16 (Or.inr (slot_ne (Or.inr (hw _ (List.mem_of_getElem? (i := 50) rfl))) (Or.inr (hw _ (List.mem_of_getElem? (i := 46) rfl))) (by decide) (t := .long) (t' := .long) (by decide) (by decide)))).other W20 (Or.inr (slot_ne (Or.inr (hw _ (List.mem_of_getElem? (i := 50) rfl))) (Or.inr (hw _ (List.mem_of_getElem? (i := 48) rfl))) (by decide) (t := .long) (t' := .long) (by decide) (by decide))))
  have c23 := (c19.wr W20)
  obtain ⟨T24, h24, X24, e24, W24, st24⟩ := putF X20 hx hZ hown (host := "") (Or.inl (hw _ (List.mem_of_getElem? (i := 49) rfl))) Via.refl e20 c22 c23 (Or.inr ⟨(hw _ (List.mem_of_getElem? (i := 50) rfl)), rfl, hnm⟩) (hw _ (List.mem_of_getElem? (i := 2) rfl)) (ty := .long) (by decide) rfl rfl (g := (mkF m 49 #[.val (.ref a1), .val (.long q2), .second, .val .null, .val (.long q3), .second, .val (.long q4), .second, .val (.long q5), .second, .val (.long q6), .second, .val (.long q7), .second, .val (.long q8), .second, .val (.ref a9), .val (.ref a10), .val (.int p11)] [(.long q6), (.ref a1)])) rfl rfl (hb hby d3_49)
  refine own_Go.by st24 ?_
  have N24 := Fr.snoc X24 N20 H3
  have O25 := O21.wr W24 H3
  have K25 := K21.wr W24 (Or.inl (List.mem_of_getElem? (i := 0) rfl))
  have F24 := c22.same W24
  show own_Go p.tables e below _ (T24.setTop (mkF m 52 #[.val (.ref a1), .val (.long q2), .second, .val .null, .val (.long q3), .second, .val (.long q4), .second, .val (.long q5), .second, .val (.long q6), .second, .val (.long q7), .second, .val (.long q8), .second, .val (.ref a9), .val (.ref a10), .val (.int p11)] []))
  refine own_Go.by (fun tq kq => XS.aloadN X24.here hx rfl (hb hby d3_52) rfl rfl kq) ?_
  show own_Go p.tables e below _ (T24.setTop (mkF m 53 #[.val (.ref a1), .val (.long q2), .second, .val .null, .val (.long q3), .second, .val (.long q4), .second, .val (.long q5), .second, .val (.long q6), .second, .val (.long q7), .second, .val (.long q8), .second, .val (.ref a9), .val (.ref a10), .val (.int p11)] [(.ref a1)]))
  refine own_Go.by (fun tq kq => XS.lload X24.here hx rfl (hb hby d3_53) rfl kq) ?_
  show own_Go p.tables e below _ (T24.setTop (mkF m 55 #[.val (.ref a1), .val (.long q2), .second, .val .null, .val (.long q3), .second, .val (.long q4), .second, .val (.long q5), .second, .val (.long q6), .second, .val (.long q7), .second, .val (.long q8), .second, .val (.ref a9), .val (.ref a10), .val (.int p11)] [(.long q7), (.ref a1)]))
  have c26 := ((((((H10.other W4 (Or.inr (slot_ne (Or.inr (hw _ (List.mem_of_getElem? (i := 52) rfl))) (Or.inr (hw _ (List.mem_of_getElem? (i := 40) rfl))) (by decide) (t := .long) (t' := .long) (by decide) (by decide)))).other W8 (Or.inr (slot_ne (Or.inr (hw _ (List.mem_of_getElem? (i := 52) rfl))) (Or.inr (hw _ (List.mem_of_getElem? (i := 42) rfl))) (by decide) (t := .long) (t' := (.object "com/example/gridmatch/gridmatch/PriceSteps")) (by decide) (by decide)))).other W12 (Or.inr (slot_ne (Or.inr (hw _ (List.mem_of_getElem? (i := 52) rfl))) (Or.inr (hw _ (List.mem_of_getElem? (i := 44) rfl))) (by decide) (t := .long) (t' := .long) (by decide) (by decide)))).other W16 (Or.inr (slot_ne (Or.inr (hw _ (List.mem_of_getElem? (i := 52) rfl))) (Or.inr (hw _ (List.mem_of_getElem? (i := 46) rfl))) (by decide) (t := .long) (t' := .long) (by decide) (by decide)))).other W20 (Or.inr (slot_ne (Or.inr (hw _ (List.mem_of_getElem? (i := 52) rfl))) (Or.inr (hw _ (List.mem_of_getElem? (i := 48) rfl))) (by decide) (t := .long) (t' := .long) (by decide) (by decide)))).other W24 (Or.inr (slot_ne (Or.inr (hw _ (List.mem_of_getElem? (i := 52) rfl))) (Or.inr (hw _ (List.mem_of_getElem? (i := 50) rfl))) (by decide) (t := .long) (t' := .long) (by decide) (by decide))))
  have c27 := (c23.wr W24)
  obtain ⟨T28, h28, X28, e28, W28, st28⟩ := putF X24 hx hZ hown (host := "") (Or.inl (hw _ (List.mem_of_getElem? (i := 51) rfl))) Via.refl e24 c26 c27 (Or.inr ⟨(hw _ (List.mem_of_getElem? (i := 52) rfl)), rfl, hnm⟩) (hw _ (List.mem_of_getElem? (i := 2) rfl)) (ty := .long) (by decide) rfl rfl (g := (mkF m 55 #[.val (.ref a1), .val (.long q2), .second, .val .null, .val (.long q3), .second, .val (.long q4), .second, .val (.long q5), .second, .val (.long q6), .second, .val (.long q7), .second, .val (.long q8), .second, .val (.ref a9), .val (.ref a10), .val (.int p11)] [(.long q7), (.ref a1)])) rfl rfl (hb hby d3_55)
  refine own_Go.by st28 ?_
  have N28 := Fr.snoc X28 N24 H3
  have O29 := O25.wr W28 H3
  have K29 := K25.wr W28 (Or.inl (List.mem_of_getElem? (i := 0) rfl))
  have F28 := c26.same W28
  show own_Go p.tables e below _ (T28.setTop (mkF m 58 #[.val (.ref a1), .val (.long q2), .second, .val .null, .val (.long q3), .second, .val (.long q4), .second, .val (.long q5), .second, .val (.long q6), .second, .val (.long q7), .second, .val (.long q8), .second, .val (.ref a9), .val (.ref a10), .val (.int p11)] []))
  refine own_Go.by (fun tq kq => XS.aloadN X28.here hx rfl (hb hby d3_58) rfl rfl kq) ?_
  show own_Go p.tables e below _ (T28.setTop (mkF m 59 #[.val (.ref a1), .val (.long q2), .second, .val .null, .val (.long q3), .second, .val (.long q4), .second, .val (.long q5), .second, .val (.long q6), .second, .val (.long q7), .second, .val (.long q8), .second, .val (.ref a9), .val (.ref a10), .val (.int p11)] [(.ref a1)]))
  refine own_Go.by (fun tq kq => XS.lload X28.here hx rfl (hb hby d3_59) rfl kq) ?_
  show own_Go p.tables e below _ (T28.setTop (mkF m 61 #[.val (.ref a1), .val (.long q2), .second, .val .null, .val (.long q3), .second, .val (.long q4), .second, .val (.long q5), .second, .val (.long q6), .second, .val (.long q7), .second, .val (.long q8), .second, .val (.ref a9), .val (.ref a10), .val (.int p11)] [(.long q8), (.ref a1)]))
  have c30 := (((((((H11.other W4 (Or.inr (slot_ne (Or.inr (hw _ (List.mem_of_getElem? (i := 54) rfl))) (Or.inr (hw _ (List.mem_of_getElem? (i := 40) rfl))) (by decide) (t := .long) (t' := .long) (by decide) (by decide)))).other W8 (Or.inr (slot_ne (Or.inr (hw _ (List.mem_of_getElem? (i := 54) rfl))) (Or.inr (hw _ (List.mem_of_getElem? (i := 42) rfl))) (by decide) (t := .long) (t' := (.object "com/example/gridmatch/gridmatch/PriceSteps")) (by decide) (by decide)))).other W12 (Or.inr (slot_ne (Or.inr (hw _ (List.mem_of_getElem? (i := 54) rfl))) (Or.inr (hw _ (List.mem_of_getElem? (i := 44) rfl))) (by decide) (t := .long) (t' := .long) (by decide) (by decide)))).other W16 (Or.inr (slot_ne (Or.inr (hw _ (List.mem_of_getElem? (i := 54) rfl))) (Or.inr (hw _ (List.mem_of_getElem? (i := 46) rfl))) (by decide) (t := .long) (t' := .long) (by decide) (by decide)))).other W20 (Or.inr (slot_ne (Or.inr (hw _ (List.mem_of_getElem? (i := 54) rfl))) (Or.inr (hw _ (List.mem_of_getElem? (i := 48) rfl))) (by decide) (t := .long) (t' := .long) (by decide) (by decide)))).other W24 (Or.inr (slot_ne (Or.inr (hw _ (List.mem_of_getElem? (i := 54) rfl))) (Or.inr (hw _ (List.mem_of_getElem? (i := 50) rfl))) (by decide) (t := .long) (t' := .long) (by decide) (by decide)))).other W28 (Or.inr (slot_ne (Or.inr (hw _ (List.mem_of_getElem? (i := 54) rfl))) (Or.inr (hw _ (List.mem_of_getElem? (i := 52) rfl))) (by decide) (t := .long) (t' := .long) (by decide) (by decide))))
  have c31 := (c27.wr W28)
  obtain ⟨T32, h32, X32, e32, W32, st32⟩ := putF X28 hx hZ hown (host := "") (Or.inl (hw _ (List.mem_of_getElem? (i := 53) rfl))) Via.refl e28 c30 c31 (Or.inr ⟨(hw _ (List.mem_of_getElem? (i := 54) rfl)), rfl, hnm⟩) (hw _ (List.mem_of_getElem? (i := 2) rfl)) (ty := .long) (by decide) rfl rfl (g := (mkF m 61 #[.val (.ref a1), .val (.long q2), .second, .val .null, .val (.long q3), .second, .val (.long q4), .second, .val (.long q5), .second, .val (.long q6), .second, .val (.long q7), .second, .val (.long q8), .second, .val (.ref a9), .val (.ref a10), .val (.int p11)] [(.long q8), (.ref a1)])) rfl rfl (hb hby d3_61)
  refine own_Go.by st32 ?_
  have N32 := Fr.snoc X32 N28 H3
  have O33 := O29.wr W32 H3
  have K33 := K29.wr W32 (Or.inl (List.mem_of_getElem? (i := 0) rfl))
  have F32 := c30.same W32
  show own_Go p.tables e below _ (T32.setTop (mkF m 64 #[.val (.ref a1), .val (.long q2), .second, .val .null, .val (.long q3), .second, .val (.long q4), .second, .val (.long q5), .second, .val (.long q6), .second, .val (.long q7), .second, .val (.long q8), .second, .val (.ref a9), .val (.ref a10), .val (.int p11)] []))
  refine own_Go.by (fun tq kq => XS.aloadN X32.here hx rfl (hb hby d3_64) rfl rfl kq) ?_
  show own_Go p.tables e below _ (T32.setTop (mkF m 65 #[.val (.ref a1), .val (.long q2), .second, .val .null, .val (.long q3), .second, .val (.long q4), .second, .val (.long q5), .second, .val (.long q6), .second, .val (.long q7), .second, .val (.long q8), .second, .val (.ref a9), .val (.ref a10), .val (.int p11)] [(.ref a1)]))
  refine own_Go.by (fun tq kq => XS.aload X32.here hx rfl (hb hby d3_65) rfl rfl kq) ?_
  show own_Go p.tables e below _ (T32.setTop (mkF m 67 #[.val (.ref a1), .val (.long q2), .second, .val .null, .val (.long q3), .second, .val (.long q4), .second, .val (.long q5), .second, .val (.long q6), .second, .val (.long q7), .second, .val (.long q8), .second, .val (.ref a9), .val (.ref a10), .val (.int p11)] [(.ref a9), (.ref a1)]))
  have c34 := ((((((((H12.other W4 (Or.inr (slot_ne (Or.inr (hw _ (List.mem_of_getElem? (i := 12) rfl))) (Or.inr (hw _ (List.mem_of_getElem? (i := 40) rfl))) (by decide) (t := (.object "java/util/Set")) (t' := .long) (by decide) (by decide)))).other W8 (Or.inr (slot_ne (Or.inr (hw _ (List.mem_of_getElem? (i := 12) rfl))) (Or.inr (hw _ (List.mem_of_getElem? (i := 42) rfl))) (by decide) (t := (.object "java/util/Set")) (t' := (.object "com/example/gridmatch/gridmatch/PriceSteps")) (by decide) (by decide)))).other W12 (Or.inr (slot_ne (Or.inr (hw _ (List.mem_of_getElem? (i := 12) rfl))) (Or.inr (hw _ (List.mem_of_getElem? (i := 44) rfl))) (by decide) (t := (.object "java/util/Set")) (t' := .long) (by decide) (by decide)))).other W16 (Or.inr (slot_ne (Or.inr (hw _ (List.mem_of_getElem? (i := 12) rfl))) (Or.inr (hw _ (List.mem_of_getElem? (i := 46) rfl))) (by decide) (t := (.object "java/util/Set")) (t' := .long) (by decide) (by decide)))).other W20 (Or.inr (slot_ne (Or.inr (hw _ (List.mem_of_getElem? (i := 12) rfl))) (Or.inr (hw _ (List.mem_of_getElem? (i := 48) rfl))) (by decide) (t := (.object "java/util/Set")) (t' := .long) (by decide) (by decide)))).other W24 (Or.inr (slot_ne (Or.inr (hw _ (List.mem_of_getElem? (i := 12) rfl))) (Or.inr (hw _ (List.mem_of_getElem? (i := 50) rfl))) (by decide) (t := (.object "java/util/Set")) (t' := .long) (by decide) (by decide)))).other W28 (Or.inr (slot_ne (Or.inr (hw _ (List.mem_of_getElem? (i := 12) rfl))) (Or.inr (hw _ (List.mem_of_getElem? (i := 52) rfl))) (by decide) (t := (.object "java/util/Set")) (t' := .long) (by decide) (by decide)))).other W32 (Or.inr (slot_ne (Or.inr (hw _ (List.mem_of_getElem? (i := 12) rfl))) (Or.inr (hw _ (List.mem_of_getElem? (i := 54) rfl))) (by decide) (t := (.object "java/util/Set")) (t' := .long) (by decide) (by decide))))
  have c35 := (c31.wr W32)
  obtain ⟨T36, h36, X36, e36, W36, st36⟩ := putF X32 hx hZ hown (host := "") (Or.inl (hw _ (List.mem_of_getElem? (i := 11) rfl))) Via.refl e32 c34 c35 (Or.inr ⟨(hw _ (List.mem_of_getElem? (i := 12) rfl)), rfl, hnm⟩) (hw _ (List.mem_of_getElem? (i := 2) rfl)) (ty := (.object "java/util/Set")) (by decide) rfl rfl (g := (mkF m 67 #[.val (.ref a1), .val (.long q2), .second, .val .null, .val (.long q3), .second, .val (.long q4), .second, .val (.long q5), .second, .val (.long q6), .second, .val (.long q7), .second, .val (.long q8), .second, .val (.ref a9), .val (.ref a10), .val (.int p11)] [(.ref a9), (.ref a1)])) rfl rfl (hb hby d3_67)
  refine own_Go.by st36 ?_
  have N36 := Fr.snoc X36 N32 H3
  have O37 := O33.wr W36 H3
  have K37 := K33.wr W36 (Or.inl (List.mem_of_getElem? (i := 0) rfl))
  have F36 := c34.same W36
  show own_Go p.tables e below _ (T36.setTop (mkF m 70 #[.val (.ref a1), .val (.long q2), .second, .val .null, .val (.long q3), .second, .val (.long q4), .second, .val (.long q5), .second, .val (.long q6), .second, .val (.long q7), .second, .val (.long q8), .second, .val (.ref a9), .val (.ref a10), .val (.int p11)] []))
  refine own_Go.by (fun tq kq => XS.aloadN X36.here hx rfl (hb hby d3_70) rfl rfl kq) ?_
  show own_Go p.tables e below _ (T36.setTop (mkF m 71 #[.val (.ref a1), .val (.long q2), .second, .val .null, .val (.long q3), .second, .val (.long q4), .second, .val (.long q5), .second, .val (.long q6), .second, .val (.long q7), .second, .val (.long q8), .second, .val (.ref a9), .val (.ref a10), .val (.int p11)] [(.ref a1)]))
  refine own_Go.by (fun tq kq => XS.aload X36.here hx rfl (hb hby d3_71) rfl rfl kq) ?_
  show own_Go p.tables e below _ (T36.setTop (mkF m 73 #[.val (.ref a1), .val (.long q2), .second, .val .null, .val (.long q3), .second, .val (.long q4), .second, .val (.long q5), .second, .val (.long q6), .second, .val (.long q7), .second, .val (.long q8), .second, .val (.ref a9), .val (.ref a10), .val (.int p11)] [(.ref a10), (.ref a1)]))
  have c38 := (((((((((H13.other W4 (Or.inr (slot_ne (Or.inr (hw _ (List.mem_of_getElem? (i := 19) rfl))) (Or.inr (hw _ (List.mem_of_getElem? (i := 40) rfl))) (by decide) (t := (.object "java/util/Set")) (t' := .long) (by decide) (by decide)))).other W8 (Or.inr (slot_ne (Or.inr (hw _ (List.mem_of_getElem? (i := 19) rfl))) (Or.inr (hw _ (List.mem_of_getElem? (i := 42) rfl))) (by decide) (t := (.object "java/util/Set")) (t' := (.object "com/example/gridmatch/gridmatch/PriceSteps")) (by decide) (by decide)))).other W12 (Or.inr (slot_ne (Or.inr (hw _ (List.mem_of_getElem? (i := 19) rfl))) (Or.inr (hw _ (List.mem_of_getElem? (i := 44) rfl))) (by decide) (t := (.object "java/util/Set")) (t' := .long) (by decide) (by decide)))).other W16 (Or.inr (slot_ne (Or.inr (hw _ (List.mem_of_getElem? (i := 19) rfl))) (Or.inr (hw _ (List.mem_of_getElem? (i := 46) rfl))) (by decide) (t := (.object "java/util/Set")) (t' := .long) (by decide) (by decide)))).other W20 (Or.inr (slot_ne (Or.inr (hw _ (List.mem_of_getElem? (i := 19) rfl))) (Or.inr (hw _ (List.mem_of_getElem? (i := 48) rfl))) (by decide) (t := (.object "java/util/Set")) (t' := .long) (by decide) (by decide)))).other W24 (Or.inr (slot_ne (Or.inr (hw _ (List.mem_of_getElem? (i := 19) rfl))) (Or.inr (hw _ (List.mem_of_getElem? (i := 50) rfl))) (by decide) (t := (.object "java/util/Set")) (t' := .long) (by decide) (by decide)))).other W28 (Or.inr (slot_ne (Or.inr (hw _ (List.mem_of_getElem? (i := 19) rfl))) (Or.inr (hw _ (List.mem_of_getElem? (i := 52) rfl))) (by decide) (t := (.object "java/util/Set")) (t' := .long) (by decide) (by decide)))).other W32 (Or.inr (slot_ne (Or.inr (hw _ (List.mem_of_getElem? (i := 19) rfl))) (Or.inr (hw _ (List.mem_of_getElem? (i := 54) rfl))) (by decide) (t := (.object "java/util/Set")) (t' := .long) (by decide) (by decide)))).other W36 (Or.inr (slot_ne (Or.inr (hw _ (List.mem_of_getElem? (i := 19) rfl))) (Or.inr (hw _ (List.mem_of_getElem? (i := 12) rfl))) (by decide) (t := (.object "java/util/Set")) (t' := (.object "java/util/Set")) (by decide) (by decide))))
  have c39 := (c35.wr W36)
  obtain ⟨T40, h40, X40, e40, W40, st40⟩ := putF X36 hx hZ hown (host := "") (Or.inl (hw _ (List.mem_of_getElem? (i := 18) rfl))) Via.refl e36 c38 c39 (Or.inr ⟨(hw _ (List.mem_of_getElem? (i := 19) rfl)), rfl, hnm⟩) (hw _ (List.mem_of_getElem? (i := 2) rfl)) (ty := (.object "java/util/Set")) (by decide) rfl rfl (g := (mkF m 73 #[.val (.ref a1), .val (.long q2), .second, .val .null, .val (.long q3), .second, .val (.long q4), .second, .val (.long q5), .second, .val (.long q6), .second, .val (.long q7), .second, .val (.long q8), .second, .val (.ref a9), .val (.ref a10), .val (.int p11)] [(.ref a10), (.ref a1)])) rfl rfl (hb hby d3_73)
  refine own_Go.by st40 ?_
  have N40 := Fr.snoc X40 N36 H3
  have O41 := O37.wr W40 H3
  have K41 := K37.wr W40 (Or.inl (List.mem_of_getElem? (i := 0) rfl))
  have F40 := c38.same W40
  show own_Go p.tables e below _ (T40.setTop (mkF m 76 #[.val (.ref a1), .val (.long q2), .second, .val .null, .val (.long q3), .second, .val (.long q4), .second, .val (.long q5), .second, .val (.long q6), .second, .val (.long q7), .second, .val (.long q8), .second, .val (.ref a9), .val (.ref a10), .val (.int p11)] []))
  refine own_Go.by (fun tq kq => XS.aloadN X40.here hx rfl (hb hby d3_76) rfl rfl kq) ?_
  show own_Go p.tables e below _ (T40.setTop (mkF m 77 #[.val (.ref a1), .val (.long q2), .second, .val .null, .val (.long q3), .second, .val (.long q4), .second, .val (.long q5), .second, .val (.long q6), .second, .val (.long q7), .second, .val (.long q8), .second, .val (.ref a9), .val (.ref a10), .val (.int p11)] [(.ref a1)]))
  refine own_Go.by (fun tq kq => XS.iload X40.here hx rfl (hb hby d3_77) rfl kq) ?_
  show own_Go p.tables e below _ (T40.setTop (mkF m 79 #[.val (.ref a1), .val (.long q2), .second, .val .null, .val (.long q3), .second, .val (.long q4), .second, .val (.long q5), .second, .val (.long q6), .second, .val (.long q7), .second, .val (.long q8), .second, .val (.ref a9), .val (.ref a10), .val (.int p11)] [(.int p11), (.ref a1)]))
  have c42 := ((((((((((H14.other W4 (Or.inr (slot_ne (Or.inr (hw _ (List.mem_of_getElem? (i := 56) rfl))) (Or.inr (hw _ (List.mem_of_getElem? (i := 40) rfl))) (by decide) (t := .int) (t' := .long) (by decide) (by decide)))).other W8 (Or.inr (slot_ne (Or.inr (hw _ (List.mem_of_getElem? (i := 56) rfl))) (Or.inr (hw _ (List.mem_of_getElem? (i := 42) rfl))) (by decide) (t := .int) (t' := (.object "com/example/gridmatch/gridmatch/PriceSteps")) (by decide) (by decide)))).other W12 (Or.inr (slot_ne (Or.inr (hw _ (List.mem_of_getElem? (i := 56) rfl))) (Or.inr (hw _ (List.mem_of_getElem? (i := 44) rfl))) (by decide) (t := .int) (t' := .long) (by decide) (by decide)))).other W16 (Or.inr (slot_ne (Or.inr (hw _ (List.mem_of_getElem? (i := 56) rfl))) (Or.inr (hw _ (List.mem_of_getElem? (i := 46) rfl))) (by decide) (t := .int) (t' := .long) (by decide) (by decide)))).other W20 (Or.inr (slot_ne (Or.inr (hw _ (List.mem_of_getElem? (i := 56) rfl))) (Or.inr (hw _ (List.mem_of_getElem? (i := 48) rfl))) (by decide) (t := .int) (t' := .long) (by decide) (by decide)))).other W24 (Or.inr (slot_ne (Or.inr (hw _ (List.mem_of_getElem? (i := 56) rfl))) (Or.inr (hw _ (List.mem_of_getElem? (i := 50) rfl))) (by decide) (t := .int) (t' := .long) (by decide) (by decide)))).other W28 (Or.inr (slot_ne (Or.inr (hw _ (List.mem_of_getElem? (i := 56) rfl))) (Or.inr (hw _ (List.mem_of_getElem? (i := 52) rfl))) (by decide) (t := .int) (t' := .long) (by decide) (by decide)))).other W32 (Or.inr (slot_ne (Or.inr (hw _ (List.mem_of_getElem? (i := 56) rfl))) (Or.inr (hw _ (List.mem_of_getElem? (i := 54) rfl))) (by decide) (t := .int) (t' := .long) (by decide) (by decide)))).other W36 (Or.inr (slot_ne (Or.inr (hw _ (List.mem_of_getElem? (i := 56) rfl))) (Or.inr (hw _ (List.mem_of_getElem? (i := 12) rfl))) (by decide) (t := .int) (t' := (.object "java/util/Set")) (by decide) (by decide)))).other W40 (Or.inr (slot_ne (Or.inr (hw _ (List.mem_of_getElem? (i := 56) rfl))) (Or.inr (hw _ (List.mem_of_getElem? (i := 19) rfl))) (by decide) (t := .int) (t' := (.object "java/util/Set")) (by decide) (by decide))))
  have c43 := (c39.wr W40)
  obtain ⟨T44, h44, X44, e44, W44, st44⟩ := putF X40 hx hZ hown (host := "") (Or.inl (hw _ (List.mem_of_getElem? (i := 55) rfl))) Via.refl e40 c42 c43 (Or.inr ⟨(hw _ (List.mem_of_getElem? (i := 56) rfl)), rfl, hnm⟩) (hw _ (List.mem_of_getElem? (i := 2) rfl)) (ty := .int) (by decide) rfl rfl (g := (mkF m 79 #[.val (.ref a1), .val (.long q2), .second, .val .null, .val (.long q3), .second, .val (.long q4), .second, .val (.long q5), .second, .val (.long q6), .second, .val (.long q7), .second, .val (.long q8), .second, .val (.ref a9), .val (.ref a10), .val (.int p11)] [(.int p11), (.ref a1)])) rfl rfl (hb hby d3_79)
  refine own_Go.by st44 ?_
  have N44 := Fr.snoc X44 N40 H3
  have O45 := O41.wr W44 H3
  have K45 := K41.wr W44 (Or.inl (List.mem_of_getElem? (i := 0) rfl))
  have F44 := c42.same W44
  show own_Go p.tables e below _ (T44.setTop (mkF m 82 #[.val (.ref a1), .val (.long q2), .second, .val .null, .val (.long q3), .second, .val (.long q4), .second, .val (.long q5), .second, .val (.long q6), .second, .val (.long q7), .second, .val (.long q8), .second, .val (.ref a9), .val (.ref a10), .val (.int p11)] []))
  have c46 := (c43.wr W44)
  have c47 := ((((((F20.other W24 (Or.inr (slot_ne (Or.inr (hw _ (List.mem_of_getElem? (i := 48) rfl))) (Or.inr (hw _ (List.mem_of_getElem? (i := 50) rfl))) (by decide) (t := .long) (t' := .long) (by decide) (by decide)))).other W28 (Or.inr (slot_ne (Or.inr (hw _ (List.mem_of_getElem? (i := 48) rfl))) (Or.inr (hw _ (List.mem_of_getElem? (i := 52) rfl))) (by decide) (t := .long) (t' := .long) (by decide) (by decide)))).other W32 (Or.inr (slot_ne (Or.inr (hw _ (List.mem_of_getElem? (i := 48) rfl))) (Or.inr (hw _ (List.mem_of_getElem? (i := 54) rfl))) (by decide) (t := .long) (t' := .long) (by decide) (by decide)))).other W36 (Or.inr (slot_ne (Or.inr (hw _ (List.mem_of_getElem? (i := 48) rfl))) (Or.inr (hw _ (List.mem_of_getElem? (i := 12) rfl))) (by decide) (t := .long) (t' := (.object "java/util/Set")) (by decide) (by decide)))).other W40 (Or.inr (slot_ne (Or.inr (hw _ (List.mem_of_getElem? (i := 48) rfl))) (Or.inr (hw _ (List.mem_of_getElem? (i := 19) rfl))) (by decide) (t := .long) (t' := (.object "java/util/Set")) (by decide) (by decide)))).other W44 (Or.inr (slot_ne (Or.inr (hw _ (List.mem_of_getElem? (i := 48) rfl))) (Or.inr (hw _ (List.mem_of_getElem? (i := 56) rfl))) (by decide) (t := .long) (t' := .int) (by decide) (by decide))))
  have c48 := (((((F24.other W28 (Or.inr (slot_ne (Or.inr (hw _ (List.mem_of_getElem? (i := 50) rfl))) (Or.inr (hw _ (List.mem_of_getElem? (i := 52) rfl))) (by decide) (t := .long) (t' := .long) (by decide) (by decide)))).other W32 (Or.inr (slot_ne (Or.inr (hw _ (List.mem_of_getElem? (i := 50) rfl))) (Or.inr (hw _ (List.mem_of_getElem? (i := 54) rfl))) (by decide) (t := .long) (t' := .long) (by decide) (by decide)))).other W36 (Or.inr (slot_ne (Or.inr (hw _ (List.mem_of_getElem? (i := 50) rfl))) (Or.inr (hw _ (List.mem_of_getElem? (i := 12) rfl))) (by decide) (t := .long) (t' := (.object "java/util/Set")) (by decide) (by decide)))).other W40 (Or.inr (slot_ne (Or.inr (hw _ (List.mem_of_getElem? (i := 50) rfl))) (Or.inr (hw _ (List.mem_of_getElem? (i := 19) rfl))) (by decide) (t := .long) (t' := (.object "java/util/Set")) (by decide) (by decide)))).other W44 (Or.inr (slot_ne (Or.inr (hw _ (List.mem_of_getElem? (i := 50) rfl))) (Or.inr (hw _ (List.mem_of_getElem? (i := 56) rfl))) (by decide) (t := .long) (t' := .int) (by decide) (by decide))))
  have c49 := ((((F28.other W32 (Or.inr (slot_ne (Or.inr (hw _ (List.mem_of_getElem? (i := 52) rfl))) (Or.inr (hw _ (List.mem_of_getElem? (i := 54) rfl))) (by decide) (t := .long) (t' := .long) (by decide) (by decide)))).other W36 (Or.inr (slot_ne (Or.inr (hw _ (List.mem_of_getElem? (i := 52) rfl))) (Or.inr (hw _ (List.mem_of_getElem? (i := 12) rfl))) (by decide) (t := .long) (t' := (.object "java/util/Set")) (by decide) (by decide)))).other W40 (Or.inr (slot_ne (Or.inr (hw _ (List.mem_of_getElem? (i := 52) rfl))) (Or.inr (hw _ (List.mem_of_getElem? (i := 19) rfl))) (by decide) (t := .long) (t' := (.object "java/util/Set")) (by decide) (by decide)))).other W44 (Or.inr (slot_ne (Or.inr (hw _ (List.mem_of_getElem? (i := 52) rfl))) (Or.inr (hw _ (List.mem_of_getElem? (i := 56) rfl))) (by decide) (t := .long) (t' := .int) (by decide) (by decide))))
  obtain ⟨fs, hr, hrun, hended, hW, hsame⟩ := X44.leave (v := none) (fun _ => rfl)
  refine own_Go.fin (X44.returnOut hx Bd.returns (hb hby d3_82) hr) ⟨hrun, hended, _, _, rfl, ?_, ⟨_, rfl⟩, hW, hsame.mono (by decide) (by decide)⟩
  show Q3 Z a1 q2 q3 q4 q5 q6 q7 q8 a9 a10 p11 h0 n0 _ T44.heap _
  rw [e44]
  exact ⟨rfl, N44, K45, c46, c47, c48, c49⟩

theorem d7_0 : decode prog_59_method_6_code 0 = .ok (.lload_n 1, 1) := by decide +kernel
theorem d7_1 : decode prog_59_method_6_code 1 = .ok (.aload_n 0, 1) := by decide +kernel
theorem d7_2 : decode prog_59_method_6_code 2 = .ok (.getfield 29, 3) := by decide +kernel
theorem d7_5 : decode prog_59_method_6_code 5 = .ok (.lrem, 1) := by decide +kernel
theorem d7_6 : decode prog_59_method_6_code 6 = .ok (.lconst 0, 1) := by decide +kernel
theorem d7_7 : decode prog_59_method_6_code 7 = .ok (.lcmp, 1) := by decide +kernel
theorem d7_8 : decode prog_59_method_6_code 8 = .ok (.ifCond .ne 25, 3) := by decide +kernel
theorem d7_33 : decode prog_59_method_6_code 33 = .ok (.iconst 0, 1) := by decide +kernel
theorem d7_34 : decode prog_59_method_6_code 34 = .ok (.ireturn, 1) := by decide +kernel
theorem own_ef_7_a (m : MethodId) (a1 : Addr) (q2 : Int64) : entryFrame m #[(.ref a1), (.long q2)] 3 = mkF m 0 #[.val (.ref a1), .val (.long q2), .second] [] := by first | (simp [entryFrame, mkF, argsToLocals, Value.category]; done) | rfl
def Q7_a (Z : State) (a1 : Addr) (q2 : Int64) (w3 : Int64) (w4 : Int64) (w5 : Int64) (h0 : Heap) (n0 : Nat) (v : Option Value) (h : Heap) (L : List Loc) : Prop := v = some (.int (0 : Int32)) ∧ Fr n0 L ∧ h = h0
set_option maxRecDepth 65536 in
set_option maxHeartbeats 40000000 in
theorem rm7_a (l : Launch) (Z : State) (a0 : Array Value) (hw : ∀ d ∈ tables_1, d.before a0 Z = true) (ws : List Jvm.Cond) (a1 : Addr) (q2 : Int64) (w3 : Int64) (w4 : Int64) (w5 : Int64) (h0 : Heap) (n0 : Nat) (O0 : Old Z n0 h0) (H0 : Fld Z h0 a1 "com/example/gridmatch/gridmatch/Product" "quantityStep" "J" (.long w3)) (H1 : Fld Z h0 a1 "com/example/gridmatch/gridmatch/Product" "minQuantity" "J" (.long w4)) (H2 : Fld Z h0 a1 "com/example/gridmatch/gridmatch/Product" "maxQuantity" "J" (.long w5)) (hst : w3 ≠ 0) (hm : ¬ ((q2 % w3) = (0 : Int64))) :
    MetFree l (⟨"com/example/gridmatch/gridmatch/Product", "fitsQuantity", "(J)Z"⟩ : MethodName) (head1 (Jvm.Cond.code (⟨"com/example/gridmatch/gridmatch/Product", "fitsQuantity", "(J)Z"⟩ : MethodName) prog_59_method_6_code 3 (some .boolean) :: ws) ({ frames := 0, cells := 0, slots := 0, locals := 0 } : Room)) (fun a U => a = #[(.ref a1), (.long q2)] ∧ Z.Warmed39 U.vm ∧ U.heap = h0) (fun _ _ _ _ _ => True) (fun _ U o U' => ∃ v L, o = .returned v ∧ Q7_a Z a1 q2 w3 w4 w5 h0 n0 v U'.heap L ∧ FrameEnd U o U' L ({ frames := 0, cells := 0, slots := 0, locals := 0 } : Room).cells ({ frames := 0, cells := 0, slots := 0, locals := 0 } : Room).slots) := by
  refine MetFree.of_bodySF (plainFor_of_name own_pn_com_example_gridmatch_gridmatch_Product) hisR ?_
  intro p e s m args below meth c s₁ Bd hml0 hP hK
  obtain ⟨rfl, hZ, hh⟩ := hP
  have hx := Bd.exec
  have hby := Bd.bytes
  have hml : c.maxLocals = 3 := hml0
  have hown : s.vm.findClass "com/example/gridmatch/gridmatch/Product" = some m.cls := findClass_of_methodNamed Bd.named
  have hnm := (name_of_methodNamed Bd.named Bd.method).1
  have X0 : Stand p l e ({ frames := 0, cells := 0, slots := 0, locals := 0 } : Room) s m #[(.ref a1), (.long q2)] below meth c s₁ [] 0 0 := Stand.of_body Bd
  have e0 : s₁.heap = h0 := by rw [← hh, Bd.state]; rfl
  have N0 := Fr.nil n0
  have K0 : Keep h0 h0 [] := Keep.refl h0 []
  show own_Go p.tables e below _ (s₁.setTop (entryFrame m #[(.ref a1), (.long q2)] 3))
  refine own_Go.by (fun tq kq => castTop (own_ef_7_a m a1 q2) kq) ?_
  show own_Go p.tables e below _ (s₁.setTop (mkF m 0 #[.val (.ref a1), .val (.long q2), .second] []))
  refine own_Go.by (fun tq kq => XS.lloadN X0.here hx rfl (hb hby d7_0) rfl kq) ?_
  show own_Go p.tables e below _ (s₁.setTop (mkF m 1 #[.val (.ref a1), .val (.long q2), .second] [(.long q2)]))
  refine own_Go.by (fun tq kq => XS.aloadN X0.here hx rfl (hb hby d7_1) rfl rfl kq) ?_
  show own_Go p.tables e below _ (s₁.setTop (mkF m 2 #[.val (.ref a1), .val (.long q2), .second] [(.ref a1), (.long q2)]))
  obtain ⟨T1, X1, e1, st1⟩ := getF X0 hx hZ hown (host := "") (Or.inl (hw _ (List.mem_of_getElem? (i := 47) rfl))) Via.refl e0 H0 (g := (mkF m 2 #[.val (.ref a1), .val (.long q2), .second] [(.ref a1), (.long q2)])) rfl rfl (hb hby d7_2)
  refine own_Go.by st1 ?_
  show own_Go p.tables e below _ (T1.setTop (mkF m 5 #[.val (.ref a1), .val (.long q2), .second] [(.long w3), (.long q2)]))
  refine own_Go.by (fun tq kq => XS.lrem X1.here hx rfl (hb hby d7_5) rfl hst kq) ?_
  show own_Go p.tables e below _ (T1.setTop (mkF m 6 #[.val (.ref a1), .val (.long q2), .second] [(.long (q2 - (q2 / w3) * w3))]))
  rw [lrem_mod]
  show own_Go p.tables e below _ (T1.setTop (mkF m 6 #[.val (.ref a1), .val (.long q2), .second] [(.long (q2 % w3))]))
  refine own_Go.by (fun tq kq => XS.lconst X1.here hx rfl (hb hby d7_6) kq) ?_
  show own_Go p.tables e below _ (T1.setTop (mkF m 7 #[.val (.ref a1), .val (.long q2), .second] [(.long (0 : Int64)), (.long (q2 % w3))]))
  refine own_Go.by (fun tq kq => XS.lcmp X1.here hx rfl (hb hby d7_7) rfl kq) ?_
  show own_Go p.tables e below _ (T1.setTop (mkF m 8 #[.val (.ref a1), .val (.long q2), .second] [(.int (lcmpW (q2 % w3) (0 : Int64)))]))
  refine own_Go.by (fun tq kq => XS.ifYes X1.here hx rfl (pc0 := 8) (pc' := 33) rfl (hb hby d7_8) rfl ((if0 _ _).trans (feq (mt (lw_eq (q2 % w3) (0 : Int64)).mp hm)).2) (by decide) (by decide) kq) ?_
  show own_Go p.tables e below _ (T1.setTop (mkF m 33 #[.val (.ref a1), .val (.long q2), .second] []))
  refine own_Go.by (fun tq kq => XS.iconst X1.here hx rfl (hb hby d7_33) kq) ?_
  show own_Go p.tables e below _ (T1.setTop (mkF m 34 #[.val (.ref a1), .val (.long q2), .second] [(.int (0 : Int32))]))
  obtain ⟨fs, hr, hrun, hended, hW, hsame⟩ := X1.leave (v := some (.int (nar .boolean (0 : Int32)))) (fun h => by rw [Bd.returns] at h; cases h)
  refine own_Go.fin (retN X1 hx (t := .boolean) Bd.returns (by simp) (hb hby d7_34) hr) ⟨hrun, hended, _, _, rfl, ?_, ⟨_, rfl⟩, hW, hsame.mono (by decide) (by decide)⟩
  show Q7_a Z a1 q2 w3 w4 w5 h0 n0 _ T1.heap _
  rw [e1]
  exact ⟨rfl, N0, rfl⟩

theorem d7_11 : decode prog_59_method_6_code 11 = .ok (.lload_n 1, 1) := by decide +kernel
theorem d7_12 : decode prog_59_method_6_code 12 = .ok (.aload_n 0, 1) := by decide +kernel
theorem d7_13 : decode prog_59_method_6_code 13 = .ok (.getfield 32, 3) := by decide +kernel
theorem d7_16 : decode prog_59_method_6_code 16 = .ok (.lcmp, 1) := by decide +kernel
theorem d7_17 : decode prog_59_method_6_code 17 = .ok (.ifCond .lt 16, 3) := by decide +kernel
theorem own_ef_7_b (m : MethodId) (a1 : Addr) (q2 : Int64) : entryFrame m #[(.ref a1), (.long q2)] 3 = mkF m 0 #[.val (.ref a1), .val (.long q2), .second] [] := by first | (simp [entryFrame, mkF, argsToLocals, Value.category]; done) | rfl
def Q7_b (Z : State) (a1 : Addr) (q2 : Int64) (w3 : Int64) (w4 : Int64) (w5 : Int64) (h0 : Heap) (n0 : Nat) (v : Option Value) (h : Heap) (L : List Loc) : Prop := v = some (.int (0 : Int32)) ∧ Fr n0 L ∧ h = h0
set_option maxRecDepth 65536 in
set_option maxHeartbeats 40000000 in
theorem rm7_b (l : Launch) (Z : State) (a0 : Array Value) (hw : ∀ d ∈ tables_1, d.before a0 Z = true) (ws : List Jvm.Cond) (a1 : Addr) (q2 : Int64) (w3 : Int64) (w4 : Int64) (w5 : Int64) (h0 : Heap) (n0 : Nat) (O0 : Old Z n0 h0) (H0 : Fld Z h0 a1 "com/example/gridmatch/gridmatch/Product" "quantityStep" "J" (.long w3)) (H1 : Fld Z h0 a1 "com/example/gridmatch/gridmatch/Product" "minQuantity" "J" (.long w4)) (H2 : Fld Z h0 a1 "com/example/gridmatch/gridmatch/Product" "maxQuantity" "J" (.long w5)) (hst : w3 ≠ 0) (hm : (q2 % w3) = (0 : Int64)) (hlo : q2 < w4) :
    MetFree l (⟨"com/example/gridmatch/gridmatch/Product", "fitsQuantity", "(J)Z"⟩ : MethodName) (head1 (Jvm.Cond.code (⟨"com/example/gridmatch/gridmatch/Product", "fitsQuantity", "(J)Z"⟩ : MethodName) prog_59_method_6_code 3 (some .boolean) :: ws) ({ frames := 0, cells := 0, slots := 0, locals := 0 } : Room)) (fun a U => a = #[(.ref a1), (.long q2)] ∧ Z.Warmed39 U.vm ∧ U.heap = h0) (fun _ _ _ _ _ => True) (fun _ U o U' => ∃ v L, o = .returned v ∧ Q7_b Z a1 q2 w3 w4 w5 h0 n0 v U'.heap L ∧ FrameEnd U o U' L ({ frames := 0, cells := 0, slots := 0, locals := 0 } : Room).cells ({ frames := 0, cells := 0, slots := 0, locals := 0 } : Room).slots) := by
  refine MetFree.of_bodySF (plainFor_of_name own_pn_com_example_gridmatch_gridmatch_Product) hisR ?_
  intro p e s m args below meth c s₁ Bd hml0 hP hK
  obtain ⟨rfl, hZ, hh⟩ := hP
  have hx := Bd.exec
  have hby := Bd.bytes
  have hml : c.maxLocals = 3 := hml0
  have hown : s.vm.findClass "com/example/gridmatch/gridmatch/Product" = some m.cls := findClass_of_methodNamed Bd.named
  have hnm := (name_of_methodNamed Bd.named Bd.method).1
  have X0 : Stand p l e ({ frames := 0, cells := 0, slots := 0, locals := 0 } : Room) s m #[(.ref a1), (.long q2)] below meth c s₁ [] 0 0 := Stand.of_body Bd
  have e0 : s₁.heap = h0 := by rw [← hh, Bd.state]; rfl
  have N0 := Fr.nil n0
  have K0 : Keep h0 h0 [] := Keep.refl h0 []
  show own_Go p.tables e below _ (s₁.setTop (entryFrame m #[(.ref a1), (.long q2)] 3))
  refine own_Go.by (fun tq kq => castTop (own_ef_7_b m a1 q2) kq) ?_
  show own_Go p.tables e below _ (s₁.setTop (mkF m 0 #[.val (.ref a1), .val (.long q2), .second] []))
  refine own_Go.by (fun tq kq => XS.lloadN X0.here hx rfl (hb hby d7_0) rfl kq) ?_
  show own_Go p.tables e below _ (s₁.setTop (mkF m 1 #[.val (.ref a1), .val (.long q2), .second] [(.long q2)]))
  refine own_Go.by (fun tq kq => XS.aloadN X0.here hx rfl (hb hby d7_1) rfl rfl kq) ?_
  show own_Go p.tables e below _ (s₁.setTop (mkF m 2 #[.val (.ref a1), .val (.long q2), .second] [(.ref a1), (.long q2)]))
  obtain ⟨T1, X1, e1, st1⟩ := getF X0 hx hZ hown (host := "") (Or.inl (hw _ (List.mem_of_getElem? (i := 47) rfl))) Via.refl e0 H0 (g := (mkF m 2 #[.val (.ref a1), .val (.long q2), .second] [(.ref a1), (.long q2)])) rfl rfl (hb hby d7_2)
  refine own_Go.by st1 ?_
  show own_Go p.tables e below _ (T1.setTop (mkF m 5 #[.val (.ref a1), .val (.long q2), .second] [(.long w3), (.long q2)]))
  refine own_Go.by (fun tq kq => XS.lrem X1.here hx rfl (hb hby d7_5) rfl hst kq) ?_
  show own_Go p.tables e below _ (T1.setTop (mkF m 6 #[.val (.ref a1), .val (.long q2), .second] [(.long (q2 - (q2 / w3) * w3))]))
  rw [lrem_mod]
  show own_Go p.tables e below _ (T1.setTop (mkF m 6 #[.val (.ref a1), .val (.long q2), .second] [(.long (q2 % w3))]))
  refine own_Go.by (fun tq kq => XS.lconst X1.here hx rfl (hb hby d7_6) kq) ?_
  show own_Go p.tables e below _ (T1.setTop (mkF m 7 #[.val (.ref a1), .val (.long q2), .second] [(.long (0 : Int64)), (.long (q2 % w3))]))
  refine own_Go.by (fun tq kq => XS.lcmp X1.here hx rfl (hb hby d7_7) rfl kq) ?_
  show own_Go p.tables e below _ (T1.setTop (mkF m 8 #[.val (.ref a1), .val (.long q2), .second] [(.int (lcmpW (q2 % w3) (0 : Int64)))]))
  refine own_Go.by (fun tq kq => XS.ifNo X1.here hx rfl (hb hby d7_8) rfl ((if0 _ _).trans (teq ((lw_eq (q2 % w3) (0 : Int64)).mpr hm)).2) kq) ?_
  show own_Go p.tables e below _ (T1.setTop (mkF m 11 #[.val (.ref a1), .val (.long q2), .second] []))
  refine own_Go.by (fun tq kq => XS.lloadN X1.here hx rfl (hb hby d7_11) rfl kq) ?_
  show own_Go p.tables e below _ (T1.setTop (mkF m 12 #[.val (.ref a1), .val (.long q2), .second] [(.long q2)]))
  refine own_Go.by (fun tq kq => XS.aloadN X1.here hx rfl (hb hby d7_12) rfl rfl kq) ?_
  show own_Go p.tables e below _ (T1.setTop (mkF m 13 #[.val (.ref a1), .val (.long q2), .second] [(.ref a1), (.long q2)]))
  obtain ⟨T2, X2, e2, st2⟩ := getF X1 hx hZ hown (host := "") (Or.inl (hw _ (List.mem_of_getElem? (i := 49) rfl))) Via.refl e1 H1 (g := (mkF m 13 #[.val (.ref a1), .val (.long q2), .second] [(.ref a1), (.long q2)])) rfl rfl (hb hby d7_13)
  refine own_Go.by st2 ?_
  show own_Go p.tables e below _ (T2.setTop (mkF m 16 #[.val (.ref a1), .val (.long q2), .second] [(.long w4), (.long q2)]))
  refine own_Go.by (fun tq kq => XS.lcmp X2.here hx rfl (hb hby d7_16) rfl kq) ?_
  show own_Go p.tables e below _ (T2.setTop (mkF m 17 #[.val (.ref a1), .val (.long q2), .second] [(.int (lcmpW q2 w4))]))
  refine own_Go.by (fun tq kq => XS.ifYes X2.here hx rfl (pc0 := 17) (pc' := 33) rfl (hb hby d7_17) rfl ((if0 _ _).trans (tlt ((lw_lt q2 w4).mpr hlo)).1) (by decide) (by decide) kq) ?_
  show own_Go p.tables e below _ (T2.setTop (mkF m 33 #[.val (.ref a1), .val (.long q2), .second] []))
  refine own_Go.by (fun tq kq => XS.iconst X2.here hx rfl (hb hby d7_33) kq) ?_
  show own_Go p.tables e below _ (T2.setTop (mkF m 34 #[.val (.ref a1), .val (.long q2), .second] [(.int (0 : Int32))]))
  obtain ⟨fs, hr, hrun, hended, hW, hsame⟩ := X2.leave (v := some (.int (nar .boolean (0 : Int32)))) (fun h => by rw [Bd.returns] at h; cases h)
  refine own_Go.fin (retN X2 hx (t := .boolean) Bd.returns (by simp) (hb hby d7_34) hr) ⟨hrun, hended, _, _, rfl, ?_, ⟨_, rfl⟩, hW, hsame.mono (by decide) (by decide)⟩
  show Q7_b Z a1 q2 w3 w4 w5 h0 n0 _ T2.heap _
  rw [e2]
  exact ⟨rfl, N0, rfl⟩

theorem d7_20 : decode prog_59_method_6_code 20 = .ok (.lload_n 1, 1) := by decide +kernel
theorem d7_21 : decode prog_59_method_6_code 21 = .ok (.aload_n 0, 1) := by decide +kernel
theorem d7_22 : decode prog_59_method_6_code 22 = .ok (.getfield 35, 3) := by decide +kernel
theorem d7_25 : decode prog_59_method_6_code 25 = .ok (.lcmp, 1) := by decide +kernel
theorem d7_26 : decode prog_59_method_6_code 26 = .ok (.ifCond .gt 7, 3) := by decide +kernel
theorem own_ef_7_c (m : MethodId) (a1 : Addr) (q2 : Int64) : entryFrame m #[(.ref a1), (.long q2)] 3 = mkF m 0 #[.val (.ref a1), .val (.long q2), .second] [] := by first | (simp [entryFrame, mkF, argsToLocals, Value.category]; done) | rfl
def Q7_c (Z : State) (a1 : Addr) (q2 : Int64) (w3 : Int64) (w4 : Int64) (w5 : Int64) (h0 : Heap) (n0 : Nat) (v : Option Value) (h : Heap) (L : List Loc) : Prop := v = some (.int (0 : Int32)) ∧ Fr n0 L ∧ h = h0
set_option maxRecDepth 65536 in
set_option maxHeartbeats 40000000 in
theorem rm7_c (l : Launch) (Z : State) (a0 : Array Value) (hw : ∀ d ∈ tables_1, d.before a0 Z = true) (ws : List Jvm.Cond) (a1 : Addr) (q2 : Int64) (w3 : Int64) (w4 : Int64) (w5 : Int64) (h0 : Heap) (n0 : Nat) (O0 : Old Z n0 h0) (H0 : Fld Z h0 a1 "com/example/gridmatch/gridmatch/Product" "quantityStep" "J" (.long w3)) (H1 : Fld Z h0 a1 "com/example/gridmatch/gridmatch/Product" "minQuantity" "J" (.long w4)) (H2 : Fld Z h0 a1 "com/example/gridmatch/gridmatch/Product" "maxQuantity" "J" (.long w5)) (hst : w3 ≠ 0) (hm : (q2 % w3) = (0 : Int64)) (hlo : ¬ (q2 < w4)) (hhi : w5 < q2) :
    MetFree l (⟨"com/example/gridmatch/gridmatch/Product", "fitsQuantity", "(J)Z"⟩ : MethodName) (head1 (Jvm.Cond.code (⟨"com/example/gridmatch/gridmatch/Product", "fitsQuantity", "(J)Z"⟩ : MethodName) prog_59_method_6_code 3 (some .boolean) :: ws) ({ frames := 0, cells := 0, slots := 0, locals := 0 } : Room)) (fun a U => a = #[(.ref a1), (.long q2)] ∧ Z.Warmed39 U.vm ∧ U.heap = h0) (fun _ _ _ _ _ => True) (fun _ U o U' => ∃ v L, o = .returned v ∧ Q7_c Z a1 q2 w3 w4 w5 h0 n0 v U'.heap L ∧ FrameEnd U o U' L ({ frames := 0, cells := 0, slots := 0, locals := 0 } : Room).cells ({ frames := 0, cells := 0, slots := 0, locals := 0 } : Room).slots) := by
  refine MetFree.of_bodySF (plainFor_of_name own_pn_com_example_gridmatch_gridmatch_Product) hisR ?_
  intro p e s m args below meth c s₁ Bd hml0 hP hK
  obtain ⟨rfl, hZ, hh⟩ := hP
  have hx := Bd.exec
  have hby := Bd.bytes
  have hml : c.maxLocals = 3 := hml0
  have hown : s.vm.findClass "com/example/gridmatch/gridmatch/Product" = some m.cls := findClass_of_methodNamed Bd.named
  have hnm := (name_of_methodNamed Bd.named Bd.method).1
  have X0 : Stand p l e ({ frames := 0, cells := 0, slots := 0, locals := 0 } : Room) s m #[(.ref a1), (.long q2)] below meth c s₁ [] 0 0 := Stand.of_body Bd
  have e0 : s₁.heap = h0 := by rw [← hh, Bd.state]; rfl
  have N0 := Fr.nil n0
  have K0 : Keep h0 h0 [] := Keep.refl h0 []
  show own_Go p.tables e below _ (s₁.setTop (entryFrame m #[(.ref a1), (.long q2)] 3))
  refine own_Go.by (fun tq kq => castTop (own_ef_7_c m a1 q2) kq) ?_
  show own_Go p.tables e below _ (s₁.setTop (mkF m 0 #[.val (.ref a1), .val (.long q2), .second] []))
  refine own_Go.by (fun tq kq => XS.lloadN X0.here hx rfl (hb hby d7_0) rfl kq) ?_
  show own_Go p.tables e below _ (s₁.setTop (mkF m 1 #[.val (.ref a1), .val (.long q2), .second] [(.long q2)]))
  refine own_Go.by (fun tq kq => XS.aloadN X0.here hx rfl (hb hby d7_1) rfl rfl kq) ?_
  show own_Go p.tables e below _ (s₁.setTop (mkF m 2 #[.val (.ref a1), .val (.long q2), .second] [(.ref a1), (.long q2)]))
  obtain ⟨T1, X1, e1, st1⟩ := getF X0 hx hZ hown (host := "") (Or.inl (hw _ (List.mem_of_getElem? (i := 47) rfl))) Via.refl e0 H0 (g := (mkF m 2 #[.val (.ref a1), .val (.long q2), .second] [(.ref a1), (.long q2)])) rfl rfl (hb hby d7_2)
  refine own_Go.by st1 ?_
  show own_Go p.tables e below _ (T1.setTop (mkF m 5 #[.val (.ref a1), .val (.long q2), .second] [(.long w3), (.long q2)]))
  refine own_Go.by (fun tq kq => XS.lrem X1.here hx rfl (hb hby d7_5) rfl hst kq) ?_
  show own_Go p.tables e below _ (T1.setTop (mkF m 6 #[.val (.ref a1), .val (.long q2), .second] [(.long (q2 - (q2 / w3) * w3))]))
  rw [lrem_mod]
  show own_Go p.tables e below _ (T1.setTop (mkF m 6 #[.val (.ref a1), .val (.long q2), .second] [(.long (q2 % w3))]))
  refine own_Go.by (fun tq kq => XS.lconst X1.here hx rfl (hb hby d7_6) kq) ?_
  show own_Go p.tables e below _ (T1.setTop (mkF m 7 #[.val (.ref a1), .val (.long q2), .second] [(.long (0 : Int64)), (.long (q2 % w3))]))
  refine own_Go.by (fun tq kq => XS.lcmp X1.here hx rfl (hb hby d7_7) rfl kq) ?_
  show own_Go p.tables e below _ (T1.setTop (mkF m 8 #[.val (.ref a1), .val (.long q2), .second] [(.int (lcmpW (q2 % w3) (0 : Int64)))]))
  refine own_Go.by (fun tq kq => XS.ifNo X1.here hx rfl (hb hby d7_8) rfl ((if0 _ _).trans (teq ((lw_eq (q2 % w3) (0 : Int64)).mpr hm)).2) kq) ?_
  show own_Go p.tables e below _ (T1.setTop (mkF m 11 #[.val (.ref a1), .val (.long q2), .second] []))
  refine own_Go.by (fun tq kq => XS.lloadN X1.here hx rfl (hb hby d7_11) rfl kq) ?_
  show own_Go p.tables e below _ (T1.setTop (mkF m 12 #[.val (.ref a1), .val (.long q2), .second] [(.long q2)]))
  refine own_Go.by (fun tq kq => XS.aloadN X1.here hx rfl (hb hby d7_12) rfl rfl kq) ?_
  show own_Go p.tables e below _ (T1.setTop (mkF m 13 #[.val (.ref a1), .val (.long q2), .second] [(.ref a1), (.long q2)]))
  obtain ⟨T2, X2, e2, st2⟩ := getF X1 hx hZ hown (host := "") (Or.inl (hw _ (List.mem_of_getElem? (i := 49) rfl))) Via.refl e1 H1 (g := (mkF m 13 #[.val (.ref a1), .val (.long q2), .second] [(.ref a1), (.long q2)])) rfl rfl (hb hby d7_13)
  refine own_Go.by st2 ?_
  show own_Go p.tables e below _ (T2.setTop (mkF m 16 #[.val (.ref a1), .val (.long q2), .second] [(.long w4), (.long q2)]))
  refine own_Go.by (fun tq kq => XS.lcmp X2.here hx rfl (hb hby d7_16) rfl kq) ?_
  show own_Go p.tables e below _ (T2.setTop (mkF m 17 #[.val (.ref a1), .val (.long q2), .second] [(.int (lcmpW q2 w4))]))
  refine own_Go.by (fun tq kq => XS.ifNo X2.here hx rfl (hb hby d7_17) rfl ((if0 _ _).trans (flt (mt (lw_lt q2 w4).mp hlo)).1) kq) ?_
  show own_Go p.tables e below _ (T2.setTop (mkF m 20 #[.val (.ref a1), .val (.long q2), .second] []))
  refine own_Go.by (fun tq kq => XS.lloadN X2.here hx rfl (hb hby d7_20) rfl kq) ?_
  show own_Go p.tables e below _ (T2.setTop (mkF m 21 #[.val (.ref a1), .val (.long q2), .second] [(.long q2)]))
  refine own_Go.by (fun tq kq => XS.aloadN X2.here hx rfl (hb hby d7_21) rfl rfl kq) ?_
  show own_Go p.tables e below _ (T2.setTop (mkF m 22 #[.val (.ref a1), .val (.long q2), .second] [(.ref a1), (.long q2)]))
  obtain ⟨T3, X3, e3, st3⟩ := getF X2 hx hZ hown (host := "") (Or.inl (hw _ (List.mem_of_getElem? (i := 51) rfl))) Via.refl e2 H2 (g := (mkF m 22 #[.val (.ref a1), .val (.long q2), .second] [(.ref a1), (.long q2)])) rfl rfl (hb hby d7_22)
  refine own_Go.by st3 ?_
  show own_Go p.tables e below _ (T3.setTop (mkF m 25 #[.val (.ref a1), .val (.long q2), .second] [(.long w5), (.long q2)]))
  refine own_Go.by (fun tq kq => XS.lcmp X3.here hx rfl (hb hby d7_25) rfl kq) ?_
  show own_Go p.tables e below _ (T3.setTop (mkF m 26 #[.val (.ref a1), .val (.long q2), .second] [(.int (lcmpW q2 w5))]))
  refine own_Go.by (fun tq kq => XS.ifYes X3.here hx rfl (pc0 := 26) (pc' := 33) rfl (hb hby d7_26) rfl ((if0 _ _).trans (tlt ((lw_gt q2 w5).mpr hhi)).2.2.1) (by decide) (by decide) kq) ?_
  show own_Go p.tables e below _ (T3.setTop (mkF m 33 #[.val (.ref a1), .val (.long q2), .second] []))
  refine own_Go.by (fun tq kq => XS.iconst X3.here hx rfl (hb hby d7_33) kq) ?_
  show own_Go p.tables e below _ (T3.setTop (mkF m 34 #[.val (.ref a1), .val (.long q2), .second] [(.int (0 : Int32))]))
  obtain ⟨fs, hr, hrun, hended, hW, hsame⟩ := X3.leave (v := some (.int (nar .boolean (0 : Int32)))) (fun h => by rw [Bd.returns] at h; cases h)
  refine own_Go.fin (retN X3 hx (t := .boolean) Bd.returns (by simp) (hb hby d7_34) hr) ⟨hrun, hended, _, _, rfl, ?_, ⟨_, rfl⟩, hW, hsame.mono (by decide) (by decide)⟩
  show Q7_c Z a1 q2 w3 w4 w5 h0 n0 _ T3.heap _
  rw [e3]
  exact ⟨rfl, N0, rfl⟩

theorem d7_29 : decode prog_59_method_6_code 29 = .ok (.iconst 1, 1) := by decide +kernel
theorem d7_30 : decode prog_59_method_6_code 30 = .ok (.goto 4, 3) := by decide +kernel
theorem own_ef_7_d (m : MethodId) (a1 : Addr) (q2 : Int64) : entryFrame m #[(.ref a1), (.long q2)] 3 = mkF m 0 #[.val (.ref a1), .val (.long q2), .second] [] := by first | (simp [entryFrame, mkF, argsToLocals, Value.category]; done) | rfl
def Q7_d (Z : State) (a1 : Addr) (q2 : Int64) (w3 : Int64) (w4 : Int64) (w5 : Int64) (h0 : Heap) (n0 : Nat) (v : Option Value) (h : Heap) (L : List Loc) : Prop := v = some (.int (1 : Int32)) ∧ Fr n0 L ∧ h = h0
set_option maxRecDepth 65536 in
set_option maxHeartbeats 40000000 in
theorem rm7_d (l : Launch) (Z : State) (a0 : Array Value) (hw : ∀ d ∈ tables_1, d.before a0 Z = true) (ws : List Jvm.Cond) (a1 : Addr) (q2 : Int64) (w3 : Int64) (w4 : Int64) (w5 : Int64) (h0 : Heap) (n0 : Nat) (O0 : Old Z n0 h0) (H0 : Fld Z h0 a1 "com/example/gridmatch/gridmatch/Product" "quantityStep" "J" (.long w3)) (H1 : Fld Z h0 a1 "com/example/gridmatch/gridmatch/Product" "minQuantity" "J" (.long w4)) (H2 : Fld Z h0 a1 "com/example/gridmatch/gridmatch/Product" "maxQuantity" "J" (.long w5)) (hst : w3 ≠ 0) (hm : (q2 % w3) = (0 : Int64)) (hlo : ¬ (q2 < w4)) (hhi : ¬ (w5 < q2)) :
    MetFree l (⟨"com/example/gridmatch/gridmatch/Product", "fitsQuantity", "(J)Z"⟩ : MethodName) (head1 (Jvm.Cond.code (⟨"com/example/gridmatch/gridmatch/Product", "fitsQuantity", "(J)Z"⟩ : MethodName) prog_59_method_6_code 3 (some .boolean) :: ws) ({ frames := 0, cells := 0, slots := 0, locals := 0 } : Room)) (fun a U => a = #[(.ref a1), (.long q2)] ∧ Z.Warmed39 U.vm ∧ U.heap = h0) (fun _ _ _ _ _ => True) (fun _ U o U' => ∃ v L, o = .returned v ∧ Q7_d Z a1 q2 w3 w4 w5 h0 n0 v U'.heap L ∧ FrameEnd U o U' L ({ frames := 0, cells := 0, slots := 0, locals := 0 } : Room).cells ({ frames := 0, cells := 0, slots := 0, locals := 0 } : Room).slots) := by
  refine MetFree.of_bodySF (plainFor_of_name own_pn_com_example_gridmatch_gridmatch_Product) hisR ?_
  intro p e s m args below meth c s₁ Bd hml0 hP hK
  obtain ⟨rfl, hZ, hh⟩ := hP
  have hx := Bd.exec
  have hby := Bd.bytes
  have hml : c.maxLocals = 3 := hml0
  have hown : s.vm.findClass "com/example/gridmatch/gridmatch/Product" = some m.cls := findClass_of_methodNamed Bd.named
  have hnm := (name_of_methodNamed Bd.named Bd.method).1
  have X0 : Stand p l e ({ frames := 0, cells := 0, slots := 0, locals := 0 } : Room) s m #[(.ref a1), (.long q2)] below meth c s₁ [] 0 0 := Stand.of_body Bd
  have e0 : s₁.heap = h0 := by rw [← hh, Bd.state]; rfl
  have N0 := Fr.nil n0
  have K0 : Keep h0 h0 [] := Keep.refl h0 []
  show own_Go p.tables e below _ (s₁.setTop (entryFrame m #[(.ref a1), (.long q2)] 3))
  refine own_Go.by (fun tq kq => castTop (own_ef_7_d m a1 q2) kq) ?_
  show own_Go p.tables e below _ (s₁.setTop (mkF m 0 #[.val (.ref a1), .val (.long q2), .second] []))
  refine own_Go.by (fun tq kq => XS.lloadN X0.here hx rfl (hb hby d7_0) rfl kq) ?_
  show own_Go p.tables e below _ (s₁.setTop (mkF m 1 #[.val (.ref a1), .val (.long q2), .second] [(.long q2)]))
  refine own_Go.by (fun tq kq => XS.aloadN X0.here hx rfl (hb hby d7_1) rfl rfl kq) ?_
  show own_Go p.tables e below _ (s₁.setTop (mkF m 2 #[.val (.ref a1), .val (.long q2), .second] [(.ref a1), (.long q2)]))
  obtain ⟨T1, X1, e1, st1⟩ := getF X0 hx hZ hown (host := "") (Or.inl (hw _ (List.mem_of_getElem? (i := 47) rfl))) Via.refl e0 H0 (g := (mkF m 2 #[.val (.ref a1), .val (.long q2), .second] [(.ref a1), (.long q2)])) rfl rfl (hb hby d7_2)
  refine own_Go.by st1 ?_
  show own_Go p.tables e below _ (T1.setTop (mkF m 5 #[.val (.ref a1), .val (.long q2), .second] [(.long w3), (.long q2)]))
  refine own_Go.by (fun tq kq => XS.lrem X1.here hx rfl (hb hby d7_5) rfl hst kq) ?_
  show own_Go p.tables e below _ (T1.setTop (mkF m 6 #[.val (.ref a1), .val (.long q2), .second] [(.long (q2 - (q2 / w3) * w3))]))
  rw [lrem_mod]
  show own_Go p.tables e below _ (T1.setTop (mkF m 6 #[.val (.ref a1), .val (.long q2), .second] [(.long (q2 % w3))]))
  refine own_Go.by (fun tq kq => XS.lconst X1.here hx rfl (hb hby d7_6) kq) ?_
  show own_Go p.tables e below _ (T1.setTop (mkF m 7 #[.val (.ref a1), .val (.long q2), .second] [(.long (0 : Int64)), (.long (q2 % w3))]))
  refine own_Go.by (fun tq kq => XS.lcmp X1.here hx rfl (hb hby d7_7) rfl kq) ?_
  show own_Go p.tables e below _ (T1.setTop (mkF m 8 #[.val (.ref a1), .val (.long q2), .second] [(.int (lcmpW (q2 % w3) (0 : Int64)))]))
  refine own_Go.by (fun tq kq => XS.ifNo X1.here hx rfl (hb hby d7_8) rfl ((if0 _ _).trans (teq ((lw_eq (q2 % w3) (0 : Int64)).mpr hm)).2) kq) ?_
  show own_Go p.tables e below _ (T1.setTop (mkF m 11 #[.val (.ref a1), .val (.long q2), .second] []))
  refine own_Go.by (fun tq kq => XS.lloadN X1.here hx rfl (hb hby d7_11) rfl kq) ?_
  show own_Go p.tables e below _ (T1.setTop (mkF m 12 #[.val (.ref a1), .val (.long q2), .second] [(.long q2)]))
  refine own_Go.by (fun tq kq => XS.aloadN X1.here hx rfl (hb hby d7_12) rfl rfl kq) ?_
  show own_Go p.tables e below _ (T1.setTop (mkF m 13 #[.val (.ref a1), .val (.long q2), .second] [(.ref a1), (.long q2)]))
  obtain ⟨T2, X2, e2, st2⟩ := getF X1 hx hZ hown (host := "") (Or.inl (hw _ (List.mem_of_getElem? (i := 49) rfl))) Via.refl e1 H1 (g := (mkF m 13 #[.val (.ref a1), .val (.long q2), .second] [(.ref a1), (.long q2)])) rfl rfl (hb hby d7_13)
  refine own_Go.by st2 ?_
  show own_Go p.tables e below _ (T2.setTop (mkF m 16 #[.val (.ref a1), .val (.long q2), .second] [(.long w4), (.long q2)]))
  refine own_Go.by (fun tq kq => XS.lcmp X2.here hx rfl (hb hby d7_16) rfl kq) ?_
  show own_Go p.tables e below _ (T2.setTop (mkF m 17 #[.val (.ref a1), .val (.long q2), .second] [(.int (lcmpW q2 w4))]))
  refine own_Go.by (fun tq kq => XS.ifNo X2.here hx rfl (hb hby d7_17) rfl ((if0 _ _).trans (flt (mt (lw_lt q2 w4).mp hlo)).1) kq) ?_
  show own_Go p.tables e below _ (T2.setTop (mkF m 20 #[.val (.ref a1), .val (.long q2), .second] []))
  refine own_Go.by (fun tq kq => XS.lloadN X2.here hx rfl (hb hby d7_20) rfl kq) ?_
  show own_Go p.tables e below _ (T2.setTop (mkF m 21 #[.val (.ref a1), .val (.long q2), .second] [(.long q2)]))
  refine own_Go.by (fun tq kq => XS.aloadN X2.here hx rfl (hb hby d7_21) rfl rfl kq) ?_
  show own_Go p.tables e below _ (T2.setTop (mkF m 22 #[.val (.ref a1), .val (.long q2), .second] [(.ref a1), (.long q2)]))
  obtain ⟨T3, X3, e3, st3⟩ := getF X2 hx hZ hown (host := "") (Or.inl (hw _ (List.mem_of_getElem? (i := 51) rfl))) Via.refl e2 H2 (g := (mkF m 22 #[.val (.ref a1), .val (.long q2), .second] [(.ref a1), (.long q2)])) rfl rfl (hb hby d7_22)
  refine own_Go.by st3 ?_
  show own_Go p.tables e below _ (T3.setTop (mkF m 25 #[.val (.ref a1), .val (.long q2), .second] [(.long w5), (.long q2)]))
  refine own_Go.by (fun tq kq => XS.lcmp X3.here hx rfl (hb hby d7_25) rfl kq) ?_
  show own_Go p.tables e below _ (T3.setTop (mkF m 26 #[.val (.ref a1), .val (.long q2), .second] [(.int (lcmpW q2 w5))]))
  refine own_Go.by (fun tq kq => XS.ifNo X3.here hx rfl (hb hby d7_26) rfl ((if0 _ _).trans (flt (mt (lw_gt q2 w5).mp hhi)).2.2.1) kq) ?_
  show own_Go p.tables e below _ (T3.setTop (mkF m 29 #[.val (.ref a1), .val (.long q2), .second] []))
  refine own_Go.by (fun tq kq => XS.iconst X3.here hx rfl (hb hby d7_29) kq) ?_
  show own_Go p.tables e below _ (T3.setTop (mkF m 30 #[.val (.ref a1), .val (.long q2), .second] [(.int (1 : Int32))]))
  refine own_Go.by (fun tq kq => XS.goto X3.here hx rfl (pc0 := 30) (pc' := 34) rfl (hb hby d7_30) (by decide) (by decide) kq) ?_
  show own_Go p.tables e below _ (T3.setTop (mkF m 34 #[.val (.ref a1), .val (.long q2), .second] [(.int (1 : Int32))]))
  obtain ⟨fs, hr, hrun, hended, hW, hsame⟩ := X3.leave (v := some (.int (nar .boolean (1 : Int32)))) (fun h => by rw [Bd.returns] at h; cases h)
  refine own_Go.fin (retN X3 hx (t := .boolean) Bd.returns (by simp) (hb hby d7_34) hr) ⟨hrun, hended, _, _, rfl, ?_, ⟨_, rfl⟩, hW, hsame.mono (by decide) (by decide)⟩
  show Q7_d Z a1 q2 w3 w4 w5 h0 n0 _ T3.heap _
  rw [e3]
  exact ⟨rfl, N0, rfl⟩

theorem own_pd2 : parseMethodDescriptor "()Ljava/util/Set;" = some ⟨[], some (.object "java/util/Set")⟩ := by decide +kernel
theorem own_pd3 : parseMethodDescriptor "(JLcom/example/gridmatch/gridmatch/PriceSteps;JJJJJJLjava/util/Set;Ljava/util/Set;I)V" = some ⟨[.long, (.object "com/example/gridmatch/gridmatch/PriceSteps"), .long, .long, .long, .long, .long, .long, (.object "java/util/Set"), (.object "java/util/Set"), .int], none⟩ := by decide +kernel
theorem own_pd4 : parseMethodDescriptor "(J)Z" = some ⟨[.long], some .boolean⟩ := by decide +kernel
theorem own_pn_com_example_gridmatch_gridmatch_ProductFitsQuantityPinLaw : plainName "com/example/gridmatch/gridmatch/ProductFitsQuantityPinLaw" = true := by first | (simp [plainName, overriddenIn]; done) | decide +kernel
theorem own_ef_0 (m : MethodId) (q1 : Int64) (q2 : Int64) (q3 : Int64) (q4 : Int64) (p5 : Int32) : entryFrame m #[(.long q1), (.long q2), (.long q3), (.long q4), (.int p5)] maxLocals = mkF m 0 #[.val (.long q1), .second, .val (.long q2), .second, .val (.long q3), .second, .val (.long q4), .second, .val (.int p5), .unset, .unset, .unset, .unset, .unset, .unset, .unset, .unset, .unset, .unset, .unset] [] := by first | (simp [entryFrame, mkF, argsToLocals, Value.category, maxLocals]; done) | rfl
def Q0 (Z : State) (q1 : Int64) (q2 : Int64) (q3 : Int64) (q4 : Int64) (p5 : Int32) (aD : Addr) (aT : Addr) (aR : Addr) (h0 : Heap) (n0 : Nat) (v : Option Value) (h : Heap) (L : List Loc) : Prop := v = some (.int (1 : Int32)) ∧ Fr n0 L ∧ Keep h0 h []
set_option maxRecDepth 65536 in
set_option maxHeartbeats 40000000 in
theorem rm0 (l : Launch) (Z : State) (a0 : Array Value) (hw : ∀ d ∈ tables_1, d.before a0 Z = true) (ws : List Jvm.Cond) (q1 : Int64) (q2 : Int64) (q3 : Int64) (q4 : Int64) (p5 : Int32) (aD : Addr) (aT : Addr) (aR : Addr) (h0 : Heap) (n0 : Nat) (O0 : Old Z n0 h0) (H0 : Sta Z Z.heap "com/example/gridmatch/gridmatch/Product" "DEFAULT" "Lcom/example/gridmatch/gridmatch/Product;" (.ref aD)) (H1 : Exa Z Z.heap aD "com/example/gridmatch/gridmatch/Product") (H2 : Fld Z Z.heap aD "com/example/gridmatch/gridmatch/Product" "types" "Ljava/util/Set;" (.ref aT)) (H3 : Fld Z Z.heap aD "com/example/gridmatch/gridmatch/Product" "restrictions" "Ljava/util/Set;" (.ref aR)) (H4 : Exa Z Z.heap aT "java/util/ImmutableCollections$SetN") (H5 : Exa Z Z.heap aR "java/util/ImmutableCollections$SetN") :
    MetFree l x (head1 (Jvm.Cond.code x code maxLocals ret :: ws) room_1) (fun a U => a = #[(.long q1), (.long q2), (.long q3), (.long q4), (.int p5)] ∧ Z.Warmed39 U.vm ∧ U.heap = h0) (fun _ _ _ _ _ => True) (fun _ U o U' => ∃ v L, o = .returned v ∧ Q0 Z q1 q2 q3 q4 p5 aD aT aR h0 n0 v U'.heap L ∧ FrameEnd U o U' L room_1.cells room_1.slots) := by
  refine MetFree.of_bodySF (plainFor_of_name own_pn_com_example_gridmatch_gridmatch_ProductFitsQuantityPinLaw) hisR ?_
  intro p e s m args below meth c s₁ Bd hml0 hP hK
  obtain ⟨rfl, hZ, hh⟩ := hP
  have hx := Bd.exec
  have hby := Bd.bytes
  have hml : c.maxLocals = 20 := hml0
  have hown : s.vm.findClass "com/example/gridmatch/gridmatch/ProductFitsQuantityPinLaw" = some m.cls := findClass_of_methodNamed Bd.named
  have hnm := (name_of_methodNamed Bd.named Bd.method).1
  have X0 : Stand p l e room_1 s m #[(.long q1), (.long q2), (.long q3), (.long q4), (.int p5)] below meth c s₁ [] 0 0 := Stand.of_body Bd
  have e0 : s₁.heap = h0 := by rw [← hh, Bd.state]; rfl
  have N0 := Fr.nil n0
  have K0 : Keep h0 h0 [] := Keep.refl h0 []
  show own_Go p.tables e below _ (s₁.setTop (entryFrame m #[(.long q1), (.long q2), (.long q3), (.long q4), (.int p5)] maxLocals))
  refine own_Go.by (fun tq kq => castTop (own_ef_0 m q1 q2 q3 q4 p5) kq) ?_
  refine own_merge (α := Int64) (P := fun step => (0 : Int64) < step) (F := fun step => s₁.setTop (mkF m 36 #[.val (.long q1), .second, .val (.long q2), .second, .val (.long q3), .second, .val (.long q4), .second, .val (.int p5), .val (.long step), .second, .unset, .unset, .unset, .unset, .unset, .unset, .unset, .unset, .unset] [])) ?_ ?_
  ·
    intro step h_step
    refine own_merge (α := Int64) (P := fun qty => True) (F := fun qty => s₁.setTop (mkF m 55 #[.val (.long q1), .second, .val (.long q2), .second, .val (.long q3), .second, .val (.long q4), .second, .val (.int p5), .val (.long step), .second, .val (.long qty), .second, .unset, .unset, .unset, .unset, .unset, .unset, .unset] [])) ?_ ?_
    ·
      intro qty h_qty
      refine own_merge (α := Int64) (P := fun mn => True) (F := fun mn => s₁.setTop (mkF m 70 #[.val (.long q1), .second, .val (.long q2), .second, .val (.long q3), .second, .val (.long q4), .second, .val (.int p5), .val (.long step), .second, .val (.long qty), .second, .val (.long mn), .second, .unset, .unset, .unset, .unset, .unset] [])) ?_ ?_
      ·
        intro mn h_mn
        refine own_merge (α := Int64) (P := fun mx => True) (F := fun mx => s₁.setTop (mkF m 86 #[.val (.long q1), .second, .val (.long q2), .second, .val (.long q3), .second, .val (.long q4), .second, .val (.int p5), .val (.long step), .second, .val (.long qty), .second, .val (.long mn), .second, .val (.long mx), .second, .unset, .unset, .unset] [])) ?_ ?_
        ·
          intro mx h_mx
          show own_Go p.tables e below _ (s₁.setTop (mkF m 86 #[.val (.long q1), .second, .val (.long q2), .second, .val (.long q3), .second, .val (.long q4), .second, .val (.int p5), .val (.long step), .second, .val (.long qty), .second, .val (.long mn), .second, .val (.long mx), .second, .unset, .unset, .unset] []))
          obtain ⟨T1, h1, X1, e1, E1, A1, D1, -, st1⟩ := newO X0 hx hZ hown (hw _ (List.mem_of_getElem? (i := 1) rfl)) (hw _ (List.mem_of_getElem? (i := 2) rfl)) (hw _ (List.mem_of_getElem? (i := 3) rfl)) e0 (g := (mkF m 86 #[.val (.long q1), .second, .val (.long q2), .second, .val (.long q3), .second, .val (.long q4), .second, .val (.int p5), .val (.long step), .second, .val (.long qty), .second, .val (.long mn), .second, .val (.long mx), .second, .unset, .unset, .unset] [])) rfl (hb hby at_86) (by decide) (by decide)
          obtain ⟨b1, y1⟩ : ∃ z, z = h0.size := ⟨_, rfl⟩
          rw [← y1] at A1 D1 st1
          refine own_Go.by st1 ?_
          have O2 := O0.ext E1
          have K2 := K0.ext E1
          have g3 : n0 ≤ b1 := Nat.le_trans (own_old_le O0) (Nat.le_of_eq y1.symm)
          have z3 : h0.size ≤ b1 := Nat.le_trans K0.1 (Nat.le_of_eq y1.symm)
          have F1_types : Fld Z h1 b1 "com/example/gridmatch/gridmatch/Product" "types" "Ljava/util/Set;" .null := D1 (Or.inr (hw _ (List.mem_of_getElem? (i := 12) rfl))) (ty := (.object "java/util/Set")) (by decide)
          have F1_restrictions : Fld Z h1 b1 "com/example/gridmatch/gridmatch/Product" "restrictions" "Ljava/util/Set;" .null := D1 (Or.inr (hw _ (List.mem_of_getElem? (i := 19) rfl))) (ty := (.object "java/util/Set")) (by decide)
          have F1_tick : Fld Z h1 b1 "com/example/gridmatch/gridmatch/Product" "tick" "J" (.long (0 : Int64)) := D1 (Or.inr (hw _ (List.mem_of_getElem? (i := 40) rfl))) (ty := .long) (by decide)
          have F1_prices : Fld Z h1 b1 "com/example/gridmatch/gridmatch/Product" "prices" "Lcom/example/gridmatch/gridmatch/PriceSteps;" .null := D1 (Or.inr (hw _ (List.mem_of_getElem? (i := 42) rfl))) (ty := (.object "com/example/gridmatch/gridmatch/PriceSteps")) (by decide)
          have F1_minPrice : Fld Z h1 b1 "com/example/gridmatch/gridmatch/Product" "minPrice" "J" (.long (0 : Int64)) := D1 (Or.inr (hw _ (List.mem_of_getElem? (i := 44) rfl))) (ty := .long) (by decide)
          have F1_maxPrice : Fld Z h1 b1 "com/example/gridmatch/gridmatch/Product" "maxPrice" "J" (.long (0 : Int64)) := D1 (Or.inr (hw _ (List.mem_of_getElem? (i := 46) rfl))) (ty := .long) (by decide)
          have F1_quantityStep : Fld Z h1 b1 "com/example/gridmatch/gridmatch/Product" "quantityStep" "J" (.long (0 : Int64)) := D1 (Or.inr (hw _ (List.mem_of_getElem? (i := 48) rfl))) (ty := .long) (by decide)
          have F1_minQuantity : Fld Z h1 b1 "com/example/gridmatch/gridmatch/Product" "minQuantity" "J" (.long (0 : Int64)) := D1 (Or.inr (hw _ (List.mem_of_getElem? (i := 50) rfl))) (ty := .long) (by decide)
          have F1_maxQuantity : Fld Z h1 b1 "com/example/gridmatch/gridmatch/Product" "maxQuantity" "J" (.long (0 : Int64)) := D1 (Or.inr (hw _ (List.mem_of_getElem? (i := 52) rfl))) (ty := .long) (by decide)
          have F1_minPeak : Fld Z h1 b1 "com/example/gridmatch/gridmatch/Product" "minPeak" "J" (.long (0 : Int64)) := D1 (Or.inr (hw _ (List.mem_of_getElem? (i := 54) rfl))) (ty := .long) (by decide)
          have F1_gtdGridMinutes : Fld Z h1 b1 "com/example/gridmatch/gridmatch/Product" "gtdGridMinutes" "I" (.int (0 : Int32)) := D1 (Or.inr (hw _ (List.mem_of_getElem? (i := 56) rfl))) (ty := .int) (by decide)
          show own_Go p.tables e below _ (T1.setTop (mkF m 89 #[.val (.long q1), .second, .val (.long q2), .second, .val (.long q3), .second, .val (.long q4), .second, .val (.int p5), .val (.long step), .second, .val (.long qty), .second, .val (.long mn), .second, .val (.long mx), .second, .unset, .unset, .unset] [(.ref b1)]))
          refine own_Go.by (fun tq kq => XS.dup X1.here hx rfl (hb hby at_89) rfl rfl kq) ?_
          show own_Go p.tables e below _ (T1.setTop (mkF m 90 #[.val (.long q1), .second, .val (.long q2), .second, .val (.long q3), .second, .val (.long q4), .second, .val (.int p5), .val (.long step), .second, .val (.long qty), .second, .val (.long mn), .second, .val (.long mx), .second, .unset, .unset, .unset] [(.ref b1), (.ref b1)]))
          refine own_Go.by (fun tq kq => XS.lconst X1.here hx rfl (hb hby at_90) kq) ?_
          show own_Go p.tables e below _ (T1.setTop (mkF m 91 #[.val (.long q1), .second, .val (.long q2), .second, .val (.long q3), .second, .val (.long q4), .second, .val (.int p5), .val (.long step), .second, .val (.long qty), .second, .val (.long mn), .second, .val (.long mx), .second, .unset, .unset, .unset] [(.long (1 : Int64)), (.ref b1), (.ref b1)]))
          refine own_Go.by (fun tq kq => XS.aconstNull X1.here hx rfl (hb hby at_91) kq) ?_
          show own_Go p.tables e below _ (T1.setTop (mkF m 92 #[.val (.long q1), .second, .val (.long q2), .second, .val (.long q3), .second, .val (.long q4), .second, .val (.int p5), .val (.long step), .second, .val (.long qty), .second, .val (.long mn), .second, .val (.long mx), .second, .unset, .unset, .unset] [.null, (.long (1 : Int64)), (.ref b1), (.ref b1)]))
          refine own_Go.by (fun tq kq => XS.lconst X1.here hx rfl (hb hby at_92) kq) ?_
          show own_Go p.tables e below _ (T1.setTop (mkF m 93 #[.val (.long q1), .second, .val (.long q2), .second, .val (.long q3), .second, .val (.long q4), .second, .val (.int p5), .val (.long step), .second, .val (.long qty), .second, .val (.long mn), .second, .val (.long mx), .second, .unset, .unset, .unset] [(.long (0 : Int64)), .null, (.long (1 : Int64)), (.ref b1), (.ref b1)]))
          refine own_Go.by (fun tq kq => XS.lconst X1.here hx rfl (hb hby at_93) kq) ?_
          show own_Go p.tables e below _ (T1.setTop (mkF m 94 #[.val (.long q1), .second, .val (.long q2), .second, .val (.long q3), .second, .val (.long q4), .second, .val (.int p5), .val (.long step), .second, .val (.long qty), .second, .val (.long mn), .second, .val (.long mx), .second, .unset, .unset, .unset] [(.long (0 : Int64)), (.long (0 : Int64)), .null, (.long (1 : Int64)), (.ref b1), (.ref b1)]))
          refine own_Go.by (fun tq kq => XS.lload X1.here hx rfl (hb hby at_94) rfl kq) ?_
          show own_Go p.tables e below _ (T1.setTop (mkF m 96 #[.val (.long q1), .second, .val (.long q2), .second, .val (.long q3), .second, .val (.long q4), .second, .val (.int p5), .val (.long step), .second, .val (.long qty), .second, .val (.long mn), .second, .val (.long mx), .second, .unset, .unset, .unset] [(.long step), (.long (0 : Int64)), (.long (0 : Int64)), .null, (.long (1 : Int64)), (.ref b1), (.ref b1)]))
          refine own_Go.by (fun tq kq => XS.lload X1.here hx rfl (hb hby at_96) rfl kq) ?_
          show own_Go p.tables e below _ (T1.setTop (mkF m 98 #[.val (.long q1), .second, .val (.long q2), .second, .val (.long q3), .second, .val (.long q4), .second, .val (.int p5), .val (.long step), .second, .val (.long qty), .second, .val (.long mn), .second, .val (.long mx), .second, .unset, .unset, .unset] [(.long mn), (.long step), (.long (0 : Int64)), (.long (0 : Int64)), .null, (.long (1 : Int64)), (.ref b1), (.ref b1)]))
          refine own_Go.by (fun tq kq => XS.lload X1.here hx rfl (hb hby at_98) rfl kq) ?_
          show own_Go p.tables e below _ (T1.setTop (mkF m 100 #[.val (.long q1), .second, .val (.long q2), .second, .val (.long q3), .second, .val (.long q4), .second, .val (.int p5), .val (.long step), .second, .val (.long qty), .second, .val (.long mn), .second, .val (.long mx), .second, .unset, .unset, .unset] [(.long mx), (.long mn), (.long step), (.long (0 : Int64)), (.long (0 : Int64)), .null, (.long (1 : Int64)), (.ref b1), (.ref b1)]))
          refine own_Go.by (fun tq kq => XS.lconst X1.here hx rfl (hb hby at_100) kq) ?_
          show own_Go p.tables e below _ (T1.setTop (mkF m 101 #[.val (.long q1), .second, .val (.long q2), .second, .val (.long q3), .second, .val (.long q4), .second, .val (.int p5), .val (.long step), .second, .val (.long qty), .second, .val (.long mn), .second, .val (.long mx), .second, .unset, .unset, .unset] [(.long (1 : Int64)), (.long mx), (.long mn), (.long step), (.long (0 : Int64)), (.long (0 : Int64)), .null, (.long (1 : Int64)), (.ref b1), (.ref b1)]))
          obtain ⟨T4, X4, e4, st4⟩ := getS2 X1 hx hZ hown (host := "") (Or.inl (hw _ (List.mem_of_getElem? (i := 4) rfl))) Via.refl e1 (H0.ext O2.2) (g := (mkF m 101 #[.val (.long q1), .second, .val (.long q2), .second, .val (.long q3), .second, .val (.long q4), .second, .val (.int p5), .val (.long step), .second, .val (.long qty), .second, .val (.long mn), .second, .val (.long mx), .second, .unset, .unset, .unset] [(.long (1 : Int64)), (.long mx), (.long mn), (.long step), (.long (0 : Int64)), (.long (0 : Int64)), .null, (.long (1 : Int64)), (.ref b1), (.ref b1)])) rfl (hb hby at_101)
          refine own_Go.by st4 ?_
          show own_Go p.tables e below _ (T4.setTop (mkF m 104 #[.val (.long q1), .second, .val (.long q2), .second, .val (.long q3), .second, .val (.long q4), .second, .val (.int p5), .val (.long step), .second, .val (.long qty), .second, .val (.long mn), .second, .val (.long mx), .second, .unset, .unset, .unset] [(.ref aD), (.long (1 : Int64)), (.long mx), (.long mn), (.long step), (.long (0 : Int64)), (.long (0 : Int64)), .null, (.long (1 : Int64)), (.ref b1), (.ref b1)]))
          obtain ⟨cq5, kq5, q5a, q5b, q5c⟩ := isOf hZ e4 (H1.ext O2.2)
          obtain ⟨_, _, ⟨T5, L5, k5, n5⟩, -, X5, ⟨Lc5, hQ5, l5, y5, z5⟩, st5⟩ := X4.virtualBack hx (y := (⟨"com/example/gridmatch/gridmatch/Product", "types", "()Ljava/util/Set;"⟩ : MethodName)) (z := (⟨"com/example/gridmatch/gridmatch/Product", "types", "()Ljava/util/Set;"⟩ : MethodName)) hown (mvT hZ (hw _ (List.mem_of_getElem? (i := 6) rfl))) (mvT hZ (hw _ (List.mem_of_getElem? (i := 7) rfl))) (notFace_of_selects (args := #[]) (mvT hZ (hw _ (List.mem_of_getElem? (i := 9) rfl)))) (mvT hZ (hw _ (List.mem_of_getElem? (i := 9) rfl))) (mvT hZ (hw _ (List.mem_of_getElem? (i := 8) rfl))) (by decide) (backOf (W := 17) (rm1 l Z a0 hw [] aD aT h1 n0 O2 (H2.ext O2.2)) hZ (hw _ (List.mem_of_getElem? (i := 10) rfl)) (hw _ (List.mem_of_getElem? (i := 3) rfl)) (by decide) (by decide)) q5a q5c (g := (mkF m 104 #[.val (.long q1), .second, .val (.long q2), .second, .val (.long q3), .second, .val (.long q4), .second, .val (.int p5), .val (.long step), .second, .val (.long qty), .second, .val (.long mn), .second, .val (.long mx), .second, .unset, .unset, .unset] [(.ref aD), (.long (1 : Int64)), (.long mx), (.long mn), (.long step), (.long (0 : Int64)), (.long (0 : Int64)), .null, (.long (1 : Int64)), (.ref b1), (.ref b1)])) rfl (by rw [hml]; rfl) (Steps.refl _) (argsL := []) (rest := [(.long (1 : Int64)), (.long mx), (.long mn), (.long step), (.long (0 : Int64)), (.long (0 : Int64)), .null, (.long (1 : Int64)), (.ref b1), (.ref b1)]) (lenOf own_pd2 rfl) rfl (by show 2 * 0 + _ ≤ _; exact Nat.le_of_eq rfl) (hb hby at_104) (fun _ _ => ⟨rfl, e4, (by decide : 1 + 0 ≤ _), (by decide : 11 + 0 ≤ _)⟩)
          dsimp only [Pt.U, Pt.locs, Pt.cells, Pt.slots] at X5 l5 y5 z5 st5 hQ5
          subst l5 y5 z5
          refine own_Go.by (fun tq kq => st5.trans kq) ?_
          obtain ⟨rfl, N5q, e5⟩ := hQ5
          have N5 := Fr.app N0 N5q
          show own_Go p.tables e below _ (T5.setTop (mkF m 107 #[.val (.long q1), .second, .val (.long q2), .second, .val (.long q3), .second, .val (.long q4), .second, .val (.int p5), .val (.long step), .second, .val (.long qty), .second, .val (.long mn), .second, .val (.long mx), .second, .unset, .unset, .unset] [(.ref aT), (.long (1 : Int64)), (.long mx), (.long mn), (.long step), (.long (0 : Int64)), (.long (0 : Int64)), .null, (.long (1 : Int64)), (.ref b1), (.ref b1)]))
          obtain ⟨T6, X6, e6, st6⟩ := getS2 X5 hx hZ hown (host := "") (Or.inl (hw _ (List.mem_of_getElem? (i := 4) rfl))) Via.refl e5 (H0.ext O2.2) (g := (mkF m 107 #[.val (.long q1), .second, .val (.long q2), .second, .val (.long q3), .second, .val (.long q4), .second, .val (.int p5), .val (.long step), .second, .val (.long qty), .second, .val (.long mn), .second, .val (.long mx), .second, .unset, .unset, .unset] [(.ref aT), (.long (1 : Int64)), (.long mx), (.long mn), (.long step), (.long (0 : Int64)), (.long (0 : Int64)), .null, (.long (1 : Int64)), (.ref b1), (.ref b1)])) rfl (hb hby at_107)
          refine own_Go.by st6 ?_
          show own_Go p.tables e below _ (T6.setTop (mkF m 110 #[.val (.long q1), .second, .val (.long q2), .second, .val (.long q3), .second, .val (.long q4), .second, .val (.int p5), .val (.long step), .second, .val (.long qty), .second, .val (.long mn), .second, .val (.long mx), .second, .unset, .unset, .unset] [(.ref aD), (.ref aT), (.long (1 : Int64)), (.long mx), (.long mn), (.long step), (.long (0 : Int64)), (.long (0 : Int64)), .null, (.long (1 : Int64)), (.ref b1), (.ref b1)]))
          obtain ⟨cq7, kq7, q7a, q7b, q7c⟩ := isOf hZ e6 (H1.ext O2.2)
          obtain ⟨_, _, ⟨T7, L7, k7, n7⟩, -, X7, ⟨Lc7, hQ7, l7, y7, z7⟩, st7⟩ := X6.virtualBack hx (y := (⟨"com/example/gridmatch/gridmatch/Product", "restrictions", "()Ljava/util/Set;"⟩ : MethodName)) (z := (⟨"com/example/gridmatch/gridmatch/Product", "restrictions", "()Ljava/util/Set;"⟩ : MethodName)) hown (mvT hZ (hw _ (List.mem_of_getElem? (i := 13) rfl))) (mvT hZ (hw _ (List.mem_of_getElem? (i := 14) rfl))) (notFace_of_selects (args := #[]) (mvT hZ (hw _ (List.mem_of_getElem? (i := 16) rfl)))) (mvT hZ (hw _ (List.mem_of_getElem? (i := 16) rfl))) (mvT hZ (hw _ (List.mem_of_getElem? (i := 15) rfl))) (by decide) (backOf (W := 18) (rm2 l Z a0 hw [] aD aR h1 n0 O2 (H3.ext O2.2)) hZ (hw _ (List.mem_of_getElem? (i := 17) rfl)) (hw _ (List.mem_of_getElem? (i := 3) rfl)) (by decide) (by decide)) q7a q7c (g := (mkF m 110 #[.val (.long q1), .second, .val (.long q2), .second, .val (.long q3), .second, .val (.long q4), .second, .val (.int p5), .val (.long step), .second, .val (.long qty), .second, .val (.long mn), .second, .val (.long mx), .second, .unset, .unset, .unset] [(.ref aD), (.ref aT), (.long (1 : Int64)), (.long mx), (.long mn), (.long step), (.long (0 : Int64)), (.long (0 : Int64)), .null, (.long (1 : Int64)), (.ref b1), (.ref b1)])) rfl (by rw [hml]; rfl) (Steps.refl _) (argsL := []) (rest := [(.ref aT), (.long (1 : Int64)), (.long mx), (.long mn), (.long step), (.long (0 : Int64)), (.long (0 : Int64)), .null, (.long (1 : Int64)), (.ref b1), (.ref b1)]) (lenOf own_pd2 rfl) rfl (by show 2 * 0 + _ ≤ _; exact Nat.le_of_eq rfl) (hb hby at_110) (fun _ _ => ⟨rfl, e6, (by decide : 1 + 0 ≤ _), (by decide : 11 + 0 ≤ _)⟩)
          dsimp only [Pt.U, Pt.locs, Pt.cells, Pt.slots] at X7 l7 y7 z7 st7 hQ7
          subst l7 y7 z7
          refine own_Go.by (fun tq kq => st7.trans kq) ?_
          obtain ⟨rfl, N7q, e7⟩ := hQ7
          have N7 := Fr.app N5 N7q
          show own_Go p.tables e below _ (T7.setTop (mkF m 113 #[.val (.long q1), .second, .val (.long q2), .second, .val (.long q3), .second, .val (.long q4), .second, .val (.int p5), .val (.long step), .second, .val (.long qty), .second, .val (.long mn), .second, .val (.long mx), .second, .unset, .unset, .unset] [(.ref aR), (.ref aT), (.long (1 : Int64)), (.long mx), (.long mn), (.long step), (.long (0 : Int64)), (.long (0 : Int64)), .null, (.long (1 : Int64)), (.ref b1), (.ref b1)]))
          refine own_Go.by (fun tq kq => XS.iconst X7.here hx rfl (hb hby at_113) kq) ?_
          show own_Go p.tables e below _ (T7.setTop (mkF m 114 #[.val (.long q1), .second, .val (.long q2), .second, .val (.long q3), .second, .val (.long q4), .second, .val (.int p5), .val (.long step), .second, .val (.long qty), .second, .val (.long mn), .second, .val (.long mx), .second, .unset, .unset, .unset] [(.int (5 : Int32)), (.ref aR), (.ref aT), (.long (1 : Int64)), (.long mx), (.long mn), (.long step), (.long (0 : Int64)), (.long (0 : Int64)), .null, (.long (1 : Int64)), (.ref b1), (.ref b1)]))
          obtain ⟨_, _, ⟨T8, L8, k8, n8⟩, -, X8, ⟨Lc8, hQ8, l8, y8, z8⟩, st8⟩ := X7.specialBack hx (y := (⟨"com/example/gridmatch/gridmatch/Product", "<init>", "(JLcom/example/gridmatch/gridmatch/PriceSteps;JJJJJJLjava/util/Set;Ljava/util/Set;I)V"⟩ : MethodName)) rfl hown (mvT hZ (hw _ (List.mem_of_getElem? (i := 20) rfl))) (mvT hZ (hw _ (List.mem_of_getElem? (i := 21) rfl))) (mvT hZ (hw _ (List.mem_of_getElem? (i := 22) rfl))) (by decide) (backOf (W := 1) (rm3 l Z a0 hw [] b1 (1 : Int64) (0 : Int64) (0 : Int64) step mn mx (1 : Int64) aT aR (5 : Int32) h1 n0 O2 A1 (H4.ext O2.2) (H5.ext O2.2) g3 F1_tick F1_prices F1_minPrice F1_maxPrice F1_quantityStep F1_minQuantity F1_maxQuantity F1_minPeak F1_types F1_restrictions F1_gtdGridMinutes) hZ (hw _ (List.mem_of_getElem? (i := 22) rfl)) (hw _ (List.mem_of_getElem? (i := 3) rfl)) (by decide) (by decide)) (g := (mkF m 114 #[.val (.long q1), .second, .val (.long q2), .second, .val (.long q3), .second, .val (.long q4), .second, .val (.int p5), .val (.long step), .second, .val (.long qty), .second, .val (.long mn), .second, .val (.long mx), .second, .unset, .unset, .unset] [(.int (5 : Int32)), (.ref aR), (.ref aT), (.long (1 : Int64)), (.long mx), (.long mn), (.long step), (.long (0 : Int64)), (.long (0 : Int64)), .null, (.long (1 : Int64)), (.ref b1), (.ref b1)])) rfl (by rw [hml]; rfl) (Steps.refl _) (a := b1) (argsL := [(.long (1 : Int64)), .null, (.long (0 : Int64)), (.long (0 : Int64)), (.long step), (.long mn), (.long mx), (.long (1 : Int64)), (.ref aT), (.ref aR), (.int (5 : Int32))]) (rest := [(.ref b1)]) (lenOf own_pd3 rfl) rfl (by show 2 * 0 + _ ≤ _; exact Nat.le_of_eq rfl) (hb hby at_114) (fun _ _ => ⟨rfl, e7, (by decide : 1 + 0 ≤ _), (by decide : 11 + 0 ≤ _)⟩)
          dsimp only [Pt.U, Pt.locs, Pt.cells, Pt.slots] at X8 l8 y8 z8 st8 hQ8
          subst l8 y8 z8
          refine own_Go.by (fun tq kq => st8.trans kq) ?_
          obtain ⟨rfl, N8q, K8q, p8_0, p8_1, p8_2, p8_3⟩ := hQ8
          have N8 := Fr.app N7 N8q
          have O9 := O2.keep K8q (allS g3 all0)
          have K9 := K2.trans K8q (allS (Or.inr z3) all0)
          show own_Go p.tables e below _ (T8.setTop (mkF m 117 #[.val (.long q1), .second, .val (.long q2), .second, .val (.long q3), .second, .val (.long q4), .second, .val (.int p5), .val (.long step), .second, .val (.long qty), .second, .val (.long mn), .second, .val (.long mx), .second, .unset, .unset, .unset] [(.ref b1)]))
          refine own_Go.by (fun tq kq => XS.astore X8.here hx rfl (hb hby at_117) rfl rfl (l' := #[.val (.long q1), .second, .val (.long q2), .second, .val (.long q3), .second, .val (.long q4), .second, .val (.int p5), .val (.long step), .second, .val (.long qty), .second, .val (.long mn), .second, .val (.long mx), .second, .val (.ref b1), .unset, .unset]) rfl kq) ?_
          show own_Go p.tables e below _ (T8.setTop (mkF m 119 #[.val (.long q1), .second, .val (.long q2), .second, .val (.long q3), .second, .val (.long q4), .second, .val (.int p5), .val (.long step), .second, .val (.long qty), .second, .val (.long mn), .second, .val (.long mx), .second, .val (.ref b1), .unset, .unset] []))
          refine own_Go.by (fun tq kq => XS.lload X8.here hx rfl (hb hby at_119) rfl kq) ?_
          show own_Go p.tables e below _ (T8.setTop (mkF m 121 #[.val (.long q1), .second, .val (.long q2), .second, .val (.long q3), .second, .val (.long q4), .second, .val (.int p5), .val (.long step), .second, .val (.long qty), .second, .val (.long mn), .second, .val (.long mx), .second, .val (.ref b1), .unset, .unset] [(.long qty)]))
          refine own_Go.by (fun tq kq => XS.lload X8.here hx rfl (hb hby at_121) rfl kq) ?_
          show own_Go p.tables e below _ (T8.setTop (mkF m 123 #[.val (.long q1), .second, .val (.long q2), .second, .val (.long q3), .second, .val (.long q4), .second, .val (.int p5), .val (.long step), .second, .val (.long qty), .second, .val (.long mn), .second, .val (.long mx), .second, .val (.ref b1), .unset, .unset] [(.long step), (.long qty)]))
          refine own_Go.by (fun tq kq => XS.ldiv X8.here hx rfl (hb hby at_123) rfl (own_pos0 h_step) kq) ?_
          show own_Go p.tables e below _ (T8.setTop (mkF m 124 #[.val (.long q1), .second, .val (.long q2), .second, .val (.long q3), .second, .val (.long q4), .second, .val (.int p5), .val (.long step), .second, .val (.long qty), .second, .val (.long mn), .second, .val (.long mx), .second, .val (.ref b1), .unset, .unset] [(.long (qty / step))]))
          refine own_Go.by (fun tq kq => XS.lload X8.here hx rfl (hb hby at_124) rfl kq) ?_
          show own_Go p.tables e below _ (T8.setTop (mkF m 126 #[.val (.long q1), .second, .val (.long q2), .second, .val (.long q3), .second, .val (.long q4), .second, .val (.int p5), .val (.long step), .second, .val (.long qty), .second, .val (.long mn), .second, .val (.long mx), .second, .val (.ref b1), .unset, .unset] [(.long step), (.long (qty / step))]))
          refine own_Go.by (fun tq kq => XS.lmul X8.here hx rfl (hb hby at_126) rfl kq) ?_
          show own_Go p.tables e below _ (T8.setTop (mkF m 127 #[.val (.long q1), .second, .val (.long q2), .second, .val (.long q3), .second, .val (.long q4), .second, .val (.int p5), .val (.long step), .second, .val (.long qty), .second, .val (.long mn), .second, .val (.long mx), .second, .val (.ref b1), .unset, .unset] [(.long ((qty / step) * step))]))
          refine own_Go.by (fun tq kq => XS.lload X8.here hx rfl (hb hby at_127) rfl kq) ?_
          show own_Go p.tables e below _ (T8.setTop (mkF m 129 #[.val (.long q1), .second, .val (.long q2), .second, .val (.long q3), .second, .val (.long q4), .second, .val (.int p5), .val (.long step), .second, .val (.long qty), .second, .val (.long mn), .second, .val (.long mx), .second, .val (.ref b1), .unset, .unset] [(.long qty), (.long ((qty / step) * step))]))
          refine own_Go.by (fun tq kq => XS.lcmp X8.here hx rfl (hb hby at_129) rfl kq) ?_
          show own_Go p.tables e below _ (T8.setTop (mkF m 130 #[.val (.long q1), .second, .val (.long q2), .second, .val (.long q3), .second, .val (.long q4), .second, .val (.int p5), .val (.long step), .second, .val (.long qty), .second, .val (.long mn), .second, .val (.long mx), .second, .val (.ref b1), .unset, .unset] [(.int (lcmpW ((qty / step) * step) qty))]))
          by_cases hc130_10 : ((qty / step) * step) = qty
          ·
            refine own_Go.by (fun tq kq => XS.ifNo X8.here hx rfl (hb hby at_130) rfl ((if0 _ _).trans (teq ((lw_eq ((qty / step) * step) qty).mpr hc130_10)).2) kq) ?_
            show own_Go p.tables e below _ (T8.setTop (mkF m 133 #[.val (.long q1), .second, .val (.long q2), .second, .val (.long q3), .second, .val (.long q4), .second, .val (.int p5), .val (.long step), .second, .val (.long qty), .second, .val (.long mn), .second, .val (.long mx), .second, .val (.ref b1), .unset, .unset] []))
            refine own_Go.by (fun tq kq => XS.iconst X8.here hx rfl (hb hby at_133) kq) ?_
            show own_Go p.tables e below _ (T8.setTop (mkF m 134 #[.val (.long q1), .second, .val (.long q2), .second, .val (.long q3), .second, .val (.long q4), .second, .val (.int p5), .val (.long step), .second, .val (.long qty), .second, .val (.long mn), .second, .val (.long mx), .second, .val (.ref b1), .unset, .unset] [(.int (1 : Int32))]))
            refine own_Go.by (fun tq kq => XS.goto X8.here hx rfl (pc0 := 134) (pc' := 138) rfl (hb hby at_134) (by decide) (by decide) kq) ?_
            show own_Go p.tables e below _ (T8.setTop (mkF m 138 #[.val (.long q1), .second, .val (.long q2), .second, .val (.long q3), .second, .val (.long q4), .second, .val (.int p5), .val (.long step), .second, .val (.long qty), .second, .val (.long mn), .second, .val (.long mx), .second, .val (.ref b1), .unset, .unset] [(.int (1 : Int32))]))
            refine own_Go.by (fun tq kq => XS.istore X8.here hx rfl (hb hby at_138) rfl (l' := #[.val (.long q1), .second, .val (.long q2), .second, .val (.long q3), .second, .val (.long q4), .second, .val (.int p5), .val (.long step), .second, .val (.long qty), .second, .val (.long mn), .second, .val (.long mx), .second, .val (.ref b1), .val (.int (1 : Int32)), .unset]) rfl kq) ?_
            show own_Go p.tables e below _ (T8.setTop (mkF m 140 #[.val (.long q1), .second, .val (.long q2), .second, .val (.long q3), .second, .val (.long q4), .second, .val (.int p5), .val (.long step), .second, .val (.long qty), .second, .val (.long mn), .second, .val (.long mx), .second, .val (.ref b1), .val (.int (1 : Int32)), .unset] []))
            refine own_Go.by (fun tq kq => XS.iload X8.here hx rfl (hb hby at_140) rfl kq) ?_
            show own_Go p.tables e below _ (T8.setTop (mkF m 142 #[.val (.long q1), .second, .val (.long q2), .second, .val (.long q3), .second, .val (.long q4), .second, .val (.int p5), .val (.long step), .second, .val (.long qty), .second, .val (.long mn), .second, .val (.long mx), .second, .val (.ref b1), .val (.int (1 : Int32)), .unset] [(.int (1 : Int32))]))
            refine own_Go.by (fun tq kq => XS.ifYes X8.here hx rfl (pc0 := 142) (pc' := 151) rfl (hb hby at_142) rfl ((if0 _ _).trans (feq (by decide : ¬ ((1 : Int32) = (0 : Int32)))).2) (by decide) (by decide) kq) ?_
            show own_Go p.tables e below _ (T8.setTop (mkF m 151 #[.val (.long q1), .second, .val (.long q2), .second, .val (.long q3), .second, .val (.long q4), .second, .val (.int p5), .val (.long step), .second, .val (.long qty), .second, .val (.long mn), .second, .val (.long mx), .second, .val (.ref b1), .val (.int (1 : Int32)), .unset] []))
            refine own_Go.by (fun tq kq => XS.lload X8.here hx rfl (hb hby at_151) rfl kq) ?_
            show own_Go p.tables e below _ (T8.setTop (mkF m 153 #[.val (.long q1), .second, .val (.long q2), .second, .val (.long q3), .second, .val (.long q4), .second, .val (.int p5), .val (.long step), .second, .val (.long qty), .second, .val (.long mn), .second, .val (.long mx), .second, .val (.ref b1), .val (.int (1 : Int32)), .unset] [(.long qty)]))
            refine own_Go.by (fun tq kq => XS.lload X8.here hx rfl (hb hby at_153) rfl kq) ?_
            show own_Go p.tables e below _ (T8.setTop (mkF m 155 #[.val (.long q1), .second, .val (.long q2), .second, .val (.long q3), .second, .val (.long q4), .second, .val (.int p5), .val (.long step), .second, .val (.long qty), .second, .val (.long mn), .second, .val (.long mx), .second, .val (.ref b1), .val (.int (1 : Int32)), .unset] [(.long mn), (.long qty)]))
            refine own_Go.by (fun tq kq => XS.lcmp X8.here hx rfl (hb hby at_155) rfl kq) ?_
            show own_Go p.tables e below _ (T8.setTop (mkF m 156 #[.val (.long q1), .second, .val (.long q2), .second, .val (.long q3), .second, .val (.long q4), .second, .val (.int p5), .val (.long step), .second, .val (.long qty), .second, .val (.long mn), .second, .val (.long mx), .second, .val (.ref b1), .val (.int (1 : Int32)), .unset] [(.int (lcmpW qty mn))]))
            by_cases hc156_11 : qty < mn
            ·
              refine own_Go.by (fun tq kq => XS.ifNo X8.here hx rfl (hb hby at_156) rfl ((if0 _ _).trans (tlt ((lw_lt qty mn).mpr hc156_11)).2.1) kq) ?_
              show own_Go p.tables e below _ (T8.setTop (mkF m 159 #[.val (.long q1), .second, .val (.long q2), .second, .val (.long q3), .second, .val (.long q4), .second, .val (.int p5), .val (.long step), .second, .val (.long qty), .second, .val (.long mn), .second, .val (.long mx), .second, .val (.ref b1), .val (.int (1 : Int32)), .unset] []))
              refine own_Go.by (fun tq kq => XS.iconst X8.here hx rfl (hb hby at_159) kq) ?_
              show own_Go p.tables e below _ (T8.setTop (mkF m 160 #[.val (.long q1), .second, .val (.long q2), .second, .val (.long q3), .second, .val (.long q4), .second, .val (.int p5), .val (.long step), .second, .val (.long qty), .second, .val (.long mn), .second, .val (.long mx), .second, .val (.ref b1), .val (.int (1 : Int32)), .unset] [(.int (0 : Int32))]))
              refine own_Go.by (fun tq kq => XS.istore X8.here hx rfl (hb hby at_160) rfl (l' := #[.val (.long q1), .second, .val (.long q2), .second, .val (.long q3), .second, .val (.long q4), .second, .val (.int p5), .val (.long step), .second, .val (.long qty), .second, .val (.long mn), .second, .val (.long mx), .second, .val (.ref b1), .val (.int (1 : Int32)), .val (.int (0 : Int32))]) rfl kq) ?_
              show own_Go p.tables e below _ (T8.setTop (mkF m 162 #[.val (.long q1), .second, .val (.long q2), .second, .val (.long q3), .second, .val (.long q4), .second, .val (.int p5), .val (.long step), .second, .val (.long qty), .second, .val (.long mn), .second, .val (.long mx), .second, .val (.ref b1), .val (.int (1 : Int32)), .val (.int (0 : Int32))] []))
              refine own_Go.by (fun tq kq => XS.goto X8.here hx rfl (pc0 := 162) (pc' := 182) rfl (hb hby at_162) (by decide) (by decide) kq) ?_
              show own_Go p.tables e below _ (T8.setTop (mkF m 182 #[.val (.long q1), .second, .val (.long q2), .second, .val (.long q3), .second, .val (.long q4), .second, .val (.int p5), .val (.long step), .second, .val (.long qty), .second, .val (.long mn), .second, .val (.long mx), .second, .val (.ref b1), .val (.int (1 : Int32)), .val (.int (0 : Int32))] []))
              refine own_Go.by (fun tq kq => XS.aload X8.here hx rfl (hb hby at_182) rfl rfl kq) ?_
              show own_Go p.tables e below _ (T8.setTop (mkF m 184 #[.val (.long q1), .second, .val (.long q2), .second, .val (.long q3), .second, .val (.long q4), .second, .val (.int p5), .val (.long step), .second, .val (.long qty), .second, .val (.long mn), .second, .val (.long mx), .second, .val (.ref b1), .val (.int (1 : Int32)), .val (.int (0 : Int32))] [(.ref b1)]))
              refine own_Go.by (fun tq kq => XS.lload X8.here hx rfl (hb hby at_184) rfl kq) ?_
              show own_Go p.tables e below _ (T8.setTop (mkF m 186 #[.val (.long q1), .second, .val (.long q2), .second, .val (.long q3), .second, .val (.long q4), .second, .val (.int p5), .val (.long step), .second, .val (.long qty), .second, .val (.long mn), .second, .val (.long mx), .second, .val (.ref b1), .val (.int (1 : Int32)), .val (.int (0 : Int32))] [(.long qty), (.ref b1)]))
              obtain ⟨cq12, kq12, q12a, q12b, q12c⟩ := isOf hZ rfl p8_0
              obtain ⟨_, _, ⟨T12, L12, k12, n12⟩, -, X12, ⟨Lc12, hQ12, l12, y12, z12⟩, st12⟩ := X8.virtualBack hx (y := (⟨"com/example/gridmatch/gridmatch/Product", "fitsQuantity", "(J)Z"⟩ : MethodName)) (z := (⟨"com/example/gridmatch/gridmatch/Product", "fitsQuantity", "(J)Z"⟩ : MethodName)) hown (mvT hZ (hw _ (List.mem_of_getElem? (i := 57) rfl))) (mvT hZ (hw _ (List.mem_of_getElem? (i := 58) rfl))) (notFace_of_selects (args := #[]) (mvT hZ (hw _ (List.mem_of_getElem? (i := 60) rfl)))) (mvT hZ (hw _ (List.mem_of_getElem? (i := 60) rfl))) (mvT hZ (hw _ (List.mem_of_getElem? (i := 59) rfl))) (by decide) (backOf (W := 0) (rm7_b l Z a0 hw [] b1 qty step mn mx T8.heap n0 O9 p8_1 p8_2 p8_3 (own_pos0 h_step : step ≠ 0) ((own_mulmod qty step).mp hc130_10) hc156_11) hZ (hw _ (List.mem_of_getElem? (i := 61) rfl)) (hw _ (List.mem_of_getElem? (i := 3) rfl)) (by decide) (by decide)) q12a q12c (g := (mkF m 186 #[.val (.long q1), .second, .val (.long q2), .second, .val (.long q3), .second, .val (.long q4), .second, .val (.int p5), .val (.long step), .second, .val (.long qty), .second, .val (.long mn), .second, .val (.long mx), .second, .val (.ref b1), .val (.int (1 : Int32)), .val (.int (0 : Int32))] [(.long qty), (.ref b1)])) rfl (by rw [hml]; rfl) (Steps.refl _) (argsL := [(.long qty)]) (rest := []) (lenOf own_pd4 rfl) rfl (by show 2 * 0 + _ ≤ _; exact Nat.le_of_eq rfl) (hb hby at_186) (fun _ _ => ⟨rfl, rfl, (by decide : 1 + 0 ≤ _), (by decide : 11 + 0 ≤ _)⟩)
              dsimp only [Pt.U, Pt.locs, Pt.cells, Pt.slots] at X12 l12 y12 z12 st12 hQ12
              subst l12 y12 z12
              refine own_Go.by (fun tq kq => st12.trans kq) ?_
              obtain ⟨rfl, N12q, e12⟩ := hQ12
              have N12 := Fr.app N8 N12q
              show own_Go p.tables e below _ (T12.setTop (mkF m 189 #[.val (.long q1), .second, .val (.long q2), .second, .val (.long q3), .second, .val (.long q4), .second, .val (.int p5), .val (.long step), .second, .val (.long qty), .second, .val (.long mn), .second, .val (.long mx), .second, .val (.ref b1), .val (.int (1 : Int32)), .val (.int (0 : Int32))] [(.int (0 : Int32))]))
              refine own_Go.by (fun tq kq => XS.iload X12.here hx rfl (hb hby at_189) rfl kq) ?_
              show own_Go p.tables e below _ (T12.setTop (mkF m 191 #[.val (.long q1), .second, .val (.long q2), .second, .val (.long q3), .second, .val (.long q4), .second, .val (.int p5), .val (.long step), .second, .val (.long qty), .second, .val (.long mn), .second, .val (.long mx), .second, .val (.ref b1), .val (.int (1 : Int32)), .val (.int (0 : Int32))] [(.int (0 : Int32)), (.int (0 : Int32))]))
              refine own_Go.by (fun tq kq => XS.icmpNo X12.here hx rfl (hb hby at_191) rfl (teq (by decide : (0 : Int32) = (0 : Int32))).2 kq) ?_
              show own_Go p.tables e below _ (T12.setTop (mkF m 194 #[.val (.long q1), .second, .val (.long q2), .second, .val (.long q3), .second, .val (.long q4), .second, .val (.int p5), .val (.long step), .second, .val (.long qty), .second, .val (.long mn), .second, .val (.long mx), .second, .val (.ref b1), .val (.int (1 : Int32)), .val (.int (0 : Int32))] []))
              refine own_Go.by (fun tq kq => XS.iconst X12.here hx rfl (hb hby at_194) kq) ?_
              show own_Go p.tables e below _ (T12.setTop (mkF m 195 #[.val (.long q1), .second, .val (.long q2), .second, .val (.long q3), .second, .val (.long q4), .second, .val (.int p5), .val (.long step), .second, .val (.long qty), .second, .val (.long mn), .second, .val (.long mx), .second, .val (.ref b1), .val (.int (1 : Int32)), .val (.int (0 : Int32))] [(.int (1 : Int32))]))
              refine own_Go.by (fun tq kq => XS.goto X12.here hx rfl (pc0 := 195) (pc' := 199) rfl (hb hby at_195) (by decide) (by decide) kq) ?_
              show own_Go p.tables e below _ (T12.setTop (mkF m 199 #[.val (.long q1), .second, .val (.long q2), .second, .val (.long q3), .second, .val (.long q4), .second, .val (.int p5), .val (.long step), .second, .val (.long qty), .second, .val (.long mn), .second, .val (.long mx), .second, .val (.ref b1), .val (.int (1 : Int32)), .val (.int (0 : Int32))] [(.int (1 : Int32))]))
              obtain ⟨fs, hr, hrun, hended, hW, hsame⟩ := X12.leave (v := some (.int (nar .boolean (1 : Int32)))) (fun h => by rw [Bd.returns] at h; cases h)
              refine own_Go.fin (retN X12 hx (t := .boolean) Bd.returns (by simp) (hb hby at_199) hr) ⟨hrun, hended, _, _, rfl, ?_, ⟨_, rfl⟩, hW, hsame.mono (by decide) (by decide)⟩
              show Q0 Z q1 q2 q3 q4 p5 aD aT aR h0 n0 _ T12.heap _
              rw [e12]
              exact ⟨rfl, N12, K9⟩
            ·
              refine own_Go.by (fun tq kq => XS.ifYes X8.here hx rfl (pc0 := 156) (pc' := 165) rfl (hb hby at_156) rfl ((if0 _ _).trans (flt (mt (lw_lt qty mn).mp hc156_11)).2.1) (by decide) (by decide) kq) ?_
              show own_Go p.tables e below _ (T8.setTop (mkF m 165 #[.val (.long q1), .second, .val (.long q2), .second, .val (.long q3), .second, .val (.long q4), .second, .val (.int p5), .val (.long step), .second, .val (.long qty), .second, .val (.long mn), .second, .val (.long mx), .second, .val (.ref b1), .val (.int (1 : Int32)), .unset] []))
              refine own_Go.by (fun tq kq => XS.lload X8.here hx rfl (hb hby at_165) rfl kq) ?_
              show own_Go p.tables e below _ (T8.setTop (mkF m 167 #[.val (.long q1), .second, .val (.long q2), .second, .val (.long q3), .second, .val (.long q4), .second, .val (.int p5), .val (.long step), .second, .val (.long qty), .second, .val (.long mn), .second, .val (.long mx), .second, .val (.ref b1), .val (.int (1 : Int32)), .unset] [(.long qty)]))
              refine own_Go.by (fun tq kq => XS.lload X8.here hx rfl (hb hby at_167) rfl kq) ?_
              show own_Go p.tables e below _ (T8.setTop (mkF m 169 #[.val (.long q1), .second, .val (.long q2), .second, .val (.long q3), .second, .val (.long q4), .second, .val (.int p5), .val (.long step), .second, .val (.long qty), .second, .val (.long mn), .second, .val (.long mx), .second, .val (.ref b1), .val (.int (1 : Int32)), .unset] [(.long mx), (.long qty)]))
              refine own_Go.by (fun tq kq => XS.lcmp X8.here hx rfl (hb hby at_169) rfl kq) ?_
              show own_Go p.tables e below _ (T8.setTop (mkF m 170 #[.val (.long q1), .second, .val (.long q2), .second, .val (.long q3), .second, .val (.long q4), .second, .val (.int p5), .val (.long step), .second, .val (.long qty), .second, .val (.long mn), .second, .val (.long mx), .second, .val (.ref b1), .val (.int (1 : Int32)), .unset] [(.int (lcmpW qty mx))]))
              by_cases hc170_13 : mx < qty
              ·
                refine own_Go.by (fun tq kq => XS.ifNo X8.here hx rfl (hb hby at_170) rfl ((if0 _ _).trans (tlt ((lw_gt qty mx).mpr hc170_13)).2.2.2) kq) ?_
                show own_Go p.tables e below _ (T8.setTop (mkF m 173 #[.val (.long q1), .second, .val (.long q2), .second, .val (.long q3), .second, .val (.long q4), .second, .val (.int p5), .val (.long step), .second, .val (.long qty), .second, .val (.long mn), .second, .val (.long mx), .second, .val (.ref b1), .val (.int (1 : Int32)), .unset] []))
                refine own_Go.by (fun tq kq => XS.iconst X8.here hx rfl (hb hby at_173) kq) ?_
                show own_Go p.tables e below _ (T8.setTop (mkF m 174 #[.val (.long q1), .second, .val (.long q2), .second, .val (.long q3), .second, .val (.long q4), .second, .val (.int p5), .val (.long step), .second, .val (.long qty), .second, .val (.long mn), .second, .val (.long mx), .second, .val (.ref b1), .val (.int (1 : Int32)), .unset] [(.int (0 : Int32))]))
                refine own_Go.by (fun tq kq => XS.istore X8.here hx rfl (hb hby at_174) rfl (l' := #[.val (.long q1), .second, .val (.long q2), .second, .val (.long q3), .second, .val (.long q4), .second, .val (.int p5), .val (.long step), .second, .val (.long qty), .second, .val (.long mn), .second, .val (.long mx), .second, .val (.ref b1), .val (.int (1 : Int32)), .val (.int (0 : Int32))]) rfl kq) ?_
                show own_Go p.tables e below _ (T8.setTop (mkF m 176 #[.val (.long q1), .second, .val (.long q2), .second, .val (.long q3), .second, .val (.long q4), .second, .val (.int p5), .val (.long step), .second, .val (.long qty), .second, .val (.long mn), .second, .val (.long mx), .second, .val (.ref b1), .val (.int (1 : Int32)), .val (.int (0 : Int32))] []))
                refine own_Go.by (fun tq kq => XS.goto X8.here hx rfl (pc0 := 176) (pc' := 182) rfl (hb hby at_176) (by decide) (by decide) kq) ?_
                show own_Go p.tables e below _ (T8.setTop (mkF m 182 #[.val (.long q1), .second, .val (.long q2), .second, .val (.long q3), .second, .val (.long q4), .second, .val (.int p5), .val (.long step), .second, .val (.long qty), .second, .val (.long mn), .second, .val (.long mx), .second, .val (.ref b1), .val (.int (1 : Int32)), .val (.int (0 : Int32))] []))
                refine own_Go.by (fun tq kq => XS.aload X8.here hx rfl (hb hby at_182) rfl rfl kq) ?_
                show own_Go p.tables e below _ (T8.setTop (mkF m 184 #[.val (.long q1), .second, .val (.long q2), .second, .val (.long q3), .second, .val (.long q4), .second, .val (.int p5), .val (.long step), .second, .val (.long qty), .second, .val (.long mn), .second, .val (.long mx), .second, .val (.ref b1), .val (.int (1 : Int32)), .val (.int (0 : Int32))] [(.ref b1)]))
                refine own_Go.by (fun tq kq => XS.lload X8.here hx rfl (hb hby at_184) rfl kq) ?_
                show own_Go p.tables e below _ (T8.setTop (mkF m 186 #[.val (.long q1), .second, .val (.long q2), .second, .val (.long q3), .second, .val (.long q4), .second, .val (.int p5), .val (.long step), .second, .val (.long qty), .second, .val (.long mn), .second, .val (.long mx), .second, .val (.ref b1), .val (.int (1 : Int32)), .val (.int (0 : Int32))] [(.long qty), (.ref b1)]))
                obtain ⟨cq14, kq14, q14a, q14b, q14c⟩ := isOf hZ rfl p8_0
                obtain ⟨_, _, ⟨T14, L14, k14, n14⟩, -, X14, ⟨Lc14, hQ14, l14, y14, z14⟩, st14⟩ := X8.virtualBack hx (y := (⟨"com/example/gridmatch/gridmatch/Product", "fitsQuantity", "(J)Z"⟩ : MethodName)) (z := (⟨"com/example/gridmatch/gridmatch/Product", "fitsQuantity", "(J)Z"⟩ : MethodName)) hown (mvT hZ (hw _ (List.mem_of_getElem? (i := 57) rfl))) (mvT hZ (hw _ (List.mem_of_getElem? (i := 58) rfl))) (notFace_of_selects (args := #[]) (mvT hZ (hw _ (List.mem_of_getElem? (i := 60) rfl)))) (mvT hZ (hw _ (List.mem_of_getElem? (i := 60) rfl))) (mvT hZ (hw _ (List.mem_of_getElem? (i := 59) rfl))) (by decide) (backOf (W := 0) (rm7_c l Z a0 hw [] b1 qty step mn mx T8.heap n0 O9 p8_1 p8_2 p8_3 (own_pos0 h_step : step ≠ 0) ((own_mulmod qty step).mp hc130_10) hc156_11 hc170_13) hZ (hw _ (List.mem_of_getElem? (i := 61) rfl)) (hw _ (List.mem_of_getElem? (i := 3) rfl)) (by decide) (by decide)) q14a q14c (g := (mkF m 186 #[.val (.long q1), .second, .val (.long q2), .second, .val (.long q3), .second, .val (.long q4), .second, .val (.int p5), .val (.long step), .second, .val (.long qty), .second, .val (.long mn), .second, .val (.long mx), .second, .val (.ref b1), .val (.int (1 : Int32)), .val (.int (0 : Int32))] [(.long qty), (.ref b1)])) rfl (by rw [hml]; rfl) (Steps.refl _) (argsL := [(.long qty)]) (rest := []) (lenOf own_pd4 rfl) rfl (by show 2 * 0 + _ ≤ _; exact Nat.le_of_eq rfl) (hb hby at_186) (fun _ _ => ⟨rfl, rfl, (by decide : 1 + 0 ≤ _), (by decide : 11 + 0 ≤ _)⟩)
                dsimp only [Pt.U, Pt.locs, Pt.cells, Pt.slots] at X14 l14 y14 z14 st14 hQ14
                subst l14 y14 z14
                refine own_Go.by (fun tq kq => st14.trans kq) ?_
                obtain ⟨rfl, N14q, e14⟩ := hQ14
                have N14 := Fr.app N8 N14q
                show own_Go p.tables e below _ (T14.setTop (mkF m 189 #[.val (.long q1), .second, .val (.long q2), .second, .val (.long q3), .second, .val (.long q4), .second, .val (.int p5), .val (.long step), .second, .val (.long qty), .second, .val (.long mn), .second, .val (.long mx), .second, .val (.ref b1), .val (.int (1 : Int32)), .val (.int (0 : Int32))] [(.int (0 : Int32))]))
                refine own_Go.by (fun tq kq => XS.iload X14.here hx rfl (hb hby at_189) rfl kq) ?_
                show own_Go p.tables e below _ (T14.setTop (mkF m 191 #[.val (.long q1), .second, .val (.long q2), .second, .val (.long q3), .second, .val (.long q4), .second, .val (.int p5), .val (.long step), .second, .val (.long qty), .second, .val (.long mn), .second, .val (.long mx), .second, .val (.ref b1), .val (.int (1 : Int32)), .val (.int (0 : Int32))] [(.int (0 : Int32)), (.int (0 : Int32))]))
                refine own_Go.by (fun tq kq => XS.icmpNo X14.here hx rfl (hb hby at_191) rfl (teq (by decide : (0 : Int32) = (0 : Int32))).2 kq) ?_
                show own_Go p.tables e below _ (T14.setTop (mkF m 194 #[.val (.long q1), .second, .val (.long q2), .second, .val (.long q3), .second, .val (.long q4), .second, .val (.int p5), .val (.long step), .second, .val (.long qty), .second, .val (.long mn), .second, .val (.long mx), .second, .val (.ref b1), .val (.int (1 : Int32)), .val (.int (0 : Int32))] []))
                refine own_Go.by (fun tq kq => XS.iconst X14.here hx rfl (hb hby at_194) kq) ?_
                show own_Go p.tables e below _ (T14.setTop (mkF m 195 #[.val (.long q1), .second, .val (.long q2), .second, .val (.long q3), .second, .val (.long q4), .second, .val (.int p5), .val (.long step), .second, .val (.long qty), .second, .val (.long mn), .second, .val (.long mx), .second, .val (.ref b1), .val (.int (1 : Int32)), .val (.int (0 : Int32))] [(.int (1 : Int32))]))
                refine own_Go.by (fun tq kq => XS.goto X14.here hx rfl (pc0 := 195) (pc' := 199) rfl (hb hby at_195) (by decide) (by decide) kq) ?_
                show own_Go p.tables e below _ (T14.setTop (mkF m 199 #[.val (.long q1), .second, .val (.long q2), .second, .val (.long q3), .second, .val (.long q4), .second, .val (.int p5), .val (.long step), .second, .val (.long qty), .second, .val (.long mn), .second, .val (.long mx), .second, .val (.ref b1), .val (.int (1 : Int32)), .val (.int (0 : Int32))] [(.int (1 : Int32))]))
                obtain ⟨fs, hr, hrun, hended, hW, hsame⟩ := X14.leave (v := some (.int (nar .boolean (1 : Int32)))) (fun h => by rw [Bd.returns] at h; cases h)
                refine own_Go.fin (retN X14 hx (t := .boolean) Bd.returns (by simp) (hb hby at_199) hr) ⟨hrun, hended, _, _, rfl, ?_, ⟨_, rfl⟩, hW, hsame.mono (by decide) (by decide)⟩
                show Q0 Z q1 q2 q3 q4 p5 aD aT aR h0 n0 _ T14.heap _
                rw [e14]
                exact ⟨rfl, N14, K9⟩
              ·
                refine own_Go.by (fun tq kq => XS.ifYes X8.here hx rfl (pc0 := 170) (pc' := 179) rfl (hb hby at_170) rfl ((if0 _ _).trans (flt (mt (lw_gt qty mx).mp hc170_13)).2.2.2) (by decide) (by decide) kq) ?_
                show own_Go p.tables e below _ (T8.setTop (mkF m 179 #[.val (.long q1), .second, .val (.long q2), .second, .val (.long q3), .second, .val (.long q4), .second, .val (.int p5), .val (.long step), .second, .val (.long qty), .second, .val (.long mn), .second, .val (.long mx), .second, .val (.ref b1), .val (.int (1 : Int32)), .unset] []))
                refine own_Go.by (fun tq kq => XS.iconst X8.here hx rfl (hb hby at_179) kq) ?_
                show own_Go p.tables e below _ (T8.setTop (mkF m 180 #[.val (.long q1), .second, .val (.long q2), .second, .val (.long q3), .second, .val (.long q4), .second, .val (.int p5), .val (.long step), .second, .val (.long qty), .second, .val (.long mn), .second, .val (.long mx), .second, .val (.ref b1), .val (.int (1 : Int32)), .unset] [(.int (1 : Int32))]))
                refine own_Go.by (fun tq kq => XS.istore X8.here hx rfl (hb hby at_180) rfl (l' := #[.val (.long q1), .second, .val (.long q2), .second, .val (.long q3), .second, .val (.long q4), .second, .val (.int p5), .val (.long step), .second, .val (.long qty), .second, .val (.long mn), .second, .val (.long mx), .second, .val (.ref b1), .val (.int (1 : Int32)), .val (.int (1 : Int32))]) rfl kq) ?_
                show own_Go p.tables e below _ (T8.setTop (mkF m 182 #[.val (.long q1), .second, .val (.long q2), .second, .val (.long q3), .second, .val (.long q4), .second, .val (.int p5), .val (.long step), .second, .val (.long qty), .second, .val (.long mn), .second, .val (.long mx), .second, .val (.ref b1), .val (.int (1 : Int32)), .val (.int (1 : Int32))] []))
                refine own_Go.by (fun tq kq => XS.aload X8.here hx rfl (hb hby at_182) rfl rfl kq) ?_
                show own_Go p.tables e below _ (T8.setTop (mkF m 184 #[.val (.long q1), .second, .val (.long q2), .second, .val (.long q3), .second, .val (.long q4), .second, .val (.int p5), .val (.long step), .second, .val (.long qty), .second, .val (.long mn), .second, .val (.long mx), .second, .val (.ref b1), .val (.int (1 : Int32)), .val (.int (1 : Int32))] [(.ref b1)]))
                refine own_Go.by (fun tq kq => XS.lload X8.here hx rfl (hb hby at_184) rfl kq) ?_
                show own_Go p.tables e below _ (T8.setTop (mkF m 186 #[.val (.long q1), .second, .val (.long q2), .second, .val (.long q3), .second, .val (.long q4), .second, .val (.int p5), .val (.long step), .second, .val (.long qty), .second, .val (.long mn), .second, .val (.long mx), .second, .val (.ref b1), .val (.int (1 : Int32)), .val (.int (1 : Int32))] [(.long qty), (.ref b1)]))
                obtain ⟨cq15, kq15, q15a, q15b, q15c⟩ := isOf hZ rfl p8_0
                obtain ⟨_, _, ⟨T15, L15, k15, n15⟩, -, X15, ⟨Lc15, hQ15, l15, y15, z15⟩, st15⟩ := X8.virtualBack hx (y := (⟨"com/example/gridmatch/gridmatch/Product", "fitsQuantity", "(J)Z"⟩ : MethodName)) (z := (⟨"com/example/gridmatch/gridmatch/Product", "fitsQuantity", "(J)Z"⟩ : MethodName)) hown (mvT hZ (hw _ (List.mem_of_getElem? (i := 57) rfl))) (mvT hZ (hw _ (List.mem_of_getElem? (i := 58) rfl))) (notFace_of_selects (args := #[]) (mvT hZ (hw _ (List.mem_of_getElem? (i := 60) rfl)))) (mvT hZ (hw _ (List.mem_of_getElem? (i := 60) rfl))) (mvT hZ (hw _ (List.mem_of_getElem? (i := 59) rfl))) (by decide) (backOf (W := 0) (rm7_d l Z a0 hw [] b1 qty step mn mx T8.heap n0 O9 p8_1 p8_2 p8_3 (own_pos0 h_step : step ≠ 0) ((own_mulmod qty step).mp hc130_10) hc156_11 hc170_13) hZ (hw _ (List.mem_of_getElem? (i := 61) rfl)) (hw _ (List.mem_of_getElem? (i := 3) rfl)) (by decide) (by decide)) q15a q15c (g := (mkF m 186 #[.val (.long q1), .second, .val (.long q2), .second, .val (.long q3), .second, .val (.long q4), .second, .val (.int p5), .val (.long step), .second, .val (.long qty), .second, .val (.long mn), .second, .val (.long mx), .second, .val (.ref b1), .val (.int (1 : Int32)), .val (.int (1 : Int32))] [(.long qty), (.ref b1)])) rfl (by rw [hml]; rfl) (Steps.refl _) (argsL := [(.long qty)]) (rest := []) (lenOf own_pd4 rfl) rfl (by show 2 * 0 + _ ≤ _; exact Nat.le_of_eq rfl) (hb hby at_186) (fun _ _ => ⟨rfl, rfl, (by decide : 1 + 0 ≤ _), (by decide : 11 + 0 ≤ _)⟩)
                dsimp only [Pt.U, Pt.locs, Pt.cells, Pt.slots] at X15 l15 y15 z15 st15 hQ15
                subst l15 y15 z15
                refine own_Go.by (fun tq kq => st15.trans kq) ?_
                obtain ⟨rfl, N15q, e15⟩ := hQ15
                have N15 := Fr.app N8 N15q
                show own_Go p.tables e below _ (T15.setTop (mkF m 189 #[.val (.long q1), .second, .val (.long q2), .second, .val (.long q3), .second, .val (.long q4), .second, .val (.int p5), .val (.long step), .second, .val (.long qty), .second, .val (.long mn), .second, .val (.long mx), .second, .val (.ref b1), .val (.int (1 : Int32)), .val (.int (1 : Int32))] [(.int (1 : Int32))]))
                refine own_Go.by (fun tq kq => XS.iload X15.here hx rfl (hb hby at_189) rfl kq) ?_
                show own_Go p.tables e below _ (T15.setTop (mkF m 191 #[.val (.long q1), .second, .val (.long q2), .second, .val (.long q3), .second, .val (.long q4), .second, .val (.int p5), .val (.long step), .second, .val (.long qty), .second, .val (.long mn), .second, .val (.long mx), .second, .val (.ref b1), .val (.int (1 : Int32)), .val (.int (1 : Int32))] [(.int (1 : Int32)), (.int (1 : Int32))]))
                refine own_Go.by (fun tq kq => XS.icmpNo X15.here hx rfl (hb hby at_191) rfl (teq (by decide : (1 : Int32) = (1 : Int32))).2 kq) ?_
                show own_Go p.tables e below _ (T15.setTop (mkF m 194 #[.val (.long q1), .second, .val (.long q2), .second, .val (.long q3), .second, .val (.long q4), .second, .val (.int p5), .val (.long step), .second, .val (.long qty), .second, .val (.long mn), .second, .val (.long mx), .second, .val (.ref b1), .val (.int (1 : Int32)), .val (.int (1 : Int32))] []))
                refine own_Go.by (fun tq kq => XS.iconst X15.here hx rfl (hb hby at_194) kq) ?_
                show own_Go p.tables e below _ (T15.setTop (mkF m 195 #[.val (.long q1), .second, .val (.long q2), .second, .val (.long q3), .second, .val (.long q4), .second, .val (.int p5), .val (.long step), .second, .val (.long qty), .second, .val (.long mn), .second, .val (.long mx), .second, .val (.ref b1), .val (.int (1 : Int32)), .val (.int (1 : Int32))] [(.int (1 : Int32))]))
                refine own_Go.by (fun tq kq => XS.goto X15.here hx rfl (pc0 := 195) (pc' := 199) rfl (hb hby at_195) (by decide) (by decide) kq) ?_
                show own_Go p.tables e below _ (T15.setTop (mkF m 199 #[.val (.long q1), .second, .val (.long q2), .second, .val (.long q3), .second, .val (.long q4), .second, .val (.int p5), .val (.long step), .second, .val (.long qty), .second, .val (.long mn), .second, .val (.long mx), .second, .val (.ref b1), .val (.int (1 : Int32)), .val (.int (1 : Int32))] [(.int (1 : Int32))]))
                obtain ⟨fs, hr, hrun, hended, hW, hsame⟩ := X15.leave (v := some (.int (nar .boolean (1 : Int32)))) (fun h => by rw [Bd.returns] at h; cases h)
                refine own_Go.fin (retN X15 hx (t := .boolean) Bd.returns (by simp) (hb hby at_199) hr) ⟨hrun, hended, _, _, rfl, ?_, ⟨_, rfl⟩, hW, hsame.mono (by decide) (by decide)⟩
                show Q0 Z q1 q2 q3 q4 p5 aD aT aR h0 n0 _ T15.heap _
                rw [e15]
                exact ⟨rfl, N15, K9⟩
          ·
            refine own_Go.by (fun tq kq => XS.ifYes X8.here hx rfl (pc0 := 130) (pc' := 137) rfl (hb hby at_130) rfl ((if0 _ _).trans (feq (mt (lw_eq ((qty / step) * step) qty).mp hc130_10)).2) (by decide) (by decide) kq) ?_
            show own_Go p.tables e below _ (T8.setTop (mkF m 137 #[.val (.long q1), .second, .val (.long q2), .second, .val (.long q3), .second, .val (.long q4), .second, .val (.int p5), .val (.long step), .second, .val (.long qty), .second, .val (.long mn), .second, .val (.long mx), .second, .val (.ref b1), .unset, .unset] []))
            refine own_Go.by (fun tq kq => XS.iconst X8.here hx rfl (hb hby at_137) kq) ?_
            show own_Go p.tables e below _ (T8.setTop (mkF m 138 #[.val (.long q1), .second, .val (.long q2), .second, .val (.long q3), .second, .val (.long q4), .second, .val (.int p5), .val (.long step), .second, .val (.long qty), .second, .val (.long mn), .second, .val (.long mx), .second, .val (.ref b1), .unset, .unset] [(.int (0 : Int32))]))
            refine own_Go.by (fun tq kq => XS.istore X8.here hx rfl (hb hby at_138) rfl (l' := #[.val (.long q1), .second, .val (.long q2), .second, .val (.long q3), .second, .val (.long q4), .second, .val (.int p5), .val (.long step), .second, .val (.long qty), .second, .val (.long mn), .second, .val (.long mx), .second, .val (.ref b1), .val (.int (0 : Int32)), .unset]) rfl kq) ?_
            show own_Go p.tables e below _ (T8.setTop (mkF m 140 #[.val (.long q1), .second, .val (.long q2), .second, .val (.long q3), .second, .val (.long q4), .second, .val (.int p5), .val (.long step), .second, .val (.long qty), .second, .val (.long mn), .second, .val (.long mx), .second, .val (.ref b1), .val (.int (0 : Int32)), .unset] []))
            refine own_Go.by (fun tq kq => XS.iload X8.here hx rfl (hb hby at_140) rfl kq) ?_
            show own_Go p.tables e below _ (T8.setTop (mkF m 142 #[.val (.long q1), .second, .val (.long q2), .second, .val (.long q3), .second, .val (.long q4), .second, .val (.int p5), .val (.long step), .second, .val (.long qty), .second, .val (.long mn), .second, .val (.long mx), .second, .val (.ref b1), .val (.int (0 : Int32)), .unset] [(.int (0 : Int32))]))
            refine own_Go.by (fun tq kq => XS.ifNo X8.here hx rfl (hb hby at_142) rfl ((if0 _ _).trans (teq (by decide : (0 : Int32) = (0 : Int32))).2) kq) ?_
            show own_Go p.tables e below _ (T8.setTop (mkF m 145 #[.val (.long q1), .second, .val (.long q2), .second, .val (.long q3), .second, .val (.long q4), .second, .val (.int p5), .val (.long step), .second, .val (.long qty), .second, .val (.long mn), .second, .val (.long mx), .second, .val (.ref b1), .val (.int (0 : Int32)), .unset] []))
            refine own_Go.by (fun tq kq => XS.iconst X8.here hx rfl (hb hby at_145) kq) ?_
            show own_Go p.tables e below _ (T8.setTop (mkF m 146 #[.val (.long q1), .second, .val (.long q2), .second, .val (.long q3), .second, .val (.long q4), .second, .val (.int p5), .val (.long step), .second, .val (.long qty), .second, .val (.long mn), .second, .val (.long mx), .second, .val (.ref b1), .val (.int (0 : Int32)), .unset] [(.int (0 : Int32))]))
            refine own_Go.by (fun tq kq => XS.istore X8.here hx rfl (hb hby at_146) rfl (l' := #[.val (.long q1), .second, .val (.long q2), .second, .val (.long q3), .second, .val (.long q4), .second, .val (.int p5), .val (.long step), .second, .val (.long qty), .second, .val (.long mn), .second, .val (.long mx), .second, .val (.ref b1), .val (.int (0 : Int32)), .val (.int (0 : Int32))]) rfl kq) ?_
            show own_Go p.tables e below _ (T8.setTop (mkF m 148 #[.val (.long q1), .second, .val (.long q2), .second, .val (.long q3), .second, .val (.long q4), .second, .val (.int p5), .val (.long step), .second, .val (.long qty), .second, .val (.long mn), .second, .val (.long mx), .second, .val (.ref b1), .val (.int (0 : Int32)), .val (.int (0 : Int32))] []))
            refine own_Go.by (fun tq kq => XS.goto X8.here hx rfl (pc0 := 148) (pc' := 182) rfl (hb hby at_148) (by decide) (by decide) kq) ?_
            show own_Go p.tables e below _ (T8.setTop (mkF m 182 #[.val (.long q1), .second, .val (.long q2), .second, .val (.long q3), .second, .val (.long q4), .second, .val (.int p5), .val (.long step), .second, .val (.long qty), .second, .val (.long mn), .second, .val (.long mx), .second, .val (.ref b1), .val (.int (0 : Int32)), .val (.int (0 : Int32))] []))
            refine own_Go.by (fun tq kq => XS.aload X8.here hx rfl (hb hby at_182) rfl rfl kq) ?_
            show own_Go p.tables e below _ (T8.setTop (mkF m 184 #[.val (.long q1), .second, .val (.long q2), .second, .val (.long q3), .second, .val (.long q4), .second, .val (.int p5), .val (.long step), .second, .val (.long qty), .second, .val (.long mn), .second, .val (.long mx), .second, .val (.ref b1), .val (.int (0 : Int32)), .val (.int (0 : Int32))] [(.ref b1)]))
            refine own_Go.by (fun tq kq => XS.lload X8.here hx rfl (hb hby at_184) rfl kq) ?_
            show own_Go p.tables e below _ (T8.setTop (mkF m 186 #[.val (.long q1), .second, .val (.long q2), .second, .val (.long q3), .second, .val (.long q4), .second, .val (.int p5), .val (.long step), .second, .val (.long qty), .second, .val (.long mn), .second, .val (.long mx), .second, .val (.ref b1), .val (.int (0 : Int32)), .val (.int (0 : Int32))] [(.long qty), (.ref b1)]))
            obtain ⟨cq16, kq16, q16a, q16b, q16c⟩ := isOf hZ rfl p8_0
            obtain ⟨_, _, ⟨T16, L16, k16, n16⟩, -, X16, ⟨Lc16, hQ16, l16, y16, z16⟩, st16⟩ := X8.virtualBack hx (y := (⟨"com/example/gridmatch/gridmatch/Product", "fitsQuantity", "(J)Z"⟩ : MethodName)) (z := (⟨"com/example/gridmatch/gridmatch/Product", "fitsQuantity", "(J)Z"⟩ : MethodName)) hown (mvT hZ (hw _ (List.mem_of_getElem? (i := 57) rfl))) (mvT hZ (hw _ (List.mem_of_getElem? (i := 58) rfl))) (notFace_of_selects (args := #[]) (mvT hZ (hw _ (List.mem_of_getElem? (i := 60) rfl)))) (mvT hZ (hw _ (List.mem_of_getElem? (i := 60) rfl))) (mvT hZ (hw _ (List.mem_of_getElem? (i := 59) rfl))) (by decide) (backOf (W := 0) (rm7_a l Z a0 hw [] b1 qty step mn mx T8.heap n0 O9 p8_1 p8_2 p8_3 (own_pos0 h_step : step ≠ 0) (mt (own_mulmod qty step).mpr hc130_10)) hZ (hw _ (List.mem_of_getElem? (i := 61) rfl)) (hw _ (List.mem_of_getElem? (i := 3) rfl)) (by decide) (by decide)) q16a q16c (g := (mkF m 186 #[.val (.long q1), .second, .val (.long q2), .second, .val (.long q3), .second, .val (.long q4), .second, .val (.int p5), .val (.long step), .second, .val (.long qty), .second, .val (.long mn), .second, .val (.long mx), .second, .val (.ref b1), .val (.int (0 : Int32)), .val (.int (0 : Int32))] [(.long qty), (.ref b1)])) rfl (by rw [hml]; rfl) (Steps.refl _) (argsL := [(.long qty)]) (rest := []) (lenOf own_pd4 rfl) rfl (by show 2 * 0 + _ ≤ _; exact Nat.le_of_eq rfl) (hb hby at_186) (fun _ _ => ⟨rfl, rfl, (by decide : 1 + 0 ≤ _), (by decide : 11 + 0 ≤ _)⟩)
            dsimp only [Pt.U, Pt.locs, Pt.cells, Pt.slots] at X16 l16 y16 z16 st16 hQ16
            subst l16 y16 z16
            refine own_Go.by (fun tq kq => st16.trans kq) ?_
            obtain ⟨rfl, N16q, e16⟩ := hQ16
            have N16 := Fr.app N8 N16q
            show own_Go p.tables e below _ (T16.setTop (mkF m 189 #[.val (.long q1), .second, .val (.long q2), .second, .val (.long q3), .second, .val (.long q4), .second, .val (.int p5), .val (.long step), .second, .val (.long qty), .second, .val (.long mn), .second, .val (.long mx), .second, .val (.ref b1), .val (.int (0 : Int32)), .val (.int (0 : Int32))] [(.int (0 : Int32))]))
            refine own_Go.by (fun tq kq => XS.iload X16.here hx rfl (hb hby at_189) rfl kq) ?_
            show own_Go p.tables e below _ (T16.setTop (mkF m 191 #[.val (.long q1), .second, .val (.long q2), .second, .val (.long q3), .second, .val (.long q4), .second, .val (.int p5), .val (.long step), .second, .val (.long qty), .second, .val (.long mn), .second, .val (.long mx), .second, .val (.ref b1), .val (.int (0 : Int32)), .val (.int (0 : Int32))] [(.int (0 : Int32)), (.int (0 : Int32))]))
            refine own_Go.by (fun tq kq => XS.icmpNo X16.here hx rfl (hb hby at_191) rfl (teq (by decide : (0 : Int32) = (0 : Int32))).2 kq) ?_
            show own_Go p.tables e below _ (T16.setTop (mkF m 194 #[.val (.long q1), .second, .val (.long q2), .second, .val (.long q3), .second, .val (.long q4), .second, .val (.int p5), .val (.long step), .second, .val (.long qty), .second, .val (.long mn), .second, .val (.long mx), .second, .val (.ref b1), .val (.int (0 : Int32)), .val (.int (0 : Int32))] []))
            refine own_Go.by (fun tq kq => XS.iconst X16.here hx rfl (hb hby at_194) kq) ?_
            show own_Go p.tables e below _ (T16.setTop (mkF m 195 #[.val (.long q1), .second, .val (.long q2), .second, .val (.long q3), .second, .val (.long q4), .second, .val (.int p5), .val (.long step), .second, .val (.long qty), .second, .val (.long mn), .second, .val (.long mx), .second, .val (.ref b1), .val (.int (0 : Int32)), .val (.int (0 : Int32))] [(.int (1 : Int32))]))
            refine own_Go.by (fun tq kq => XS.goto X16.here hx rfl (pc0 := 195) (pc' := 199) rfl (hb hby at_195) (by decide) (by decide) kq) ?_
            show own_Go p.tables e below _ (T16.setTop (mkF m 199 #[.val (.long q1), .second, .val (.long q2), .second, .val (.long q3), .second, .val (.long q4), .second, .val (.int p5), .val (.long step), .second, .val (.long qty), .second, .val (.long mn), .second, .val (.long mx), .second, .val (.ref b1), .val (.int (0 : Int32)), .val (.int (0 : Int32))] [(.int (1 : Int32))]))
            obtain ⟨fs, hr, hrun, hended, hW, hsame⟩ := X16.leave (v := some (.int (nar .boolean (1 : Int32)))) (fun h => by rw [Bd.returns] at h; cases h)
            refine own_Go.fin (retN X16 hx (t := .boolean) Bd.returns (by simp) (hb hby at_199) hr) ⟨hrun, hended, _, _, rfl, ?_, ⟨_, rfl⟩, hW, hsame.mono (by decide) (by decide)⟩
            show Q0 Z q1 q2 q3 q4 p5 aD aT aR h0 n0 _ T16.heap _
            rw [e16]
            exact ⟨rfl, N16, K9⟩
        ·
          intro g_mx
          show own_Go p.tables e below _ (s₁.setTop (mkF m 70 #[.val (.long q1), .second, .val (.long q2), .second, .val (.long q3), .second, .val (.long q4), .second, .val (.int p5), .val (.long step), .second, .val (.long qty), .second, .val (.long mn), .second, .unset, .unset, .unset, .unset, .unset] []))
          refine own_Go.by (fun tq kq => XS.lload X0.here hx rfl (hb hby at_70) rfl kq) ?_
          show own_Go p.tables e below _ (s₁.setTop (mkF m 72 #[.val (.long q1), .second, .val (.long q2), .second, .val (.long q3), .second, .val (.long q4), .second, .val (.int p5), .val (.long step), .second, .val (.long qty), .second, .val (.long mn), .second, .unset, .unset, .unset, .unset, .unset] [(.long q4)]))
          refine own_Go.by (fun tq kq => XS.lstore X0.here hx rfl (hb hby at_72) rfl (l' := #[.val (.long q1), .second, .val (.long q2), .second, .val (.long q3), .second, .val (.long q4), .second, .val (.int p5), .val (.long step), .second, .val (.long qty), .second, .val (.long mn), .second, .val (.long q4), .second, .unset, .unset, .unset]) rfl kq) ?_
          show own_Go p.tables e below _ (s₁.setTop (mkF m 74 #[.val (.long q1), .second, .val (.long q2), .second, .val (.long q3), .second, .val (.long q4), .second, .val (.int p5), .val (.long step), .second, .val (.long qty), .second, .val (.long mn), .second, .val (.long q4), .second, .unset, .unset, .unset] []))
          refine own_Go.by (fun tq kq => XS.iload X0.here hx rfl (hb hby at_74) rfl kq) ?_
          show own_Go p.tables e below _ (s₁.setTop (mkF m 76 #[.val (.long q1), .second, .val (.long q2), .second, .val (.long q3), .second, .val (.long q4), .second, .val (.int p5), .val (.long step), .second, .val (.long qty), .second, .val (.long mn), .second, .val (.long q4), .second, .unset, .unset, .unset] [(.int p5)]))
          refine own_Go.by (fun tq kq => XS.bipush X0.here hx rfl (hb hby at_76) kq) ?_
          show own_Go p.tables e below _ (s₁.setTop (mkF m 78 #[.val (.long q1), .second, .val (.long q2), .second, .val (.long q3), .second, .val (.long q4), .second, .val (.int p5), .val (.long step), .second, .val (.long qty), .second, .val (.long mn), .second, .val (.long q4), .second, .unset, .unset, .unset] [(.int (8 : Int32)), (.int p5)]))
          refine own_Go.by (fun tq kq => XS.iand X0.here hx rfl (hb hby at_78) rfl kq) ?_
          show own_Go p.tables e below _ (s₁.setTop (mkF m 79 #[.val (.long q1), .second, .val (.long q2), .second, .val (.long q3), .second, .val (.long q4), .second, .val (.int p5), .val (.long step), .second, .val (.long qty), .second, .val (.long mn), .second, .val (.long q4), .second, .unset, .unset, .unset] [(.int (p5 &&& (8 : Int32)))]))
          by_cases hc79_17 : (p5 &&& (8 : Int32)) = (0 : Int32)
          ·
            refine own_Go.by (fun tq kq => XS.ifYes X0.here hx rfl (pc0 := 79) (pc' := 86) rfl (hb hby at_79) rfl ((if0 _ _).trans (teq hc79_17).1) (by decide) (by decide) kq) ?_
            exact g_mx _ trivial
          ·
            refine own_Go.by (fun tq kq => XS.ifNo X0.here hx rfl (hb hby at_79) rfl ((if0 _ _).trans (feq hc79_17).1) kq) ?_
            show own_Go p.tables e below _ (s₁.setTop (mkF m 82 #[.val (.long q1), .second, .val (.long q2), .second, .val (.long q3), .second, .val (.long q4), .second, .val (.int p5), .val (.long step), .second, .val (.long qty), .second, .val (.long mn), .second, .val (.long q4), .second, .unset, .unset, .unset] []))
            refine own_Go.by (fun tq kq => XS.lload X0.here hx rfl (hb hby at_82) rfl kq) ?_
            show own_Go p.tables e below _ (s₁.setTop (mkF m 84 #[.val (.long q1), .second, .val (.long q2), .second, .val (.long q3), .second, .val (.long q4), .second, .val (.int p5), .val (.long step), .second, .val (.long qty), .second, .val (.long mn), .second, .val (.long q4), .second, .unset, .unset, .unset] [(.long qty)]))
            refine own_Go.by (fun tq kq => XS.lstore X0.here hx rfl (hb hby at_84) rfl (l' := #[.val (.long q1), .second, .val (.long q2), .second, .val (.long q3), .second, .val (.long q4), .second, .val (.int p5), .val (.long step), .second, .val (.long qty), .second, .val (.long mn), .second, .val (.long qty), .second, .unset, .unset, .unset]) rfl kq) ?_
            exact g_mx _ trivial
      ·
        intro g_mn
        show own_Go p.tables e below _ (s₁.setTop (mkF m 55 #[.val (.long q1), .second, .val (.long q2), .second, .val (.long q3), .second, .val (.long q4), .second, .val (.int p5), .val (.long step), .second, .val (.long qty), .second, .unset, .unset, .unset, .unset, .unset, .unset, .unset] []))
        refine own_Go.by (fun tq kq => XS.lload X0.here hx rfl (hb hby at_55) rfl kq) ?_
        show own_Go p.tables e below _ (s₁.setTop (mkF m 57 #[.val (.long q1), .second, .val (.long q2), .second, .val (.long q3), .second, .val (.long q4), .second, .val (.int p5), .val (.long step), .second, .val (.long qty), .second, .unset, .unset, .unset, .unset, .unset, .unset, .unset] [(.long q3)]))
        refine own_Go.by (fun tq kq => XS.lstore X0.here hx rfl (hb hby at_57) rfl (l' := #[.val (.long q1), .second, .val (.long q2), .second, .val (.long q3), .second, .val (.long q4), .second, .val (.int p5), .val (.long step), .second, .val (.long qty), .second, .val (.long q3), .second, .unset, .unset, .unset, .unset, .unset]) rfl kq) ?_
        show own_Go p.tables e below _ (s₁.setTop (mkF m 59 #[.val (.long q1), .second, .val (.long q2), .second, .val (.long q3), .second, .val (.long q4), .second, .val (.int p5), .val (.long step), .second, .val (.long qty), .second, .val (.long q3), .second, .unset, .unset, .unset, .unset, .unset] []))
        refine own_Go.by (fun tq kq => XS.iload X0.here hx rfl (hb hby at_59) rfl kq) ?_
        show own_Go p.tables e below _ (s₁.setTop (mkF m 61 #[.val (.long q1), .second, .val (.long q2), .second, .val (.long q3), .second, .val (.long q4), .second, .val (.int p5), .val (.long step), .second, .val (.long qty), .second, .val (.long q3), .second, .unset, .unset, .unset, .unset, .unset] [(.int p5)]))
        refine own_Go.by (fun tq kq => XS.iconst X0.here hx rfl (hb hby at_61) kq) ?_
        show own_Go p.tables e below _ (s₁.setTop (mkF m 62 #[.val (.long q1), .second, .val (.long q2), .second, .val (.long q3), .second, .val (.long q4), .second, .val (.int p5), .val (.long step), .second, .val (.long qty), .second, .val (.long q3), .second, .unset, .unset, .unset, .unset, .unset] [(.int (4 : Int32)), (.int p5)]))
        refine own_Go.by (fun tq kq => XS.iand X0.here hx rfl (hb hby at_62) rfl kq) ?_
        show own_Go p.tables e below _ (s₁.setTop (mkF m 63 #[.val (.long q1), .second, .val (.long q2), .second, .val (.long q3), .second, .val (.long q4), .second, .val (.int p5), .val (.long step), .second, .val (.long qty), .second, .val (.long q3), .second, .unset, .unset, .unset, .unset, .unset] [(.int (p5 &&& (4 : Int32)))]))
        by_cases hc63_18 : (p5 &&& (4 : Int32)) = (0 : Int32)
        ·
          refine own_Go.by (fun tq kq => XS.ifYes X0.here hx rfl (pc0 := 63) (pc' := 70) rfl (hb hby at_63) rfl ((if0 _ _).trans (teq hc63_18).1) (by decide) (by decide) kq) ?_
          exact g_mn _ trivial
        ·
          refine own_Go.by (fun tq kq => XS.ifNo X0.here hx rfl (hb hby at_63) rfl ((if0 _ _).trans (feq hc63_18).1) kq) ?_
          show own_Go p.tables e below _ (s₁.setTop (mkF m 66 #[.val (.long q1), .second, .val (.long q2), .second, .val (.long q3), .second, .val (.long q4), .second, .val (.int p5), .val (.long step), .second, .val (.long qty), .second, .val (.long q3), .second, .unset, .unset, .unset, .unset, .unset] []))
          refine own_Go.by (fun tq kq => XS.lload X0.here hx rfl (hb hby at_66) rfl kq) ?_
          show own_Go p.tables e below _ (s₁.setTop (mkF m 68 #[.val (.long q1), .second, .val (.long q2), .second, .val (.long q3), .second, .val (.long q4), .second, .val (.int p5), .val (.long step), .second, .val (.long qty), .second, .val (.long q3), .second, .unset, .unset, .unset, .unset, .unset] [(.long qty)]))
          refine own_Go.by (fun tq kq => XS.lstore X0.here hx rfl (hb hby at_68) rfl (l' := #[.val (.long q1), .second, .val (.long q2), .second, .val (.long q3), .second, .val (.long q4), .second, .val (.int p5), .val (.long step), .second, .val (.long qty), .second, .val (.long qty), .second, .unset, .unset, .unset, .unset, .unset]) rfl kq) ?_
          exact g_mn _ trivial
    ·
      intro g_qty
      show own_Go p.tables e below _ (s₁.setTop (mkF m 36 #[.val (.long q1), .second, .val (.long q2), .second, .val (.long q3), .second, .val (.long q4), .second, .val (.int p5), .val (.long step), .second, .unset, .unset, .unset, .unset, .unset, .unset, .unset, .unset, .unset] []))
      refine own_Go.by (fun tq kq => XS.lloadN X0.here hx rfl (hb hby at_36) rfl kq) ?_
      show own_Go p.tables e below _ (s₁.setTop (mkF m 37 #[.val (.long q1), .second, .val (.long q2), .second, .val (.long q3), .second, .val (.long q4), .second, .val (.int p5), .val (.long step), .second, .unset, .unset, .unset, .unset, .unset, .unset, .unset, .unset, .unset] [(.long q1)]))
      refine own_Go.by (fun tq kq => XS.lstore X0.here hx rfl (hb hby at_37) rfl (l' := #[.val (.long q1), .second, .val (.long q2), .second, .val (.long q3), .second, .val (.long q4), .second, .val (.int p5), .val (.long step), .second, .val (.long q1), .second, .unset, .unset, .unset, .unset, .unset, .unset, .unset]) rfl kq) ?_
      show own_Go p.tables e below _ (s₁.setTop (mkF m 39 #[.val (.long q1), .second, .val (.long q2), .second, .val (.long q3), .second, .val (.long q4), .second, .val (.int p5), .val (.long step), .second, .val (.long q1), .second, .unset, .unset, .unset, .unset, .unset, .unset, .unset] []))
      refine own_Go.by (fun tq kq => XS.iload X0.here hx rfl (hb hby at_39) rfl kq) ?_
      show own_Go p.tables e below _ (s₁.setTop (mkF m 41 #[.val (.long q1), .second, .val (.long q2), .second, .val (.long q3), .second, .val (.long q4), .second, .val (.int p5), .val (.long step), .second, .val (.long q1), .second, .unset, .unset, .unset, .unset, .unset, .unset, .unset] [(.int p5)]))
      refine own_Go.by (fun tq kq => XS.iconst X0.here hx rfl (hb hby at_41) kq) ?_
      show own_Go p.tables e below _ (s₁.setTop (mkF m 42 #[.val (.long q1), .second, .val (.long q2), .second, .val (.long q3), .second, .val (.long q4), .second, .val (.int p5), .val (.long step), .second, .val (.long q1), .second, .unset, .unset, .unset, .unset, .unset, .unset, .unset] [(.int (2 : Int32)), (.int p5)]))
      refine own_Go.by (fun tq kq => XS.iand X0.here hx rfl (hb hby at_42) rfl kq) ?_
      show own_Go p.tables e below _ (s₁.setTop (mkF m 43 #[.val (.long q1), .second, .val (.long q2), .second, .val (.long q3), .second, .val (.long q4), .second, .val (.int p5), .val (.long step), .second, .val (.long q1), .second, .unset, .unset, .unset, .unset, .unset, .unset, .unset] [(.int (p5 &&& (2 : Int32)))]))
      by_cases hc43_19 : (p5 &&& (2 : Int32)) = (0 : Int32)
      ·
        refine own_Go.by (fun tq kq => XS.ifYes X0.here hx rfl (pc0 := 43) (pc' := 55) rfl (hb hby at_43) rfl ((if0 _ _).trans (teq hc43_19).1) (by decide) (by decide) kq) ?_
        exact g_qty _ trivial
      ·
        refine own_Go.by (fun tq kq => XS.ifNo X0.here hx rfl (hb hby at_43) rfl ((if0 _ _).trans (feq hc43_19).1) kq) ?_
        show own_Go p.tables e below _ (s₁.setTop (mkF m 46 #[.val (.long q1), .second, .val (.long q2), .second, .val (.long q3), .second, .val (.long q4), .second, .val (.int p5), .val (.long step), .second, .val (.long q1), .second, .unset, .unset, .unset, .unset, .unset, .unset, .unset] []))
        refine own_Go.by (fun tq kq => XS.lloadN X0.here hx rfl (hb hby at_46) rfl kq) ?_
        show own_Go p.tables e below _ (s₁.setTop (mkF m 47 #[.val (.long q1), .second, .val (.long q2), .second, .val (.long q3), .second, .val (.long q4), .second, .val (.int p5), .val (.long step), .second, .val (.long q1), .second, .unset, .unset, .unset, .unset, .unset, .unset, .unset] [(.long q1)]))
        refine own_Go.by (fun tq kq => XS.lload X0.here hx rfl (hb hby at_47) rfl kq) ?_
        show own_Go p.tables e below _ (s₁.setTop (mkF m 49 #[.val (.long q1), .second, .val (.long q2), .second, .val (.long q3), .second, .val (.long q4), .second, .val (.int p5), .val (.long step), .second, .val (.long q1), .second, .unset, .unset, .unset, .unset, .unset, .unset, .unset] [(.long step), (.long q1)]))
        refine own_Go.by (fun tq kq => XS.ldiv X0.here hx rfl (hb hby at_49) rfl (own_pos0 h_step) kq) ?_
        show own_Go p.tables e below _ (s₁.setTop (mkF m 50 #[.val (.long q1), .second, .val (.long q2), .second, .val (.long q3), .second, .val (.long q4), .second, .val (.int p5), .val (.long step), .second, .val (.long q1), .second, .unset, .unset, .unset, .unset, .unset, .unset, .unset] [(.long (q1 / step))]))
        refine own_Go.by (fun tq kq => XS.lload X0.here hx rfl (hb hby at_50) rfl kq) ?_
        show own_Go p.tables e below _ (s₁.setTop (mkF m 52 #[.val (.long q1), .second, .val (.long q2), .second, .val (.long q3), .second, .val (.long q4), .second, .val (.int p5), .val (.long step), .second, .val (.long q1), .second, .unset, .unset, .unset, .unset, .unset, .unset, .unset] [(.long step), (.long (q1 / step))]))
        refine own_Go.by (fun tq kq => XS.lmul X0.here hx rfl (hb hby at_52) rfl kq) ?_
        show own_Go p.tables e below _ (s₁.setTop (mkF m 53 #[.val (.long q1), .second, .val (.long q2), .second, .val (.long q3), .second, .val (.long q4), .second, .val (.int p5), .val (.long step), .second, .val (.long q1), .second, .unset, .unset, .unset, .unset, .unset, .unset, .unset] [(.long ((q1 / step) * step))]))
        refine own_Go.by (fun tq kq => XS.lstore X0.here hx rfl (hb hby at_53) rfl (l' := #[.val (.long q1), .second, .val (.long q2), .second, .val (.long q3), .second, .val (.long q4), .second, .val (.int p5), .val (.long step), .second, .val (.long ((q1 / step) * step)), .second, .unset, .unset, .unset, .unset, .unset, .unset, .unset]) rfl kq) ?_
        exact g_qty _ trivial
  ·
    intro g_step
    show own_Go p.tables e below _ (s₁.setTop (mkF m 0 #[.val (.long q1), .second, .val (.long q2), .second, .val (.long q3), .second, .val (.long q4), .second, .val (.int p5), .unset, .unset, .unset, .unset, .unset, .unset, .unset, .unset, .unset, .unset, .unset] []))
    refine own_Go.by (fun tq kq => XS.iload X0.here hx rfl (hb hby at_0) rfl kq) ?_
    show own_Go p.tables e below _ (s₁.setTop (mkF m 2 #[.val (.long q1), .second, .val (.long q2), .second, .val (.long q3), .second, .val (.long q4), .second, .val (.int p5), .unset, .unset, .unset, .unset, .unset, .unset, .unset, .unset, .unset, .unset, .unset] [(.int p5)]))
    refine own_Go.by (fun tq kq => XS.iconst X0.here hx rfl (hb hby at_2) kq) ?_
    show own_Go p.tables e below _ (s₁.setTop (mkF m 3 #[.val (.long q1), .second, .val (.long q2), .second, .val (.long q3), .second, .val (.long q4), .second, .val (.int p5), .unset, .unset, .unset, .unset, .unset, .unset, .unset, .unset, .unset, .unset, .unset] [(.int (1 : Int32)), (.int p5)]))
    refine own_Go.by (fun tq kq => XS.iand X0.here hx rfl (hb hby at_3) rfl kq) ?_
    show own_Go p.tables e below _ (s₁.setTop (mkF m 4 #[.val (.long q1), .second, .val (.long q2), .second, .val (.long q3), .second, .val (.long q4), .second, .val (.int p5), .unset, .unset, .unset, .unset, .unset, .unset, .unset, .unset, .unset, .unset, .unset] [(.int (p5 &&& (1 : Int32)))]))
    by_cases hc4_20 : (p5 &&& (1 : Int32)) = (0 : Int32)
    ·
      refine own_Go.by (fun tq kq => XS.ifYes X0.here hx rfl (pc0 := 4) (pc' := 19) rfl (hb hby at_4) rfl ((if0 _ _).trans (teq hc4_20).1) (by decide) (by decide) kq) ?_
      show own_Go p.tables e below _ (s₁.setTop (mkF m 19 #[.val (.long q1), .second, .val (.long q2), .second, .val (.long q3), .second, .val (.long q4), .second, .val (.int p5), .unset, .unset, .unset, .unset, .unset, .unset, .unset, .unset, .unset, .unset, .unset] []))
      refine own_Go.by (fun tq kq => XS.lloadN X0.here hx rfl (hb hby at_19) rfl kq) ?_
      show own_Go p.tables e below _ (s₁.setTop (mkF m 20 #[.val (.long q1), .second, .val (.long q2), .second, .val (.long q3), .second, .val (.long q4), .second, .val (.int p5), .unset, .unset, .unset, .unset, .unset, .unset, .unset, .unset, .unset, .unset, .unset] [(.long q2)]))
      refine own_Go.by (fun tq kq => X0.ldc2Long hx hown (mvT hZ (hw _ (List.mem_of_getElem? (i := 62) rfl))) (g := (mkF m 20 #[.val (.long q1), .second, .val (.long q2), .second, .val (.long q3), .second, .val (.long q4), .second, .val (.int p5), .unset, .unset, .unset, .unset, .unset, .unset, .unset, .unset, .unset, .unset, .unset] [(.long q2)])) rfl (hb hby at_20) _ kq) ?_
      show own_Go p.tables e below _ (s₁.setTop (mkF m 23 #[.val (.long q1), .second, .val (.long q2), .second, .val (.long q3), .second, .val (.long q4), .second, .val (.int p5), .unset, .unset, .unset, .unset, .unset, .unset, .unset, .unset, .unset, .unset, .unset] [(.long (9223372036854775807 : Int64)), (.long q2)]))
      refine own_Go.by (fun tq kq => XS.land X0.here hx rfl (hb hby at_23) rfl kq) ?_
      show own_Go p.tables e below _ (s₁.setTop (mkF m 24 #[.val (.long q1), .second, .val (.long q2), .second, .val (.long q3), .second, .val (.long q4), .second, .val (.int p5), .unset, .unset, .unset, .unset, .unset, .unset, .unset, .unset, .unset, .unset, .unset] [(.long (q2 &&& (9223372036854775807 : Int64)))]))
      refine own_Go.by (fun tq kq => XS.lstore X0.here hx rfl (hb hby at_24) rfl (l' := #[.val (.long q1), .second, .val (.long q2), .second, .val (.long q3), .second, .val (.long q4), .second, .val (.int p5), .val (.long (q2 &&& (9223372036854775807 : Int64))), .second, .unset, .unset, .unset, .unset, .unset, .unset, .unset, .unset, .unset]) rfl kq) ?_
      show own_Go p.tables e below _ (s₁.setTop (mkF m 26 #[.val (.long q1), .second, .val (.long q2), .second, .val (.long q3), .second, .val (.long q4), .second, .val (.int p5), .val (.long (q2 &&& (9223372036854775807 : Int64))), .second, .unset, .unset, .unset, .unset, .unset, .unset, .unset, .unset, .unset] []))
      refine own_Go.by (fun tq kq => XS.lload X0.here hx rfl (hb hby at_26) rfl kq) ?_
      show own_Go p.tables e below _ (s₁.setTop (mkF m 28 #[.val (.long q1), .second, .val (.long q2), .second, .val (.long q3), .second, .val (.long q4), .second, .val (.int p5), .val (.long (q2 &&& (9223372036854775807 : Int64))), .second, .unset, .unset, .unset, .unset, .unset, .unset, .unset, .unset, .unset] [(.long (q2 &&& (9223372036854775807 : Int64)))]))
      refine own_Go.by (fun tq kq => XS.lconst X0.here hx rfl (hb hby at_28) kq) ?_
      show own_Go p.tables e below _ (s₁.setTop (mkF m 29 #[.val (.long q1), .second, .val (.long q2), .second, .val (.long q3), .second, .val (.long q4), .second, .val (.int p5), .val (.long (q2 &&& (9223372036854775807 : Int64))), .second, .unset, .unset, .unset, .unset, .unset, .unset, .unset, .unset, .unset] [(.long (0 : Int64)), (.long (q2 &&& (9223372036854775807 : Int64)))]))
      refine own_Go.by (fun tq kq => XS.lcmp X0.here hx rfl (hb hby at_29) rfl kq) ?_
      show own_Go p.tables e below _ (s₁.setTop (mkF m 30 #[.val (.long q1), .second, .val (.long q2), .second, .val (.long q3), .second, .val (.long q4), .second, .val (.int p5), .val (.long (q2 &&& (9223372036854775807 : Int64))), .second, .unset, .unset, .unset, .unset, .unset, .unset, .unset, .unset, .unset] [(.int (lcmpW (q2 &&& (9223372036854775807 : Int64)) (0 : Int64)))]))
      by_cases hc30_21 : (q2 &&& (9223372036854775807 : Int64)) = (0 : Int64)
      ·
        refine own_Go.by (fun tq kq => XS.ifNo X0.here hx rfl (hb hby at_30) rfl ((if0 _ _).trans (teq ((lw_eq (q2 &&& (9223372036854775807 : Int64)) (0 : Int64)).mpr hc30_21)).2) kq) ?_
        show own_Go p.tables e below _ (s₁.setTop (mkF m 33 #[.val (.long q1), .second, .val (.long q2), .second, .val (.long q3), .second, .val (.long q4), .second, .val (.int p5), .val (.long (q2 &&& (9223372036854775807 : Int64))), .second, .unset, .unset, .unset, .unset, .unset, .unset, .unset, .unset, .unset] []))
        refine own_Go.by (fun tq kq => XS.lconst X0.here hx rfl (hb hby at_33) kq) ?_
        show own_Go p.tables e below _ (s₁.setTop (mkF m 34 #[.val (.long q1), .second, .val (.long q2), .second, .val (.long q3), .second, .val (.long q4), .second, .val (.int p5), .val (.long (q2 &&& (9223372036854775807 : Int64))), .second, .unset, .unset, .unset, .unset, .unset, .unset, .unset, .unset, .unset] [(.long (1 : Int64))]))
        refine own_Go.by (fun tq kq => XS.lstore X0.here hx rfl (hb hby at_34) rfl (l' := #[.val (.long q1), .second, .val (.long q2), .second, .val (.long q3), .second, .val (.long q4), .second, .val (.int p5), .val (.long (1 : Int64)), .second, .unset, .unset, .unset, .unset, .unset, .unset, .unset, .unset, .unset]) rfl kq) ?_
        exact g_step _ (by decide)
      ·
        refine own_Go.by (fun tq kq => XS.ifYes X0.here hx rfl (pc0 := 30) (pc' := 36) rfl (hb hby at_30) rfl ((if0 _ _).trans (feq (mt (lw_eq (q2 &&& (9223372036854775807 : Int64)) (0 : Int64)).mp hc30_21)).2) (by decide) (by decide) kq) ?_
        exact g_step _ (own_st2 hc30_21)
    ·
      refine own_Go.by (fun tq kq => XS.ifNo X0.here hx rfl (hb hby at_4) rfl ((if0 _ _).trans (feq hc4_20).1) kq) ?_
      show own_Go p.tables e below _ (s₁.setTop (mkF m 7 #[.val (.long q1), .second, .val (.long q2), .second, .val (.long q3), .second, .val (.long q4), .second, .val (.int p5), .unset, .unset, .unset, .unset, .unset, .unset, .unset, .unset, .unset, .unset, .unset] []))
      refine own_Go.by (fun tq kq => XS.lloadN X0.here hx rfl (hb hby at_7) rfl kq) ?_
      show own_Go p.tables e below _ (s₁.setTop (mkF m 8 #[.val (.long q1), .second, .val (.long q2), .second, .val (.long q3), .second, .val (.long q4), .second, .val (.int p5), .unset, .unset, .unset, .unset, .unset, .unset, .unset, .unset, .unset, .unset, .unset] [(.long q2)]))
      refine own_Go.by (fun tq kq => X0.ldc2Long hx hown (mvT hZ (hw _ (List.mem_of_getElem? (i := 0) rfl))) (g := (mkF m 8 #[.val (.long q1), .second, .val (.long q2), .second, .val (.long q3), .second, .val (.long q4), .second, .val (.int p5), .unset, .unset, .unset, .unset, .unset, .unset, .unset, .unset, .unset, .unset, .unset] [(.long q2)])) rfl (hb hby at_8) _ kq) ?_
      show own_Go p.tables e below _ (s₁.setTop (mkF m 11 #[.val (.long q1), .second, .val (.long q2), .second, .val (.long q3), .second, .val (.long q4), .second, .val (.int p5), .unset, .unset, .unset, .unset, .unset, .unset, .unset, .unset, .unset, .unset, .unset] [(.long (7 : Int64)), (.long q2)]))
      refine own_Go.by (fun tq kq => XS.land X0.here hx rfl (hb hby at_11) rfl kq) ?_
      show own_Go p.tables e below _ (s₁.setTop (mkF m 12 #[.val (.long q1), .second, .val (.long q2), .second, .val (.long q3), .second, .val (.long q4), .second, .val (.int p5), .unset, .unset, .unset, .unset, .unset, .unset, .unset, .unset, .unset, .unset, .unset] [(.long (q2 &&& (7 : Int64)))]))
      refine own_Go.by (fun tq kq => XS.lconst X0.here hx rfl (hb hby at_12) kq) ?_
      show own_Go p.tables e below _ (s₁.setTop (mkF m 13 #[.val (.long q1), .second, .val (.long q2), .second, .val (.long q3), .second, .val (.long q4), .second, .val (.int p5), .unset, .unset, .unset, .unset, .unset, .unset, .unset, .unset, .unset, .unset, .unset] [(.long (1 : Int64)), (.long (q2 &&& (7 : Int64)))]))
      refine own_Go.by (fun tq kq => XS.ladd X0.here hx rfl (hb hby at_13) rfl kq) ?_
      show own_Go p.tables e below _ (s₁.setTop (mkF m 14 #[.val (.long q1), .second, .val (.long q2), .second, .val (.long q3), .second, .val (.long q4), .second, .val (.int p5), .unset, .unset, .unset, .unset, .unset, .unset, .unset, .unset, .unset, .unset, .unset] [(.long ((q2 &&& (7 : Int64)) + (1 : Int64)))]))
      refine own_Go.by (fun tq kq => XS.lstore X0.here hx rfl (hb hby at_14) rfl (l' := #[.val (.long q1), .second, .val (.long q2), .second, .val (.long q3), .second, .val (.long q4), .second, .val (.int p5), .val (.long ((q2 &&& (7 : Int64)) + (1 : Int64))), .second, .unset, .unset, .unset, .unset, .unset, .unset, .unset, .unset, .unset]) rfl kq) ?_
      show own_Go p.tables e below _ (s₁.setTop (mkF m 16 #[.val (.long q1), .second, .val (.long q2), .second, .val (.long q3), .second, .val (.long q4), .second, .val (.int p5), .val (.long ((q2 &&& (7 : Int64)) + (1 : Int64))), .second, .unset, .unset, .unset, .unset, .unset, .unset, .unset, .unset, .unset] []))
      refine own_Go.by (fun tq kq => XS.goto X0.here hx rfl (pc0 := 16) (pc' := 26) rfl (hb hby at_16) (by decide) (by decide) kq) ?_
      show own_Go p.tables e below _ (s₁.setTop (mkF m 26 #[.val (.long q1), .second, .val (.long q2), .second, .val (.long q3), .second, .val (.long q4), .second, .val (.int p5), .val (.long ((q2 &&& (7 : Int64)) + (1 : Int64))), .second, .unset, .unset, .unset, .unset, .unset, .unset, .unset, .unset, .unset] []))
      refine own_Go.by (fun tq kq => XS.lload X0.here hx rfl (hb hby at_26) rfl kq) ?_
      show own_Go p.tables e below _ (s₁.setTop (mkF m 28 #[.val (.long q1), .second, .val (.long q2), .second, .val (.long q3), .second, .val (.long q4), .second, .val (.int p5), .val (.long ((q2 &&& (7 : Int64)) + (1 : Int64))), .second, .unset, .unset, .unset, .unset, .unset, .unset, .unset, .unset, .unset] [(.long ((q2 &&& (7 : Int64)) + (1 : Int64)))]))
      refine own_Go.by (fun tq kq => XS.lconst X0.here hx rfl (hb hby at_28) kq) ?_
      show own_Go p.tables e below _ (s₁.setTop (mkF m 29 #[.val (.long q1), .second, .val (.long q2), .second, .val (.long q3), .second, .val (.long q4), .second, .val (.int p5), .val (.long ((q2 &&& (7 : Int64)) + (1 : Int64))), .second, .unset, .unset, .unset, .unset, .unset, .unset, .unset, .unset, .unset] [(.long (0 : Int64)), (.long ((q2 &&& (7 : Int64)) + (1 : Int64)))]))
      refine own_Go.by (fun tq kq => XS.lcmp X0.here hx rfl (hb hby at_29) rfl kq) ?_
      show own_Go p.tables e below _ (s₁.setTop (mkF m 30 #[.val (.long q1), .second, .val (.long q2), .second, .val (.long q3), .second, .val (.long q4), .second, .val (.int p5), .val (.long ((q2 &&& (7 : Int64)) + (1 : Int64))), .second, .unset, .unset, .unset, .unset, .unset, .unset, .unset, .unset, .unset] [(.int (lcmpW ((q2 &&& (7 : Int64)) + (1 : Int64)) (0 : Int64)))]))
      by_cases hc30_22 : ((q2 &&& (7 : Int64)) + (1 : Int64)) = (0 : Int64)
      ·
        refine own_Go.by (fun tq kq => XS.ifNo X0.here hx rfl (hb hby at_30) rfl ((if0 _ _).trans (teq ((lw_eq ((q2 &&& (7 : Int64)) + (1 : Int64)) (0 : Int64)).mpr hc30_22)).2) kq) ?_
        show own_Go p.tables e below _ (s₁.setTop (mkF m 33 #[.val (.long q1), .second, .val (.long q2), .second, .val (.long q3), .second, .val (.long q4), .second, .val (.int p5), .val (.long ((q2 &&& (7 : Int64)) + (1 : Int64))), .second, .unset, .unset, .unset, .unset, .unset, .unset, .unset, .unset, .unset] []))
        refine own_Go.by (fun tq kq => XS.lconst X0.here hx rfl (hb hby at_33) kq) ?_
        show own_Go p.tables e below _ (s₁.setTop (mkF m 34 #[.val (.long q1), .second, .val (.long q2), .second, .val (.long q3), .second, .val (.long q4), .second, .val (.int p5), .val (.long ((q2 &&& (7 : Int64)) + (1 : Int64))), .second, .unset, .unset, .unset, .unset, .unset, .unset, .unset, .unset, .unset] [(.long (1 : Int64))]))
        refine own_Go.by (fun tq kq => XS.lstore X0.here hx rfl (hb hby at_34) rfl (l' := #[.val (.long q1), .second, .val (.long q2), .second, .val (.long q3), .second, .val (.long q4), .second, .val (.int p5), .val (.long (1 : Int64)), .second, .unset, .unset, .unset, .unset, .unset, .unset, .unset, .unset, .unset]) rfl kq) ?_
        exact g_step _ (by decide)
      ·
        refine own_Go.by (fun tq kq => XS.ifYes X0.here hx rfl (pc0 := 30) (pc' := 36) rfl (hb hby at_30) rfl ((if0 _ _).trans (feq (mt (lw_eq ((q2 &&& (7 : Int64)) + (1 : Int64)) (0 : Int64)).mp hc30_22)).2) (by decide) (by decide) kq) ?_
        exact g_step _ (own_st1 q2)

set_option maxRecDepth 65536 in
set_option maxHeartbeats 40000000 in
theorem comes_1 {Post : Tables → Env → Array Value → State → Outcome → State → Prop} (hpost : ∀ tb e args s v u, (limb_1_1.after args s (.returned v) u = true ∧ limb_1_2.after args s (.returned v) u = true ∧ True) → FrameEnd s (.returned v) u (Jvm.fieldLocs frame_1_writes args s ++ Jvm.arrayLocs frame_1_arrays args s ++ Jvm.staticLocs frame_1_statics s) 16 128 → Post tb e args s (.returned v) u) :
    ArmFor flags0 classFile x code maxLocals ret World_1 tables_1 room_1 Calls_1 rest_1 Pre_1 Post := by
  intro l hfl _ _ p e ha hc hk s m args below hf hA hF happ hP
  obtain ⟨hcalls, hrest, hpre⟩ := hP
  obtain ⟨-, -, -, hnamed, -, -, -, hat⟩ := (Spec.applies_iff hf).mp happ
  obtain ⟨hg, hn⟩ := and_e (Cond.before_iff.mp (show (Jvm.Cond.and given_1 narrow_1).before args s = true from hpre))
  obtain ⟨hcount, hg⟩ := and_e hg
  obtain ⟨hg0, hg⟩ := and_e hg
  obtain ⟨hg1, hg⟩ := and_e hg
  obtain ⟨hg2, hg⟩ := and_e hg
  obtain ⟨hg3, hg⟩ := and_e hg
  have hg4 := hg
  obtain ⟨w0, w1, w2, w3, w4, rfl⟩ : ∃ w0 w1 w2 w3 w4 : Value, args = #[w0, w1, w2, w3, w4] := by
    have hs : args.size = 5 := by simpa [Cond.value, given_1] using hcount
    obtain ⟨L⟩ := args
    match L, hs with
    | [w0, w1, w2, w3, w4], _ => exact ⟨w0, w1, w2, w3, w4, rfl⟩
  have hw := fun d (hd : d ∈ tables_1) => atoms_spec (ws := Jvm.Cond.code x code maxLocals ret :: tables_1) hat d (List.mem_cons_of_mem _ hd)
  have hfit : Fit s := fun {y c} hc i hi => by
    obtain ⟨ha, rfl⟩ := Array.getElem?_eq_some_iff.mp hc
    have q := List.all_eq_true.mp ((Array.all_eq_true_iff_forall_mem.mp hF) _ (Array.getElem_mem ha)) i (List.mem_range.mpr hi)
    simpa [Array.getElem?_eq_getElem hi] using q
  obtain ⟨i0, ei0⟩ := isL_v hg0
  obtain rfl : w0 = (.long i0) := Option.some.inj ei0
  obtain ⟨i1, ei1⟩ := isL_v hg1
  obtain rfl : w1 = (.long i1) := Option.some.inj ei1
  obtain ⟨i2, ei2⟩ := isL_v hg2
  obtain rfl : w2 = (.long i2) := Option.some.inj ei2
  obtain ⟨i3, ei3⟩ := isL_v hg3
  obtain rfl : w3 = (.long i3) := Option.some.inj ei3
  obtain ⟨i4, ei4⟩ := is_v hg4
  obtain rfl : w4 = (.int i4) := Option.some.inj ei4
  obtain ⟨hD, hn⟩ := and_e hn
  obtain ⟨hT, hR⟩ := and_e hn
  obtain ⟨aD, eD⟩ := exa_v hD
  obtain ⟨aT, eT⟩ := exa_v hT
  obtain ⟨aR, eR⟩ := exa_v hR
  have SD := Sta.start eD (Or.inr ⟨(hw _ (List.mem_of_getElem? (i := 3) rfl)), (hw _ (List.mem_of_getElem? (i := 5) rfl))⟩)
  have ED := Exa.start eD hD
  have ET := Exa.start eT hT
  have ER := Exa.start eR hR
  have FT := own_fldRef eD eT
  have FR := own_fldRef eD eR
  obtain ⟨n, o, h1, h2, h3, _, L, rfl, ⟨rfl, N, -⟩, hq⟩ := rm0 l s _ hw tables_1 i0 i1 i2 i3 i4 aD aT aR s.heap s.heap.size (Old.start s) SD ED FT FR ET ER p e ha hc hk s m _ below hf ((Spec.applies_iff_loose hf).mp happ).1 ⟨rfl, State.Warmed39.refl s, rfl⟩ trivial
  refine ⟨n, _, h1, h2, h3, hpost _ _ _ _ _ _ ⟨Cond.after_iff.mpr rfl, Cond.after_iff.mpr (eq_i res_at (Term.int_eval (1)) rfl), trivial⟩ ⟨hq.1, hq.2.1, (hq.2.2.sift fun y hy => Or.inr (N y hy)).mono (by decide) (by decide)⟩⟩
theorem main_1_1 : Claimed_1_1 := comes_1 fun _ _ _ _ _ _ h hF => ⟨h.1, hF⟩
theorem main_1_2 : Claimed_1_2 := comes_1 fun _ _ _ _ _ _ h hF => ⟨h.2.1, hF⟩
end Jvm.Pilot.@@N@@
namespace Jvm.Pilot.@@N@@
open Jvm Jvm.ClassFile Sem Op Lib Jvm.Free Jvm.Stand Jvm.Pilot.@@N@@.Jvm.D
/-! MADE BY PROGRAM (witnessworld.py) out of the Statement's table words and the real class files: 17 classes; the members and pool entries that the words name. The judged class is class 1, her method 1. -/
namespace start1
open Jvm.ClassFile
def u (s : String) : CpInfo := .utf8 (stringToUtf16 s)
/-- a pool by its gaps: so many unusable entries, then the entry; so many at the end -/
def gap : Nat → List CpInfo → List CpInfo
  | 0, r => r
  | n + 1, r => .unusable :: gap n r
def poolList (es : List (Nat × CpInfo)) (last : Nat) : List CpInfo := es.foldr (fun e r => gap e.1 (e.2 :: r)) (gap last [])
def pool (es : List (Nat × CpInfo)) (last : Nat) : Array CpInfo := ⟨poolList es last⟩
def fileOf (pool : Array CpInfo) (this : Nat) (attrs : Array Attribute := #[]) (ms : Array MethodInfo := #[]) (fl : Nat := 33) (sup : Nat := 0) (ifs : Array Nat := #[]) (fds : Array FieldInfo := #[]) : ClassFile where
  minorVersion := 0
  majorVersion := 65
  constantPool := pool
  accessFlags := fl
  thisClass := this
  superClass := sup
  interfaces := ifs
  fields := fds
  methods := ms
  attributes := attrs
def plain (name : String) (sup : Option ClassId) : Class where
  name := name
  kind := .ordinary
  loader := none
  accessFlags := 33
  super := sup
  interfaces := #[]
  cf := none
  fields := #[]
  methods := #[]
  instanceTypes := #[]
  staticTypes := #[]
  resolved := #[]
  callSites := []
  init := .initialized
  statics := none
  mirror := none

def pool0 : Array CpInfo := pool [(5, u "<init>"), (0, u "()V"), (1, .class_ 10), (1, u "java/lang/Object")] 113

def k0c0 : Code := { maxStack := 0, maxLocals := 1, code := object_method_1_code, exceptionTable := #[], attributes := #[] }
def k0m0 : Method := { name := "<init>", desc := "()V", sig := { parameters := [], returnType := none }, accessFlags := 1, code := some k0c0 }
/-- java/lang/Object -/
def k0 : Class := { plain "java/lang/Object" none with
  accessFlags := 33
  interfaces := #[]
  cf := some (fileOf pool0 8 #[] #[{ accessFlags := 1, nameIndex := 5, descriptorIndex := 6, attributes := #[] }] 33 0 #[] #[])
  fields := #[]
  methods := #[k0m0]
  instanceTypes := #[]
  staticTypes := #[]
  resolved := Array.replicate 124 none
  statics := none }

def pool1 : Array CpInfo := pool [(2, .class_ 4), (1, u "java/lang/Object"), (0, u "<init>"), (0, u "()V"), (0, .long 7), (3, .long 9223372036854775807), (1, .class_ 14), (0, u "com/example/gridmatch/gridmatch/Product"), (0, .fieldref 13 16), (0, .nameAndType 17 18), (0, u "DEFAULT"), (0, u "Lcom/example/gridmatch/gridmatch/Product;"), (0, .methodref 13 20), (0, .nameAndType 21 22), (0, u "types"), (0, u "()Ljava/util/Set;"), (0, .methodref 13 24), (0, .nameAndType 25 22), (0, u "restrictions"), (0, .methodref 13 27), (0, .nameAndType 5 28), (0, u "(JLcom/example/gridmatch/gridmatch/PriceSteps;JJJJJJLjava/util/Set;Ljava/util/Set;I)V"), (0, .methodref 13 30), (0, .nameAndType 31 32), (0, u "fitsQuantity"), (0, u "(J)Z"), (0, .class_ 34), (0, u "com/example/gridmatch/gridmatch/ProductFitsQuantityPinLaw"), (2, u "law"), (0, u "(JJJJI)Z")] 3

def k1m0 : Method := { name := "<init>", desc := "()V", sig := { parameters := [], returnType := none }, accessFlags := 1, code := none }
def k1c1 : Code := { maxStack := 20, maxLocals := 20, code := code, exceptionTable := #[], attributes := #[] }
def k1m1 : Method := { name := "law", desc := "(JJJJI)Z", sig := { parameters := [.long, .long, .long, .long, .int], returnType := some .boolean }, accessFlags := 9, code := some k1c1 }
/-- com/example/gridmatch/gridmatch/ProductFitsQuantityPinLaw -/
def k1 : Class := { plain "com/example/gridmatch/gridmatch/ProductFitsQuantityPinLaw" (some 0) with
  accessFlags := 49
  interfaces := #[]
  cf := some (fileOf pool1 33 #[] #[{ accessFlags := 1, nameIndex := 5, descriptorIndex := 6, attributes := #[] }, { accessFlags := 9, nameIndex := 37, descriptorIndex := 38, attributes := #[] }] 49 2 #[] #[])
  fields := #[]
  methods := #[k1m0, k1m1]
  instanceTypes := #[]
  staticTypes := #[]
  resolved := Array.replicate 42 none
  statics := none }

def pool2 : Array CpInfo := pool [(1, .methodref 2 3), (0, .class_ 4), (0, .nameAndType 5 6), (0, u "java/lang/Object"), (0, u "<init>"), (0, u "()V"), (0, .class_ 8), (0, u "java/lang/Record")] 13

def k2c0 : Code := { maxStack := 1, maxLocals := 1, code := jdk_30_method_1_code, exceptionTable := #[], attributes := #[] }
def k2m0 : Method := { name := "<init>", desc := "()V", sig := { parameters := [], returnType := none }, accessFlags := 4, code := some k2c0 }
/-- java/lang/Record -/
def k2 : Class := { plain "java/lang/Record" (some 0) with
  accessFlags := 1057
  interfaces := #[]
  cf := some (fileOf pool2 7 #[] #[{ accessFlags := 4, nameIndex := 5, descriptorIndex := 6, attributes := #[] }] 1057 2 #[] #[])
  fields := #[]
  methods := #[k2m0]
  instanceTypes := #[]
  staticTypes := #[]
  resolved := Array.replicate 22 none
  statics := none }

def pool3 : Array CpInfo := pool [(1, .methodref 2 3), (0, .class_ 4), (0, .nameAndType 5 6), (0, u "java/lang/Record"), (0, u "<init>"), (0, u "()V"), (0, .interfaceMethodref 8 9), (0, .class_ 10), (0, .nameAndType 11 12), (0, u "java/util/Set"), (0, u "copyOf"), (0, u "(Ljava/util/Collection;)Ljava/util/Set;"), (0, .fieldref 14 15), (0, .class_ 16), (0, .nameAndType 17 18), (0, u "com/example/gridmatch/gridmatch/Product"), (0, u "tick"), (0, u "J"), (0, .fieldref 14 20), (0, .nameAndType 21 22), (0, u "prices"), (0, u "Lcom/example/gridmatch/gridmatch/PriceSteps;"), (0, .fieldref 14 24), (0, .nameAndType 25 18), (0, u "minPrice"), (0, .fieldref 14 27), (0, .nameAndType 28 18), (0, u "maxPrice"), (0, .fieldref 14 30), (0, .nameAndType 31 18), (0, u "quantityStep"), (0, .fieldref 14 33), (0, .nameAndType 34 18), (0, u "minQuantity"), (0, .fieldref 14 36), (0, .nameAndType 37 18), (0, u "maxQuantity"), (0, .fieldref 14 39), (0, .nameAndType 40 18), (0, u "minPeak"), (0, .fieldref 14 42), (0, .nameAndType 43 44), (0, u "types"), (0, u "Ljava/util/Set;"), (0, .fieldref 14 46), (0, .nameAndType 47 44), (0, u "restrictions"), (0, .fieldref 14 49), (0, .nameAndType 50 51), (0, u "gtdGridMinutes"), (0, u "I"), (39, u "fitsQuantity"), (0, u "(J)Z"), (144, u "(JLcom/example/gridmatch/gridmatch/PriceSteps;JJJJJJLjava/util/Set;Ljava/util/Set;I)V"), (2, u "DEFAULT"), (0, u "Lcom/example/gridmatch/gridmatch/Product;"), (3, u "MINUTES_A_DAY"), (15, u "()Ljava/util/Set;")] 33

def k3c0 : Code := { maxStack := 3, maxLocals := 19, code := prog_59_method_1_code, exceptionTable := #[], attributes := #[] }
def k3m0 : Method := { name := "<init>", desc := "(JLcom/example/gridmatch/gridmatch/PriceSteps;JJJJJJLjava/util/Set;Ljava/util/Set;I)V", sig := { parameters := [.long, (.object "com/example/gridmatch/gridmatch/PriceSteps"), .long, .long, .long, .long, .long, .long, (.object "java/util/Set"), (.object "java/util/Set"), .int], returnType := none }, accessFlags := 0, code := some k3c0 }
def k3c1 : Code := { maxStack := 4, maxLocals := 3, code := prog_59_method_6_code, exceptionTable := #[], attributes := #[] }
def k3m1 : Method := { name := "fitsQuantity", desc := "(J)Z", sig := { parameters := [.long], returnType := some .boolean }, accessFlags := 0, code := some k3c1 }
def k3c2 : Code := { maxStack := 1, maxLocals := 1, code := prog_59_method_22_code, exceptionTable := #[], attributes := #[] }
def k3m2 : Method := { name := "types", desc := "()Ljava/util/Set;", sig := { parameters := [], returnType := some (.object "java/util/Set") }, accessFlags := 1, code := some k3c2 }
def k3c3 : Code := { maxStack := 1, maxLocals := 1, code := prog_59_method_23_code, exceptionTable := #[], attributes := #[] }
def k3m3 : Method := { name := "restrictions", desc := "()Ljava/util/Set;", sig := { parameters := [], returnType := some (.object "java/util/Set") }, accessFlags := 1, code := some k3c3 }
/-- com/example/gridmatch/gridmatch/Product -/
def k3 : Class := { plain "com/example/gridmatch/gridmatch/Product" (some 2) with
  accessFlags := 48
  interfaces := #[]
  cf := some (fileOf pool3 14 #[] #[{ accessFlags := 0, nameIndex := 5, descriptorIndex := 237, attributes := #[] }, { accessFlags := 0, nameIndex := 91, descriptorIndex := 92, attributes := #[] }, { accessFlags := 1, nameIndex := 43, descriptorIndex := 261, attributes := #[] }, { accessFlags := 1, nameIndex := 47, descriptorIndex := 261, attributes := #[] }] 48 2 #[] #[{ accessFlags := 18, nameIndex := 17, descriptorIndex := 18, attributes := #[] }, { accessFlags := 18, nameIndex := 21, descriptorIndex := 22, attributes := #[] }, { accessFlags := 18, nameIndex := 25, descriptorIndex := 18, attributes := #[] }, { accessFlags := 18, nameIndex := 28, descriptorIndex := 18, attributes := #[] }, { accessFlags := 18, nameIndex := 31, descriptorIndex := 18, attributes := #[] }, { accessFlags := 18, nameIndex := 34, descriptorIndex := 18, attributes := #[] }, { accessFlags := 18, nameIndex := 37, descriptorIndex := 18, attributes := #[] }, { accessFlags := 18, nameIndex := 40, descriptorIndex := 18, attributes := #[] }, { accessFlags := 18, nameIndex := 43, descriptorIndex := 44, attributes := #[] }, { accessFlags := 18, nameIndex := 47, descriptorIndex := 44, attributes := #[] }, { accessFlags := 18, nameIndex := 50, descriptorIndex := 51, attributes := #[] }, { accessFlags := 24, nameIndex := 245, descriptorIndex := 51, attributes := #[] }, { accessFlags := 24, nameIndex := 240, descriptorIndex := 241, attributes := #[] }])
  fields := #[{ name := "tick", type := .long, accessFlags := 18, slot := 0, constantValue := 0 }, { name := "prices", type := (.object "com/example/gridmatch/gridmatch/PriceSteps"), accessFlags := 18, slot := 1, constantValue := 0 }, { name := "minPrice", type := .long, accessFlags := 18, slot := 2, constantValue := 0 }, { name := "maxPrice", type := .long, accessFlags := 18, slot := 3, constantValue := 0 }, { name := "quantityStep", type := .long, accessFlags := 18, slot := 4, constantValue := 0 }, { name := "minQuantity", type := .long, accessFlags := 18, slot := 5, constantValue := 0 }, { name := "maxQuantity", type := .long, accessFlags := 18, slot := 6, constantValue := 0 }, { name := "minPeak", type := .long, accessFlags := 18, slot := 7, constantValue := 0 }, { name := "types", type := (.object "java/util/Set"), accessFlags := 18, slot := 8, constantValue := 0 }, { name := "restrictions", type := (.object "java/util/Set"), accessFlags := 18, slot := 9, constantValue := 0 }, { name := "gtdGridMinutes", type := .int, accessFlags := 18, slot := 10, constantValue := 0 }, { name := "MINUTES_A_DAY", type := .int, accessFlags := 24, slot := 0, constantValue := 0 }, { name := "DEFAULT", type := (.object "com/example/gridmatch/gridmatch/Product"), accessFlags := 24, slot := 1, constantValue := 0 }]
  methods := #[k3m0, k3m1, k3m2, k3m3]
  instanceTypes := #[.long, (.object "com/example/gridmatch/gridmatch/PriceSteps"), .long, .long, .long, .long, .long, .long, (.object "java/util/Set"), (.object "java/util/Set"), .int]
  staticTypes := #[.int, (.object "com/example/gridmatch/gridmatch/Product")]
  resolved := Array.replicate 295 none
  statics := some 0 }

def pool4 : Array CpInfo := pool [(8, .class_ 10), (1, u "java/lang/Iterable"), (24, .class_ 36), (0, u "java/lang/Object")] 25

/-- java/lang/Iterable -/
def k4 : Class := { plain "java/lang/Iterable" (some 0) with
  accessFlags := 1537
  interfaces := #[]
  cf := some (fileOf pool4 8 #[] #[] 1537 35 #[] #[])
  fields := #[]
  methods := #[]
  instanceTypes := #[]
  staticTypes := #[]
  resolved := Array.replicate 62 none
  statics := none }

def pool5 : Array CpInfo := pool [(10, .class_ 12), (1, u "java/util/Collection"), (47, .class_ 61), (0, u "java/lang/Object"), (0, .class_ 63), (0, u "java/lang/Iterable")] 51

/-- java/util/Collection -/
def k5 : Class := { plain "java/util/Collection" (some 0) with
  accessFlags := 1537
  interfaces := #[4]
  cf := some (fileOf pool5 10 #[] #[] 1537 60 #[62] #[])
  fields := #[]
  methods := #[]
  instanceTypes := #[]
  staticTypes := #[]
  resolved := Array.replicate 115 none
  statics := none }

def pool6 : Array CpInfo := pool [(26, .class_ 27), (0, u "java/lang/Object"), (3, .class_ 32), (0, u "java/util/ImmutableCollections$AbstractImmutableSet"), (0, .class_ 34), (0, u "java/util/Set"), (1, .class_ 38), (1, u "java/util/Collection"), (92, u "copyOf"), (0, u "(Ljava/util/Collection;)Ljava/util/Set;")] 11

def k6c0 : Code := { maxStack := 3, maxLocals := 1, code := jdk_96_method_29_code, exceptionTable := #[], attributes := #[] }
def k6m0 : Method := { name := "copyOf", desc := "(Ljava/util/Collection;)Ljava/util/Set;", sig := { parameters := [(.object "java/util/Collection")], returnType := some (.object "java/util/Set") }, accessFlags := 9, code := some k6c0 }
/-- java/util/Set -/
def k6 : Class := { plain "java/util/Set" (some 0) with
  accessFlags := 1537
  interfaces := #[5]
  cf := some (fileOf pool6 33 #[] #[{ accessFlags := 9, nameIndex := 131, descriptorIndex := 132, attributes := #[] }] 1537 26 #[36] #[])
  fields := #[]
  methods := #[k6m0]
  instanceTypes := #[]
  staticTypes := #[]
  resolved := Array.replicate 144 none
  statics := none }

def pool7 : Array CpInfo := pool [(2, .class_ 4), (1, u "java/lang/Object"), (0, u "<init>"), (0, u "()V"), (1, .class_ 10), (1, u "java/util/AbstractCollection"), (66, .class_ 78), (0, u "java/util/Collection")] 81

def k7m0 : Method := { name := "<init>", desc := "()V", sig := { parameters := [], returnType := none }, accessFlags := 4, code := none }
/-- java/util/AbstractCollection -/
def k7 : Class := { plain "java/util/AbstractCollection" (some 0) with
  accessFlags := 1057
  interfaces := #[5]
  cf := some (fileOf pool7 8 #[] #[{ accessFlags := 4, nameIndex := 5, descriptorIndex := 6, attributes := #[] }] 1057 2 #[77] #[])
  fields := #[]
  methods := #[k7m0]
  instanceTypes := #[]
  staticTypes := #[]
  resolved := Array.replicate 160 none
  statics := none }

def pool8 : Array CpInfo := pool [(2, .class_ 4), (1, u "java/util/AbstractCollection"), (0, u "<init>"), (0, u "()V"), (1, .class_ 10), (1, u "java/util/ImmutableCollections"), (2, .class_ 14), (0, u "java/util/ImmutableCollections$AbstractImmutableCollection")] 41

def k8m0 : Method := { name := "<init>", desc := "()V", sig := { parameters := [], returnType := none }, accessFlags := 0, code := none }
/-- java/util/ImmutableCollections$AbstractImmutableCollection -/
def k8 : Class := { plain "java/util/ImmutableCollections$AbstractImmutableCollection" (some 7) with
  accessFlags := 1056
  interfaces := #[]
  cf := some (fileOf pool8 13 #[.nestHost 8] #[{ accessFlags := 0, nameIndex := 5, descriptorIndex := 6, attributes := #[] }] 1056 2 #[] #[])
  fields := #[]
  methods := #[k8m0]
  instanceTypes := #[]
  staticTypes := #[]
  resolved := Array.replicate 56 none
  statics := none }

def pool9 : Array CpInfo := pool [(2, .class_ 4), (1, u "java/util/ImmutableCollections$AbstractImmutableCollection"), (0, u "<init>"), (0, u "()V"), (0, .class_ 8), (0, u "java/util/Set"), (7, .class_ 17), (0, u "java/util/ImmutableCollections$AbstractImmutableSet"), (43, .class_ 62), (0, u "java/util/ImmutableCollections")] 3

def k9m0 : Method := { name := "<init>", desc := "()V", sig := { parameters := [], returnType := none }, accessFlags := 0, code := none }
/-- java/util/ImmutableCollections$AbstractImmutableSet -/
def k9 : Class := { plain "java/util/ImmutableCollections$AbstractImmutableSet" (some 8) with
  accessFlags := 1056
  interfaces := #[6]
  cf := some (fileOf pool9 16 #[.nestHost 61] #[{ accessFlags := 0, nameIndex := 5, descriptorIndex := 6, attributes := #[] }] 1056 2 #[7] #[])
  fields := #[]
  methods := #[k9m0]
  instanceTypes := #[]
  staticTypes := #[]
  resolved := Array.replicate 66 none
  statics := none }

def pool10 : Array CpInfo := pool [(1, .class_ 2), (0, u "java/io/Serializable"), (0, .class_ 4), (0, u "java/lang/Object")] 2

/-- java/io/Serializable -/
def k10 : Class := { plain "java/io/Serializable" (some 0) with
  accessFlags := 1537
  interfaces := #[]
  cf := some (fileOf pool10 1 #[] #[] 1537 3 #[] #[])
  fields := #[]
  methods := #[]
  instanceTypes := #[]
  staticTypes := #[]
  resolved := Array.replicate 7 none
  statics := none }

def pool11 : Array CpInfo := pool [(1, .class_ 2), (0, u "java/util/ImmutableCollections"), (1, .class_ 6), (1, u "java/util/ImmutableCollections$AbstractImmutableSet"), (3, .class_ 12), (1, u "java/util/ImmutableCollections$SetN"), (0, u "size"), (0, u "I"), (4, u "elements"), (0, u "[Ljava/lang/Object;"), (86, .class_ 108), (0, u "java/io/Serializable")] 59

/-- java/util/ImmutableCollections$SetN -/
def k11 : Class := { plain "java/util/ImmutableCollections$SetN" (some 9) with
  accessFlags := 48
  interfaces := #[10]
  cf := some (fileOf pool11 10 #[.nestHost 1] #[] 48 4 #[107] #[{ accessFlags := 16, nameIndex := 19, descriptorIndex := 20, attributes := #[] }, { accessFlags := 16, nameIndex := 13, descriptorIndex := 14, attributes := #[] }])
  fields := #[{ name := "elements", type := (.array (.object "java/lang/Object")), accessFlags := 16, slot := 0, constantValue := 0 }, { name := "size", type := .int, accessFlags := 16, slot := 1, constantValue := 0 }]
  methods := #[]
  instanceTypes := #[(.array (.object "java/lang/Object")), .int]
  staticTypes := #[]
  resolved := Array.replicate 168 none
  statics := none }

def pool12 : Array CpInfo := pool [(1, u "java/lang/Cloneable"), (0, .class_ 1), (0, u "java/lang/Object"), (0, .class_ 3)] 3

/-- java/lang/Cloneable -/
def k12 : Class := { plain "java/lang/Cloneable" (some 0) with
  accessFlags := 1537
  interfaces := #[]
  cf := some (fileOf pool12 2 #[] #[] 1537 4 #[] #[])
  fields := #[]
  methods := #[]
  instanceTypes := #[]
  staticTypes := #[]
  resolved := Array.replicate 8 none
  statics := none }

/-- the primitive byte -/
def k13 : Class := { plain "byte" none with kind := .primitive 'B', accessFlags := 0x411 }
/-- [B -/
def k14 : Class := { plain "[B" (some 0) with kind := .array 13 .byte, interfaces := #[12, 10], accessFlags := 1041 }

/-- the primitive int -/
def k15 : Class := { plain "int" none with kind := .primitive 'I', accessFlags := 0x411 }
/-- [I -/
def k16 : Class := { plain "[I" (some 0) with kind := .array 15 .int, interfaces := #[12, 10], accessFlags := 1041 }

def heap : Heap := #[{ cls := 3, slots := #[.int 0, .ref 2], vm := .statics 3 },
  { cls := 11, slots := #[.null, .int 0], vm := .none },
  { cls := 3, slots := #[.long 0, .null, .long 0, .long 0, .long 1, .long 0, .long 0, .long 0, .ref 1, .ref 1, .int 5], vm := .none }]
def classes : Array Class := #[k0, k1, k2, k3, k4, k5, k6, k7, k8, k9, k10, k11, k12, k13, k14, k15, k16]
def interned : List (Array UInt16 × Addr) := []
def slotsUsed : Nat := 15
def theMethod : MethodId := ⟨1, 1⟩
def args0 : Array Value := #[.long 5, .long 9, .long 3, .long 4, .int 1]
def aboutOver (below : List Frame) : State where
  vm := { classes := classes, interned := interned.toArray }
  heap := heap
  slotsUsed := slotsUsed
  threads := #[{ frames := .invoking theMethod args0 :: below }]
def below0 : List Frame := [.native { method := ⟨0, 0⟩, args := #[] }]
def about1 : State := aboutOver below0
def p0 : Program := .bare "" "" ""
def e0 : Env := launch0.env 0 0 0
theorem w_frames : about1.frames = Frame.invoking theMethod args0 :: below0 := rfl
set_option maxRecDepth 65536 in
theorem w_args : argsFit about1.vm theMethod args0 = true := by decide +kernel
set_option maxRecDepth 65536 in
theorem w_heap : heapFits about1 = true := by decide +kernel
set_option maxRecDepth 65536 in
theorem w_runnable : about1.curStatus? = some .runnable := by decide +kernel
set_option maxRecDepth 65536 in
theorem w_alone : about1.alone = true := by decide +kernel
set_option maxRecDepth 65536 in
theorem w_named : about1.methodNamed? x = some theMethod := by decide +kernel
set_option maxRecDepth 65536 in
theorem w_hears : about1.hears theMethod below0 = true := by decide +kernel
set_option maxRecDepth 65536 in
theorem w_ripe : about1.ripe theMethod args0 below0 = true := by decide +kernel
theorem w_running : about1.status = .running := rfl
set_option maxRecDepth 65536 in
theorem w_room : about1.hasRoom e0.platform room_1 = true :=
  launch0.hasRoom_least _ room_1 (by decide +kernel) (by decide +kernel) (by decide +kernel) (by decide +kernel) (by decide +kernel) (by decide +kernel)
theorem allAtoms_all (ts : List Jvm.Cond) (a : Array Jvm.Value) (st : Jvm.State) : (allAtoms ts).before a st = ts.all (fun c => c.before a st) := by
  induction ts with
  | nil => rfl
  | cons c t ih =>
    show (Jvm.Cond.and c (allAtoms t)).before a st = _
    rw [Jvm.Cond.before_and, ih, List.all_cons]
def words1 : List Jvm.Cond := Jvm.Cond.code x code maxLocals ret :: tables_1
/-- a 'code' word, met by the world's own term for the bytes: nothing is compared byte by byte -/
theorem code_word {y : MethodName} {bytes : ByteArray} {mx : Nat} {rt : Option FieldType} {a : Array Value} {s : State} {m : MethodId} {meth : Method} {c : Code} (h1 : s.methodNamed? y = some m) (h2 : s.vm.method? m = some meth) (h3 : meth.code = some c) (h4 : c.code = bytes)
    (h5 : (c.maxLocals == mx && c.exceptionTable.isEmpty && decide (c.maxStack ≤ mostOperands) && decide (meth.sig.returnType = rt) && !meth.locks && decide (parseMethodDescriptor y.desc = some meth.sig)) = true) : (Jvm.Cond.code y bytes mx rt).before a s = true := by
  simp only [Bool.and_eq_true, beq_iff_eq, Bool.not_eq_true', decide_eq_true_eq] at h5
  obtain ⟨⟨⟨⟨⟨g1, g2⟩, g3⟩, g4⟩, g5⟩, g6⟩ := h5
  simp [Cond.before, Cond.holds, Cond.value, h1, h2, h3, h4, g1, g2, g3, g4, g5, g6]
def isCode : Jvm.Cond → Bool
  | .code _ _ _ _ => true
  | _ => false
theorem all_split {L : List Jvm.Cond} {P : Jvm.Cond → Bool} (h1 : L.all (fun c => isCode c || P c) = true) (h2 : ∀ c ∈ L.filter isCode, P c = true) : L.all P = true := by
  refine List.all_eq_true.mpr fun c hc => ?_
  have h := List.all_eq_true.mp h1 c hc
  rcases Bool.eq_false_or_eq_true (isCode c) with hi | hi
  · exact h2 c (List.mem_filter.mpr ⟨hc, hi⟩)
  · simpa [hi] using h
set_option maxRecDepth 65536 in
theorem w_c0 : (Jvm.Cond.code x code maxLocals ret).before args0 about1 = true := code_word (m := ⟨1, 1⟩) (meth := k1m1) (c := k1c1) (by decide +kernel) rfl rfl rfl (by decide +kernel)
set_option maxRecDepth 65536 in
theorem w_c1 : (Jvm.Cond.code ({ cls := "com/example/gridmatch/gridmatch/Product", name := "types", desc := "()Ljava/util/Set;" } : Jvm.MethodName) prog_59_method_22_code (1 : Nat) (Option.some (Jvm.ClassFile.FieldType.object "java/util/Set"))).before args0 about1 = true := code_word (m := ⟨3, 2⟩) (meth := k3m2) (c := k3c2) (by decide +kernel) rfl rfl rfl (by decide +kernel)
set_option maxRecDepth 65536 in
theorem w_c2 : (Jvm.Cond.code ({ cls := "com/example/gridmatch/gridmatch/Product", name := "restrictions", desc := "()Ljava/util/Set;" } : Jvm.MethodName) prog_59_method_23_code (1 : Nat) (Option.some (Jvm.ClassFile.FieldType.object "java/util/Set"))).before args0 about1 = true := code_word (m := ⟨3, 3⟩) (meth := k3m3) (c := k3c3) (by decide +kernel) rfl rfl rfl (by decide +kernel)
set_option maxRecDepth 65536 in
theorem w_c3 : (Jvm.Cond.code ({ cls := "com/example/gridmatch/gridmatch/Product", name := "<init>", desc := "(JLcom/example/gridmatch/gridmatch/PriceSteps;JJJJJJLjava/util/Set;Ljava/util/Set;I)V" } : Jvm.MethodName) prog_59_method_1_code (19 : Nat) (Option.none : Option Jvm.ClassFile.FieldType)).before args0 about1 = true := code_word (m := ⟨3, 0⟩) (meth := k3m0) (c := k3c0) (by decide +kernel) rfl rfl rfl (by decide +kernel)
set_option maxRecDepth 65536 in
theorem w_c4 : (Jvm.Cond.code ({ cls := "java/lang/Record", name := "<init>", desc := "()V" } : Jvm.MethodName) jdk_30_method_1_code (1 : Nat) (Option.none : Option Jvm.ClassFile.FieldType)).before args0 about1 = true := code_word (m := ⟨2, 0⟩) (meth := k2m0) (c := k2c0) (by decide +kernel) rfl rfl rfl (by decide +kernel)
set_option maxRecDepth 65536 in
theorem w_c5 : (Jvm.Cond.code ({ cls := "java/lang/Object", name := "<init>", desc := "()V" } : Jvm.MethodName) object_method_1_code (1 : Nat) (Option.none : Option Jvm.ClassFile.FieldType)).before args0 about1 = true := code_word (m := ⟨0, 0⟩) (meth := k0m0) (c := k0c0) (by decide +kernel) rfl rfl rfl (by decide +kernel)
set_option maxRecDepth 65536 in
theorem w_c6 : (Jvm.Cond.code ({ cls := "java/util/Set", name := "copyOf", desc := "(Ljava/util/Collection;)Ljava/util/Set;" } : Jvm.MethodName) jdk_96_method_29_code (1 : Nat) (Option.some (Jvm.ClassFile.FieldType.object "java/util/Set"))).before args0 about1 = true := code_word (m := ⟨6, 0⟩) (meth := k6m0) (c := k6c0) (by decide +kernel) rfl rfl rfl (by decide +kernel)
set_option maxRecDepth 65536 in
theorem w_c7 : (Jvm.Cond.code ({ cls := "com/example/gridmatch/gridmatch/Product", name := "fitsQuantity", desc := "(J)Z" } : Jvm.MethodName) prog_59_method_6_code (3 : Nat) (Option.some Jvm.ClassFile.FieldType.boolean)).before args0 about1 = true := code_word (m := ⟨3, 1⟩) (meth := k3m1) (c := k3c1) (by decide +kernel) rfl rfl rfl (by decide +kernel)
def codes1 : List Jvm.Cond := [Jvm.Cond.code x code maxLocals ret, Jvm.Cond.code ({ cls := "com/example/gridmatch/gridmatch/Product", name := "types", desc := "()Ljava/util/Set;" } : Jvm.MethodName) prog_59_method_22_code (1 : Nat) (Option.some (Jvm.ClassFile.FieldType.object "java/util/Set")), Jvm.Cond.code ({ cls := "com/example/gridmatch/gridmatch/Product", name := "restrictions", desc := "()Ljava/util/Set;" } : Jvm.MethodName) prog_59_method_23_code (1 : Nat) (Option.some (Jvm.ClassFile.FieldType.object "java/util/Set")), Jvm.Cond.code ({ cls := "com/example/gridmatch/gridmatch/Product", name := "<init>", desc := "(JLcom/example/gridmatch/gridmatch/PriceSteps;JJJJJJLjava/util/Set;Ljava/util/Set;I)V" } : Jvm.MethodName) prog_59_method_1_code (19 : Nat) (Option.none : Option Jvm.ClassFile.FieldType), Jvm.Cond.code ({ cls := "java/lang/Record", name := "<init>", desc := "()V" } : Jvm.MethodName) jdk_30_method_1_code (1 : Nat) (Option.none : Option Jvm.ClassFile.FieldType), Jvm.Cond.code ({ cls := "java/lang/Object", name := "<init>", desc := "()V" } : Jvm.MethodName) object_method_1_code (1 : Nat) (Option.none : Option Jvm.ClassFile.FieldType), Jvm.Cond.code ({ cls := "java/util/Set", name := "copyOf", desc := "(Ljava/util/Collection;)Ljava/util/Set;" } : Jvm.MethodName) jdk_96_method_29_code (1 : Nat) (Option.some (Jvm.ClassFile.FieldType.object "java/util/Set")), Jvm.Cond.code ({ cls := "com/example/gridmatch/gridmatch/Product", name := "fitsQuantity", desc := "(J)Z" } : Jvm.MethodName) prog_59_method_6_code (3 : Nat) (Option.some Jvm.ClassFile.FieldType.boolean)]
set_option maxRecDepth 65536 in
theorem codes_eq : words1.filter isCode = codes1 := rfl
theorem w_codes : ∀ c ∈ words1.filter isCode, c.before args0 about1 = true := by
  rw [codes_eq]
  intro c hc
  simp only [codes1, List.mem_cons, List.not_mem_nil, or_false] at hc
  rcases hc with rfl | rfl | rfl | rfl | rfl | rfl | rfl | rfl
  · exact w_c0
  · exact w_c1
  · exact w_c2
  · exact w_c3
  · exact w_c4
  · exact w_c5
  · exact w_c6
  · exact w_c7
set_option maxRecDepth 65536 in
theorem w_t1 : (words1.take 24).all (fun c => isCode c || c.before args0 about1) = true := by decide +kernel
set_option maxRecDepth 65536 in
theorem w_t2 : ((words1.drop 24).take 24).all (fun c => isCode c || c.before args0 about1) = true := by decide +kernel
set_option maxRecDepth 65536 in
theorem w_t3 : ((words1.drop 24).drop 24).all (fun c => isCode c || c.before args0 about1) = true := by decide +kernel
theorem w_tables : (allAtoms (Jvm.Cond.code x code maxLocals ret :: tables_1)).before args0 about1 = true := by
  rw [allAtoms_all]
  show words1.all (fun c => c.before args0 about1) = true
  refine all_split ?_ w_codes
  rw [← List.take_append_drop 24 words1, List.all_append, w_t1, ← List.take_append_drop 24 (words1.drop 24), List.all_append, w_t2, w_t3]
  rfl
set_option maxRecDepth 65536 in
theorem w_case : (Jvm.Cond.and given_1 narrow_1).before args0 about1 = true := by decide +kernel
theorem w_applies : (headSpec (Jvm.Cond.code x code maxLocals ret :: tables_1) room_1).applies x e0.platform about1 = true :=
  (Spec.applies_iff w_frames).mpr ⟨w_running, w_runnable, w_alone, w_named, w_hears, w_ripe, w_room, w_tables⟩
theorem atStart : AtStart classFile x code maxLocals ret World_1 tables_1 room_1 Calls_1 rest_1 Pre_1 launch0 p0 e0 about1 theMethod args0 below0 :=
  ⟨lists_1, trivial, launch0.admits_env _ _ _, launch0.least_env, fairChoices_fair.cas, fairChoices_fair.clock, w_frames, w_args, w_heap, w_applies, trivial, trivial, w_case⟩
end start1
theorem witness_1 : WitnessClaimed_1 := ⟨start1.p0, start1.e0, start1.about1, start1.theMethod, start1.args0, start1.below0, start1.atStart⟩
end Jvm.Pilot.@@N@@
