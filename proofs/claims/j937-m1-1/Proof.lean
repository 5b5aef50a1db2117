import JvmDerived
import JvmDerived.Pilot.@@N@@Statement
import JvmDerived.Pilot.@@N@@Code
set_option linter.unusedVariables false
set_option linter.unusedSimpArgs false
namespace Jvm.RoadKit
open Sem ClassFile Op Lib Jvm.Stand Jvm.Free Jvm.LawKit
section New
variable {p : Program} {l : Launch} {e : Env} {R : Room} {s : State} {m : MethodId} {args : Array Value} {below : List Frame} {meth : Method} {c : Code} {T : State} {locs : List Loc} {cells slots : Nat}
theorem retI (X : Stand p l e R s m args below meth c T locs cells slots) (hx : p.tables.exec = Jvm.exec) {pc : Nat} {Ls : Array Slot} {z : Int32} {rest : List Value} (hret : meth.sig.returnType = some .int) (hd : decode c.code pc = .ok (.ireturn, 1)) {fs : List Frame}
    (hl : ∀ (f : JFrame) (acts : List Action), f.method = m → f.locked = none → f.entered = [] → (doReturn e (T.setTop f) acts (some (.int z))).1 = T.setFrames fs) : Steps p.tables e below (T.setTop (mkF m pc Ls (.int z :: rest))) (T.setFrames fs) := by
  have hm' : T.vm.method? m = some meth := X.method'
  have hn : narrow .int (.int z) = .int z := rfl
  show Steps p.tables e below (T.setTop { method := m, pc := pc, locals := Ls, stack := _ :: rest, locked := none }) _
  jvm_step X.here [X.here.top, hx, hd, hm', hret, hn]
  first | (intro acts; rw [hl _ acts rfl rfl rfl]) | rw [hl _ _ rfl rfl rfl]
  exact Steps.refl _
end New
end Jvm.RoadKit

namespace Jvm.Pilot.@@N@@
open Jvm Jvm.ClassFile Sem Op Lib Jvm.Free Jvm.Stand Jvm.LawKit Jvm.RoadKit Bundle Jvm.Pilot.@@N@@.Jvm.D
def own_Go (tb : Tables) (e : Env) (below : List Frame) (K : State → Outcome → Prop) (S : State) : Prop := ∃ t o, Steps tb e below S t ∧ K t o
theorem own_Go.by {tb : Tables} {e : Env} {below : List Frame} {K : State → Outcome → Prop} {S S' : State} (h : ∀ t, Steps tb e below S' t → Steps tb e below S t) (g : own_Go tb e below K S') : own_Go tb e below K S := by
  obtain ⟨t, o, a, b⟩ := g
  exact ⟨t, o, h t a, b⟩
theorem own_Go.fin {tb : Tables} {e : Env} {below : List Frame} {K : State → Outcome → Prop} {S t : State} {o : Outcome} (h : Steps tb e below S t) (k : K t o) : own_Go tb e below K S := ⟨t, o, h, k⟩
theorem own_merge {α : Type} {P : α → Prop} {F : α → State} {tb : Tables} {e : Env} {below : List Frame} {K : State → Outcome → Prop} {S : State} (g : ∀ v, P v → own_Go tb e below K (F v)) (h : (∀ v, P v → own_Go tb e below K (F v)) → own_Go tb e below K S) : own_Go tb e below K S := h g
theorem own_old_le {Z : State} {n0 : Nat} {h : Heap} (O : Old Z n0 h) : n0 ≤ h.size := O.1 ▸ O.2.1
theorem own_rew {s t : State} {o : Outcome} {L : List Loc} {k n k' n' : Nat} (h : ReturnedEndW s o t L k n) (hk : k ≤ k') (hn : n ≤ n') : ReturnedEndW s o t L k' n' := ⟨h.1, h.2.1, h.2.2.1, h.2.2.2.mono hk hn⟩
theorem own_privsel {s : State} {a1 a2 args : Array Value} {y : MethodName} {n : Nat} (wi : (Jvm.Cond.instantiable y.cls n).before a1 s = true) (wp : (Jvm.Cond.privateMethod y).before a2 s = true) (wm : (Jvm.Cond.instanceMethod y).before args s = true) (hy : y.cls ≠ "java/lang/invoke/MethodHandle" ∧ y.cls ≠ "java/lang/invoke/VarHandle") : (Jvm.Cond.selects y.cls y y).before args s = true := by
  obtain ⟨c, k, h1, h2, -, h4, -⟩ := Cond.instantiable_spec wi
  simp only [Bool.or_eq_false_iff] at h4
  exact selects_self_of_private h1 h2 h4.1 (Cond.privateMethod_at wp) wm hy
theorem own_arr_keep {Z : State} {h h' : Heap} {a : Addr} {c : Cell} {ty : FieldType} {ws : List Addr} (A : Arr Z h a c ty) (K : Keep h h' ws) (q : a ∉ ws) : Arr Z h' a c ty := ⟨K.2.1 a c A.1 q, A.2⟩

theorem own_wS : ∀ d ∈ Bundle.stringAtoms, d ∈ tables_1 := by decide +kernel
theorem own_fitB {x : Int32} (h : x.toInt8.toInt32 = x) : fits .byte (.int x) = true := h ▸ fits_nar_byte x
theorem own_b8 {x b : Int32} (h : x.toInt8.toInt32 = b) : b.toInt8.toInt32 = b := by rw [← h]; simp
theorem own_modn {x y z : Int32} (d : Int) (hy : y.toInt = d) (hd : 0 < d) (h : ((x &&& (2147483647 : Int32)) % y) = z) : 0 ≤ z.toInt ∧ z.toInt < d := by
  have q := c_and x (2147483647 : Int32) (by decide)
  have r := (c_irem (x &&& (2147483647 : Int32)) y d hy).1 q.1
  rw [h] at r
  rw [r]
  exact ⟨Int.emod_nonneg _ (by omega), Int.emod_lt_of_pos _ hd⟩
theorem own_lit {z : Int32} {k : Int32} (h : z.toInt = k.toInt) : z = k := Int32.toInt_inj.mp h
theorem own_mod3 {x z : Int32} (h : ((x &&& (2147483647 : Int32)) % (3 : Int32)) = z) : z = (0 : Int32) ∨ z = (1 : Int32) ∨ z = (2 : Int32) := by
  have q := own_modn 3 (by rfl) (by decide) h
  have e0 : (0 : Int32).toInt = 0 := rfl
  have e1 : (1 : Int32).toInt = 1 := rfl
  have e2 : (2 : Int32).toInt = 2 := rfl
  have w : z.toInt = 0 ∨ z.toInt = 1 ∨ z.toInt = 2 := by omega
  rcases w with w | w | w
  · exact Or.inl (own_lit w)
  · exact Or.inr (Or.inl (own_lit w))
  · exact Or.inr (Or.inr (own_lit w))

theorem d4_0 : decode prog_61_method_6_code 0 = .ok (.aload_n 0, 1) := by decide +kernel
theorem d4_1 : decode prog_61_method_6_code 1 = .ok (.getfield 38, 3) := by decide +kernel
theorem d4_4 : decode prog_61_method_6_code 4 = .ok (.aload_n 0, 1) := by decide +kernel
theorem d4_5 : decode prog_61_method_6_code 5 = .ok (.getfield 41, 3) := by decide +kernel
theorem d4_8 : decode prog_61_method_6_code 8 = .ok (.iadd, 1) := by decide +kernel
theorem d4_9 : decode prog_61_method_6_code 9 = .ok (.ireturn, 1) := by decide +kernel
theorem own_pn_com_example_plain_bastion_plainbastion_ssh_TypedText : plainName "com/example/plain_bastion/plainbastion/ssh/TypedText" = true := by first | (simp [plainName, overriddenIn]; done) | decide +kernel
theorem own_ef_4 (m : MethodId) (a1 : Addr) : entryFrame m #[(Value.ref a1)] 1 = mkF m 0 #[.val (Value.ref a1)] [] := by first | (simp [entryFrame, mkF, argsToLocals, Value.category]; done) | rfl
def Q4 (Z : State) (a1 : Addr) (n : Int32) (al : Int32) (h0 : Heap) (n0 : Nat) (v : Option Value) (h : Heap) (L : List Loc) : Prop := v = some (Value.int (n + al)) ∧ Fr n0 L ∧ h = h0
set_option maxRecDepth 65536 in
set_option maxHeartbeats 40000000 in
theorem rm4 (l : Launch) (Z : State) (a0 : Array Value) (hw : ∀ d ∈ tables_1, d.before a0 Z = true) (ws : List Jvm.Cond) (a1 : Addr) (n : Int32) (al : Int32) (h0 : Heap) (n0 : Nat) (O0 : Old Z n0 h0) (H0 : Fld Z h0 a1 "com/example/plain_bastion/plainbastion/ssh/TypedText" "length" "I" (Value.int n)) (H1 : Fld Z h0 a1 "com/example/plain_bastion/plainbastion/ssh/TypedText" "afterLength" "I" (Value.int al)) :
    MetFree l (⟨"com/example/plain_bastion/plainbastion/ssh/TypedText", "length", "()I"⟩ : MethodName) (head1 (Jvm.Cond.code (⟨"com/example/plain_bastion/plainbastion/ssh/TypedText", "length", "()I"⟩ : MethodName) prog_61_method_6_code 1 (some .int) :: ws) ({ frames := 0, cells := 0, slots := 0, locals := 0 } : Room)) (fun a U => a = #[(Value.ref a1)] ∧ Z.Warmed39 U.vm ∧ U.heap = h0) (fun _ _ _ _ _ => True) (fun _ U o U' => ∃ v L, o = .returned v ∧ Q4 Z a1 n al h0 n0 v U'.heap L ∧ FrameEnd U o U' L ({ frames := 0, cells := 0, slots := 0, locals := 0 } : Room).cells ({ frames := 0, cells := 0, slots := 0, locals := 0 } : Room).slots) := by
  refine MetFree.of_bodySF (plainFor_of_name own_pn_com_example_plain_bastion_plainbastion_ssh_TypedText) hisR ?_
  intro p e s m args below meth c s₁ Bd hml0 hP hK
  obtain ⟨rfl, hZ, hh⟩ := hP
  have hx := Bd.exec
  have hby := Bd.bytes
  have hml : c.maxLocals = 1 := hml0
  have hown : s.vm.findClass "com/example/plain_bastion/plainbastion/ssh/TypedText" = some m.cls := findClass_of_methodNamed Bd.named
  have hnm := (name_of_methodNamed Bd.named Bd.method).1
  have X0 : Stand p l e ({ frames := 0, cells := 0, slots := 0, locals := 0 } : Room) s m #[(Value.ref a1)] below meth c s₁ [] 0 0 := Stand.of_body Bd
  have e0 : s₁.heap = h0 := by rw [← hh, Bd.state]; rfl
  have N0 := Fr.nil n0
  have K0 : Keep h0 h0 [] := Keep.refl h0 []
  show own_Go p.tables e below _ (s₁.setTop (entryFrame m #[(Value.ref a1)] 1))
  refine own_Go.by (fun tq kq => castTop (own_ef_4 m a1) kq) ?_
  show own_Go p.tables e below _ (s₁.setTop (mkF m 0 #[.val (Value.ref a1)] []))
  refine own_Go.by (fun tq kq => XS.aloadN X0.here hx rfl (hb hby d4_0) rfl rfl kq) ?_
  show own_Go p.tables e below _ (s₁.setTop (mkF m 1 #[.val (Value.ref a1)] [(Value.ref a1)]))
  obtain ⟨T1, X1, e1, st1⟩ := getF X0 hx hZ hown (host := "") (Or.inl (hw _ (List.mem_of_getElem? (i := 39) rfl))) Via.refl e0 H0 (g := (mkF m 1 #[.val (Value.ref a1)] [(Value.ref a1)])) rfl rfl (hb hby d4_1)
  refine own_Go.by st1 ?_
  show own_Go p.tables e below _ (T1.setTop (mkF m 4 #[.val (Value.ref a1)] [(Value.int n)]))
  refine own_Go.by (fun tq kq => XS.aloadN X1.here hx rfl (hb hby d4_4) rfl rfl kq) ?_
  show own_Go p.tables e below _ (T1.setTop (mkF m 5 #[.val (Value.ref a1)] [(Value.ref a1), (Value.int n)]))
  obtain ⟨T2, X2, e2, st2⟩ := getF X1 hx hZ hown (host := "") (Or.inl (hw _ (List.mem_of_getElem? (i := 41) rfl))) Via.refl e1 H1 (g := (mkF m 5 #[.val (Value.ref a1)] [(Value.ref a1), (Value.int n)])) rfl rfl (hb hby d4_5)
  refine own_Go.by st2 ?_
  show own_Go p.tables e below _ (T2.setTop (mkF m 8 #[.val (Value.ref a1)] [(Value.int al), (Value.int n)]))
  refine own_Go.by (fun tq kq => XS.iadd X2.here hx rfl (hb hby d4_8) rfl kq) ?_
  show own_Go p.tables e below _ (T2.setTop (mkF m 9 #[.val (Value.ref a1)] [(Value.int (n + al))]))
  obtain ⟨fs, hr, hrun, hended, hW, hsame⟩ := X2.leave (v := some (Value.int (n + al))) (fun h => by rw [Bd.returns] at h; cases h)
  refine own_Go.fin (retI X2 hx Bd.returns (hb hby d4_9) hr) ⟨hrun, hended, _, _, rfl, ?_, ⟨_, rfl⟩, hW, hsame.mono (by decide) (by decide)⟩
  show Q4 Z a1 n al h0 n0 _ T2.heap _
  rw [e2]
  exact ⟨rfl, N0, rfl⟩

theorem d1_0 : decode prog_61_method_1_code 0 = .ok (.aload_n 0, 1) := by decide +kernel
theorem d1_1 : decode prog_61_method_1_code 1 = .ok (.invokespecial 1, 3) := by decide +kernel
theorem d1_4 : decode prog_61_method_1_code 4 = .ok (.aload_n 0, 1) := by decide +kernel
theorem d1_5 : decode prog_61_method_1_code 5 = .ok (.sipush 256, 3) := by decide +kernel
theorem d1_8 : decode prog_61_method_1_code 8 = .ok (.newarray .byte, 2) := by decide +kernel
theorem d1_10 : decode prog_61_method_1_code 10 = .ok (.putfield 7, 3) := by decide +kernel
theorem d1_13 : decode prog_61_method_1_code 13 = .ok (.aload_n 0, 1) := by decide +kernel
theorem d1_14 : decode prog_61_method_1_code 14 = .ok (.aload_n 1, 1) := by decide +kernel
theorem d1_15 : decode prog_61_method_1_code 15 = .ok (.putfield 13, 3) := by decide +kernel
theorem d1_18 : decode prog_61_method_1_code 18 = .ok (.aload_n 0, 1) := by decide +kernel
theorem d1_19 : decode prog_61_method_1_code 19 = .ok (.aload_n 2, 1) := by decide +kernel
theorem d1_20 : decode prog_61_method_1_code 20 = .ok (.putfield 17, 3) := by decide +kernel
theorem d1_23 : decode prog_61_method_1_code 23 = .ok (.aload_n 0, 1) := by decide +kernel
theorem d1_24 : decode prog_61_method_1_code 24 = .ok (.aload_n 3, 1) := by decide +kernel
theorem d1_25 : decode prog_61_method_1_code 25 = .ok (.putfield 21, 3) := by decide +kernel
theorem d1_28 : decode prog_61_method_1_code 28 = .ok (.return_, 1) := by decide +kernel
theorem own_ef_1 (m : MethodId) (a1 : Addr) (a2 : Addr) (a3 : Addr) (a4 : Addr) : entryFrame m #[(Value.ref a1), (Value.ref a2), (Value.ref a3), (Value.ref a4)] 4 = mkF m 0 #[.val (Value.ref a1), .val (Value.ref a2), .val (Value.ref a3), .val (Value.ref a4)] [] := by first | (simp [entryFrame, mkF, argsToLocals, Value.category]; done) | rfl
def Q1 (Z : State) (a1 : Addr) (a2 : Addr) (a3 : Addr) (a4 : Addr) (h0 : Heap) (n0 : Nat) (v : Option Value) (h : Heap) (L : List Loc) : Prop := ∃ (b : Addr), ∃ (kb : ClassId), v = none ∧ Fr n0 L ∧ Keep h0 h [a1] ∧ (h0.size ≤ b) ∧ (Exa Z h a1 "com/example/plain_bastion/plainbastion/ssh/TypedText") ∧ (Fld Z h a1 "com/example/plain_bastion/plainbastion/ssh/TypedText" "bytes" "[B" (Value.ref b)) ∧ (Arv Z h b kb .byte (256 : Int32) (List.replicate 256 (Value.int (0 : Int32))) (Value.int (0 : Int32))) ∧ (Fld Z h a1 "com/example/plain_bastion/plainbastion/ssh/TypedText" "length" "I" (Value.int (0 : Int32))) ∧ (Fld Z h a1 "com/example/plain_bastion/plainbastion/ssh/TypedText" "afterLength" "I" (Value.int (0 : Int32))) ∧ (Fld Z h a1 "com/example/plain_bastion/plainbastion/ssh/TypedText" "breaks" "I" (Value.int (0 : Int32))) ∧ (Fld Z h a1 "com/example/plain_bastion/plainbastion/ssh/TypedText" "told" "I" (Value.int (0 : Int32)))
set_option maxRecDepth 65536 in
set_option maxHeartbeats 40000000 in
theorem rm1 (l : Launch) (Z : State) (a0 : Array Value) (hw : ∀ d ∈ tables_1, d.before a0 Z = true) (ws : List Jvm.Cond) (a1 : Addr) (a2 : Addr) (a3 : Addr) (a4 : Addr) (h0 : Heap) (n0 : Nat) (O0 : Old Z n0 h0) (H0 : Exa Z h0 a1 "com/example/plain_bastion/plainbastion/ssh/TypedText") (H1 : n0 ≤ a1) (H2 : Fld Z h0 a1 "com/example/plain_bastion/plainbastion/ssh/TypedText" "bytes" "[B" .null) (H3 : Fld Z h0 a1 "com/example/plain_bastion/plainbastion/ssh/TypedText" "words" "Lcom/example/plain_bastion/plainbastion/ssh/TypedText$WordErase;" .null) (H4 : Fld Z h0 a1 "com/example/plain_bastion/plainbastion/ssh/TypedText" "erases" "Ljava/lang/String;" .null) (H5 : Fld Z h0 a1 "com/example/plain_bastion/plainbastion/ssh/TypedText" "characters" "Ljava/lang/String;" .null) (H6 : Fld Z h0 a1 "com/example/plain_bastion/plainbastion/ssh/TypedText" "length" "I" (Value.int (0 : Int32))) (H7 : Fld Z h0 a1 "com/example/plain_bastion/plainbastion/ssh/TypedText" "afterLength" "I" (Value.int (0 : Int32))) (H8 : Fld Z h0 a1 "com/example/plain_bastion/plainbastion/ssh/TypedText" "breaks" "I" (Value.int (0 : Int32))) (H9 : Fld Z h0 a1 "com/example/plain_bastion/plainbastion/ssh/TypedText" "told" "I" (Value.int (0 : Int32))) :
    MetFree l (⟨"com/example/plain_bastion/plainbastion/ssh/TypedText", "<init>", "(Lcom/example/plain_bastion/plainbastion/ssh/TypedText$WordErase;Ljava/lang/String;Ljava/lang/String;)V"⟩ : MethodName) (head1 (Jvm.Cond.code (⟨"com/example/plain_bastion/plainbastion/ssh/TypedText", "<init>", "(Lcom/example/plain_bastion/plainbastion/ssh/TypedText$WordErase;Ljava/lang/String;Ljava/lang/String;)V"⟩ : MethodName) prog_61_method_1_code 4 none :: ws) ({ frames := 1, cells := 1, slots := 256, locals := 12 } : Room)) (fun a U => a = #[(Value.ref a1), (Value.ref a2), (Value.ref a3), (Value.ref a4)] ∧ Z.Warmed39 U.vm ∧ U.heap = h0) (fun _ _ _ _ _ => True) (fun _ U o U' => ∃ v L, o = .returned v ∧ Q1 Z a1 a2 a3 a4 h0 n0 v U'.heap L ∧ FrameEnd U o U' L ({ frames := 1, cells := 1, slots := 256, locals := 12 } : Room).cells ({ frames := 1, cells := 1, slots := 256, locals := 12 } : Room).slots) := by
  refine MetFree.of_bodySF (plainFor_of_name own_pn_com_example_plain_bastion_plainbastion_ssh_TypedText) hisR ?_
  intro p e s m args below meth c s₁ Bd hml0 hP hK
  obtain ⟨rfl, hZ, hh⟩ := hP
  have hx := Bd.exec
  have hby := Bd.bytes
  have hml : c.maxLocals = 4 := hml0
  have hown : s.vm.findClass "com/example/plain_bastion/plainbastion/ssh/TypedText" = some m.cls := findClass_of_methodNamed Bd.named
  have hnm := (name_of_methodNamed Bd.named Bd.method).1
  have X0 : Stand p l e ({ frames := 1, cells := 1, slots := 256, locals := 12 } : Room) s m #[(Value.ref a1), (Value.ref a2), (Value.ref a3), (Value.ref a4)] below meth c s₁ [] 0 0 := Stand.of_body Bd
  have e0 : s₁.heap = h0 := by rw [← hh, Bd.state]; rfl
  have N0 := Fr.nil n0
  have K0 := Keep.refl h0 [a1]
  show own_Go p.tables e below _ (s₁.setTop (entryFrame m #[(Value.ref a1), (Value.ref a2), (Value.ref a3), (Value.ref a4)] 4))
  refine own_Go.by (fun tq kq => castTop (own_ef_1 m a1 a2 a3 a4) kq) ?_
  show own_Go p.tables e below _ (s₁.setTop (mkF m 0 #[.val (Value.ref a1), .val (Value.ref a2), .val (Value.ref a3), .val (Value.ref a4)] []))
  refine own_Go.by (fun tq kq => XS.aloadN X0.here hx rfl (hb hby d1_0) rfl rfl kq) ?_
  show own_Go p.tables e below _ (s₁.setTop (mkF m 1 #[.val (Value.ref a1), .val (Value.ref a2), .val (Value.ref a3), .val (Value.ref a4)] [(Value.ref a1)]))
  obtain ⟨T1, X1, e1, st1⟩ := initO X0 hx hZ hown (hw _ (List.mem_of_getElem? (i := 18) rfl)) (hw _ (List.mem_of_getElem? (i := 19) rfl)) (hw _ (List.mem_of_getElem? (i := 20) rfl)) e0 (g := (mkF m 1 #[.val (Value.ref a1), .val (Value.ref a2), .val (Value.ref a3), .val (Value.ref a4)] [(Value.ref a1)])) rfl (by rw [hml]; rfl) rfl (hb hby d1_1) (by decide) (W := 0) (by show 2 * 0 + _ ≤ _; exact Nat.le_of_eq rfl) (by decide)
  refine own_Go.by st1 ?_
  show own_Go p.tables e below _ (T1.setTop (mkF m 4 #[.val (Value.ref a1), .val (Value.ref a2), .val (Value.ref a3), .val (Value.ref a4)] []))
  refine own_Go.by (fun tq kq => XS.aloadN X1.here hx rfl (hb hby d1_4) rfl rfl kq) ?_
  show own_Go p.tables e below _ (T1.setTop (mkF m 5 #[.val (Value.ref a1), .val (Value.ref a2), .val (Value.ref a3), .val (Value.ref a4)] [(Value.ref a1)]))
  refine own_Go.by (fun tq kq => XS.sipush X1.here hx rfl (hb hby d1_5) kq) ?_
  show own_Go p.tables e below _ (T1.setTop (mkF m 8 #[.val (Value.ref a1), .val (Value.ref a2), .val (Value.ref a3), .val (Value.ref a4)] [(Value.int (256 : Int32)), (Value.ref a1)]))
  obtain ⟨T2, h2, k2, X2, e2, E2, A2, Ea2, st2⟩ := newPE X1 hx hZ (hw _ (List.mem_of_getElem? (i := 10) rfl)) e1 (g := (mkF m 8 #[.val (Value.ref a1), .val (Value.ref a2), .val (Value.ref a3), .val (Value.ref a4)] [(Value.int (256 : Int32)), (Value.ref a1)])) rfl (hb hby d1_8) rfl (by decide : ¬ ((256 : Int32) < (0 : Int32))) (cap := 256) (by decide : (256 : Int32).toNatClampNeg ≤ 256) (by decide) (by decide) (by decide) (ad := "[B") rfl
  obtain ⟨ob2, y2⟩ : ∃ z, z = h0.size := ⟨_, rfl⟩
  rw [← y2] at A2 Ea2 st2
  refine own_Go.by st2 ?_
  have O3 := O0.ext E2
  have K3 := K0.ext E2
  have g4 : n0 ≤ ob2 := Nat.le_trans (own_old_le O0) (Nat.le_of_eq y2.symm)
  have z4 : h0.size ≤ ob2 := Nat.le_trans K0.1 (Nat.le_of_eq y2.symm)
  have V2 : Arv Z h2 ob2 k2 .byte (256 : Int32) (List.replicate 256 (Value.int (0 : Int32))) (Value.int (0 : Int32)) := (Arv.new A2 (by decide : ¬ ((256 : Int32) < (0 : Int32)))).pad (pad_rep [] (Value.int (0 : Int32)) 256)
  show own_Go p.tables e below _ (T2.setTop (mkF m 10 #[.val (Value.ref a1), .val (Value.ref a2), .val (Value.ref a3), .val (Value.ref a4)] [(Value.ref ob2), (Value.ref a1)]))
  have c5 := (H2.ext E2)
  have c6 := (H0.ext E2)
  obtain ⟨T7, h7, X7, e7, W7, st7⟩ := putF X2 hx hZ hown (host := "") (Or.inl (hw _ (List.mem_of_getElem? (i := 21) rfl))) Via.refl e2 c5 c6 (Or.inl (hw _ (List.mem_of_getElem? (i := 22) rfl))) (hw _ (List.mem_of_getElem? (i := 2) rfl)) (ty := (.array .byte)) (by decide) rfl rfl (g := (mkF m 10 #[.val (Value.ref a1), .val (Value.ref a2), .val (Value.ref a3), .val (Value.ref a4)] [(Value.ref ob2), (Value.ref a1)])) rfl rfl (hb hby d1_10)
  refine own_Go.by st7 ?_
  have N7 := Fr.snoc X7 N0 H1
  have O8 := O3.wr W7 H1
  have K8 := K3.wr W7 (Or.inl (List.mem_of_getElem? (i := 0) rfl))
  have F7 := c5.same W7
  show own_Go p.tables e below _ (T7.setTop (mkF m 13 #[.val (Value.ref a1), .val (Value.ref a2), .val (Value.ref a3), .val (Value.ref a4)] []))
  refine own_Go.by (fun tq kq => XS.aloadN X7.here hx rfl (hb hby d1_13) rfl rfl kq) ?_
  show own_Go p.tables e below _ (T7.setTop (mkF m 14 #[.val (Value.ref a1), .val (Value.ref a2), .val (Value.ref a3), .val (Value.ref a4)] [(Value.ref a1)]))
  refine own_Go.by (fun tq kq => XS.aloadN X7.here hx rfl (hb hby d1_14) rfl rfl kq) ?_
  show own_Go p.tables e below _ (T7.setTop (mkF m 15 #[.val (Value.ref a1), .val (Value.ref a2), .val (Value.ref a3), .val (Value.ref a4)] [(Value.ref a2), (Value.ref a1)]))
  have c9 := ((H3.ext E2).other W7 (Or.inr (slot_ne (Or.inr (hw _ (List.mem_of_getElem? (i := 24) rfl))) (Or.inl (hw _ (List.mem_of_getElem? (i := 22) rfl))) (by decide) (t := (.object "com/example/plain_bastion/plainbastion/ssh/TypedText$WordErase")) (t' := (.array .byte)) (by decide) (by decide))))
  have c10 := (c6.wr W7)
  obtain ⟨T11, h11, X11, e11, W11, st11⟩ := putF X7 hx hZ hown (host := "") (Or.inl (hw _ (List.mem_of_getElem? (i := 23) rfl))) Via.refl e7 c9 c10 (Or.inr ⟨(hw _ (List.mem_of_getElem? (i := 24) rfl)), rfl, hnm⟩) (hw _ (List.mem_of_getElem? (i := 2) rfl)) (ty := (.object "com/example/plain_bastion/plainbastion/ssh/TypedText$WordErase")) (by decide) rfl rfl (g := (mkF m 15 #[.val (Value.ref a1), .val (Value.ref a2), .val (Value.ref a3), .val (Value.ref a4)] [(Value.ref a2), (Value.ref a1)])) rfl rfl (hb hby d1_15)
  refine own_Go.by st11 ?_
  have N11 := Fr.snoc X11 N7 H1
  have O12 := O8.wr W11 H1
  have K12 := K8.wr W11 (Or.inl (List.mem_of_getElem? (i := 0) rfl))
  have F11 := c9.same W11
  show own_Go p.tables e below _ (T11.setTop (mkF m 18 #[.val (Value.ref a1), .val (Value.ref a2), .val (Value.ref a3), .val (Value.ref a4)] []))
  refine own_Go.by (fun tq kq => XS.aloadN X11.here hx rfl (hb hby d1_18) rfl rfl kq) ?_
  show own_Go p.tables e below _ (T11.setTop (mkF m 19 #[.val (Value.ref a1), .val (Value.ref a2), .val (Value.ref a3), .val (Value.ref a4)] [(Value.ref a1)]))
  refine own_Go.by (fun tq kq => XS.aloadN X11.here hx rfl (hb hby d1_19) rfl rfl kq) ?_
  show own_Go p.tables e below _ (T11.setTop (mkF m 20 #[.val (Value.ref a1), .val (Value.ref a2), .val (Value.ref a3), .val (Value.ref a4)] [(Value.ref a3), (Value.ref a1)]))
  have c13 := (((H4.ext E2).other W7 (Or.inr (slot_ne (Or.inr (hw _ (List.mem_of_getElem? (i := 26) rfl))) (Or.inl (hw _ (List.mem_of_getElem? (i := 22) rfl))) (by decide) (t := (.object "java/lang/String")) (t' := (.array .byte)) (by decide) (by decide)))).other W11 (Or.inr (slot_ne (Or.inr (hw _ (List.mem_of_getElem? (i := 26) rfl))) (Or.inr (hw _ (List.mem_of_getElem? (i := 24) rfl))) (by decide) (t := (.object "java/lang/String")) (t' := (.object "com/example/plain_bastion/plainbastion/ssh/TypedText$WordErase")) (by decide) (by decide))))
  have c14 := (c10.wr W11)
  obtain ⟨T15, h15, X15, e15, W15, st15⟩ := putF X11 hx hZ hown (host := "") (Or.inl (hw _ (List.mem_of_getElem? (i := 25) rfl))) Via.refl e11 c13 c14 (Or.inr ⟨(hw _ (List.mem_of_getElem? (i := 26) rfl)), rfl, hnm⟩) (hw _ (List.mem_of_getElem? (i := 2) rfl)) (ty := (.object "java/lang/String")) (by decide) rfl rfl (g := (mkF m 20 #[.val (Value.ref a1), .val (Value.ref a2), .val (Value.ref a3), .val (Value.ref a4)] [(Value.ref a3), (Value.ref a1)])) rfl rfl (hb hby d1_20)
  refine own_Go.by st15 ?_
  have N15 := Fr.snoc X15 N11 H1
  have O16 := O12.wr W15 H1
  have K16 := K12.wr W15 (Or.inl (List.mem_of_getElem? (i := 0) rfl))
  have F15 := c13.same W15
  show own_Go p.tables e below _ (T15.setTop (mkF m 23 #[.val (Value.ref a1), .val (Value.ref a2), .val (Value.ref a3), .val (Value.ref a4)] []))
  refine own_Go.by (fun tq kq => XS.aloadN X15.here hx rfl (hb hby d1_23) rfl rfl kq) ?_
  show own_Go p.tables e below _ (T15.setTop (mkF m 24 #[.val (Value.ref a1), .val (Value.ref a2), .val (Value.ref a3), .val (Value.ref a4)] [(Value.ref a1)]))
  refine own_Go.by (fun tq kq => XS.aloadN X15.here hx rfl (hb hby d1_24) rfl rfl kq) ?_
  show own_Go p.tables e below _ (T15.setTop (mkF m 25 #[.val (Value.ref a1), .val (Value.ref a2), .val (Value.ref a3), .val (Value.ref a4)] [(Value.ref a4), (Value.ref a1)]))
  have c17 := ((((H5.ext E2).other W7 (Or.inr (slot_ne (Or.inr (hw _ (List.mem_of_getElem? (i := 28) rfl))) (Or.inl (hw _ (List.mem_of_getElem? (i := 22) rfl))) (by decide) (t := (.object "java/lang/String")) (t' := (.array .byte)) (by decide) (by decide)))).other W11 (Or.inr (slot_ne (Or.inr (hw _ (List.mem_of_getElem? (i := 28) rfl))) (Or.inr (hw _ (List.mem_of_getElem? (i := 24) rfl))) (by decide) (t := (.object "java/lang/String")) (t' := (.object "com/example/plain_bastion/plainbastion/ssh/TypedText$WordErase")) (by decide) (by decide)))).other W15 (Or.inr (slot_ne (Or.inr (hw _ (List.mem_of_getElem? (i := 28) rfl))) (Or.inr (hw _ (List.mem_of_getElem? (i := 26) rfl))) (by decide) (t := (.object "java/lang/String")) (t' := (.object "java/lang/String")) (by decide) (by decide))))
  have c18 := (c14.wr W15)
  obtain ⟨T19, h19, X19, e19, W19, st19⟩ := putF X15 hx hZ hown (host := "") (Or.inl (hw _ (List.mem_of_getElem? (i := 27) rfl))) Via.refl e15 c17 c18 (Or.inr ⟨(hw _ (List.mem_of_getElem? (i := 28) rfl)), rfl, hnm⟩) (hw _ (List.mem_of_getElem? (i := 2) rfl)) (ty := (.object "java/lang/String")) (by decide) rfl rfl (g := (mkF m 25 #[.val (Value.ref a1), .val (Value.ref a2), .val (Value.ref a3), .val (Value.ref a4)] [(Value.ref a4), (Value.ref a1)])) rfl rfl (hb hby d1_25)
  refine own_Go.by st19 ?_
  have N19 := Fr.snoc X19 N15 H1
  have O20 := O16.wr W19 H1
  have K20 := K16.wr W19 (Or.inl (List.mem_of_getElem? (i := 0) rfl))
  have F19 := c17.same W19
  show own_Go p.tables e below _ (T19.setTop (mkF m 28 #[.val (Value.ref a1), .val (Value.ref a2), .val (Value.ref a3), .val (Value.ref a4)] []))
  have c21 := (c18.wr W19)
  have c22 := (((F7.other W11 (Or.inr (slot_ne (Or.inl (hw _ (List.mem_of_getElem? (i := 22) rfl))) (Or.inr (hw _ (List.mem_of_getElem? (i := 24) rfl))) (by decide) (t := (.array .byte)) (t' := (.object "com/example/plain_bastion/plainbastion/ssh/TypedText$WordErase")) (by decide) (by decide)))).other W15 (Or.inr (slot_ne (Or.inl (hw _ (List.mem_of_getElem? (i := 22) rfl))) (Or.inr (hw _ (List.mem_of_getElem? (i := 26) rfl))) (by decide) (t := (.array .byte)) (t' := (.object "java/lang/String")) (by decide) (by decide)))).other W19 (Or.inr (slot_ne (Or.inl (hw _ (List.mem_of_getElem? (i := 22) rfl))) (Or.inr (hw _ (List.mem_of_getElem? (i := 28) rfl))) (by decide) (t := (.array .byte)) (t' := (.object "java/lang/String")) (by decide) (by decide))))
  have c23 := ((((V2.other W7 (Ne.symm (Nat.ne_of_lt (Nat.lt_of_lt_of_le H0.lt (Nat.le_of_eq y2.symm))))).other W11 (Ne.symm (Nat.ne_of_lt (Nat.lt_of_lt_of_le H0.lt (Nat.le_of_eq y2.symm))))).other W15 (Ne.symm (Nat.ne_of_lt (Nat.lt_of_lt_of_le H0.lt (Nat.le_of_eq y2.symm))))).other W19 (Ne.symm (Nat.ne_of_lt (Nat.lt_of_lt_of_le H0.lt (Nat.le_of_eq y2.symm)))))
  have c24 := (((((H6.ext E2).other W7 (Or.inr (slot_ne (Or.inl (hw _ (List.mem_of_getElem? (i := 40) rfl))) (Or.inl (hw _ (List.mem_of_getElem? (i := 22) rfl))) (by decide) (t := .int) (t' := (.array .byte)) (by decide) (by decide)))).other W11 (Or.inr (slot_ne (Or.inl (hw _ (List.mem_of_getElem? (i := 40) rfl))) (Or.inr (hw _ (List.mem_of_getElem? (i := 24) rfl))) (by decide) (t := .int) (t' := (.object "com/example/plain_bastion/plainbastion/ssh/TypedText$WordErase")) (by decide) (by decide)))).other W15 (Or.inr (slot_ne (Or.inl (hw _ (List.mem_of_getElem? (i := 40) rfl))) (Or.inr (hw _ (List.mem_of_getElem? (i := 26) rfl))) (by decide) (t := .int) (t' := (.object "java/lang/String")) (by decide) (by decide)))).other W19 (Or.inr (slot_ne (Or.inl (hw _ (List.mem_of_getElem? (i := 40) rfl))) (Or.inr (hw _ (List.mem_of_getElem? (i := 28) rfl))) (by decide) (t := .int) (t' := (.object "java/lang/String")) (by decide) (by decide))))
  have c25 := (((((H7.ext E2).other W7 (Or.inr (slot_ne (Or.inl (hw _ (List.mem_of_getElem? (i := 42) rfl))) (Or.inl (hw _ (List.mem_of_getElem? (i := 22) rfl))) (by decide) (t := .int) (t' := (.array .byte)) (by decide) (by decide)))).other W11 (Or.inr (slot_ne (Or.inl (hw _ (List.mem_of_getElem? (i := 42) rfl))) (Or.inr (hw _ (List.mem_of_getElem? (i := 24) rfl))) (by decide) (t := .int) (t' := (.object "com/example/plain_bastion/plainbastion/ssh/TypedText$WordErase")) (by decide) (by decide)))).other W15 (Or.inr (slot_ne (Or.inl (hw _ (List.mem_of_getElem? (i := 42) rfl))) (Or.inr (hw _ (List.mem_of_getElem? (i := 26) rfl))) (by decide) (t := .int) (t' := (.object "java/lang/String")) (by decide) (by decide)))).other W19 (Or.inr (slot_ne (Or.inl (hw _ (List.mem_of_getElem? (i := 42) rfl))) (Or.inr (hw _ (List.mem_of_getElem? (i := 28) rfl))) (by decide) (t := .int) (t' := (.object "java/lang/String")) (by decide) (by decide))))
  have c26 := (((((H8.ext E2).other W7 (Or.inr (slot_ne (Or.inl (hw _ (List.mem_of_getElem? (i := 45) rfl))) (Or.inl (hw _ (List.mem_of_getElem? (i := 22) rfl))) (by decide) (t := .int) (t' := (.array .byte)) (by decide) (by decide)))).other W11 (Or.inr (slot_ne (Or.inl (hw _ (List.mem_of_getElem? (i := 45) rfl))) (Or.inr (hw _ (List.mem_of_getElem? (i := 24) rfl))) (by decide) (t := .int) (t' := (.object "com/example/plain_bastion/plainbastion/ssh/TypedText$WordErase")) (by decide) (by decide)))).other W15 (Or.inr (slot_ne (Or.inl (hw _ (List.mem_of_getElem? (i := 45) rfl))) (Or.inr (hw _ (List.mem_of_getElem? (i := 26) rfl))) (by decide) (t := .int) (t' := (.object "java/lang/String")) (by decide) (by decide)))).other W19 (Or.inr (slot_ne (Or.inl (hw _ (List.mem_of_getElem? (i := 45) rfl))) (Or.inr (hw _ (List.mem_of_getElem? (i := 28) rfl))) (by decide) (t := .int) (t' := (.object "java/lang/String")) (by decide) (by decide))))
  have c27 := (((((H9.ext E2).other W7 (Or.inr (slot_ne (Or.inl (hw _ (List.mem_of_getElem? (i := 56) rfl))) (Or.inl (hw _ (List.mem_of_getElem? (i := 22) rfl))) (by decide) (t := .int) (t' := (.array .byte)) (by decide) (by decide)))).other W11 (Or.inr (slot_ne (Or.inl (hw _ (List.mem_of_getElem? (i := 56) rfl))) (Or.inr (hw _ (List.mem_of_getElem? (i := 24) rfl))) (by decide) (t := .int) (t' := (.object "com/example/plain_bastion/plainbastion/ssh/TypedText$WordErase")) (by decide) (by decide)))).other W15 (Or.inr (slot_ne (Or.inl (hw _ (List.mem_of_getElem? (i := 56) rfl))) (Or.inr (hw _ (List.mem_of_getElem? (i := 26) rfl))) (by decide) (t := .int) (t' := (.object "java/lang/String")) (by decide) (by decide)))).other W19 (Or.inr (slot_ne (Or.inl (hw _ (List.mem_of_getElem? (i := 56) rfl))) (Or.inr (hw _ (List.mem_of_getElem? (i := 28) rfl))) (by decide) (t := .int) (t' := (.object "java/lang/String")) (by decide) (by decide))))
  obtain ⟨fs, hr, hrun, hended, hW, hsame⟩ := X19.leave (v := none) (fun _ => rfl)
  refine own_Go.fin (X19.returnOut hx Bd.returns (hb hby d1_28) hr) ⟨hrun, hended, _, _, rfl, ?_, ⟨_, rfl⟩, hW, hsame.mono (by decide) (by decide)⟩
  show Q1 Z a1 a2 a3 a4 h0 n0 _ T19.heap _
  rw [e19]
  exact ⟨ob2, k2, rfl, N19, K20, z4, c21, c22, c23, c24, c25, c26, c27⟩

theorem own_pd0 : parseMethodDescriptor "()I" = some ⟨[], some .int⟩ := by decide +kernel
theorem d3_0 : decode prog_61_method_18_code 0 = .ok (.aload_n 0, 1) := by decide +kernel
theorem d3_1 : decode prog_61_method_18_code 1 = .ok (.invokevirtual 34, 3) := by decide +kernel
theorem d3_4 : decode prog_61_method_18_code 4 = .ok (.ldc 65, 2) := by decide +kernel
theorem d3_6 : decode prog_61_method_18_code 6 = .ok (.if_icmp .ge 121, 3) := by decide +kernel
theorem d3_9 : decode prog_61_method_18_code 9 = .ok (.aload_n 0, 1) := by decide +kernel
theorem d3_10 : decode prog_61_method_18_code 10 = .ok (.invokevirtual 34, 3) := by decide +kernel
theorem d3_13 : decode prog_61_method_18_code 13 = .ok (.aload_n 0, 1) := by decide +kernel
theorem d3_14 : decode prog_61_method_18_code 14 = .ok (.getfield 7, 3) := by decide +kernel
theorem d3_17 : decode prog_61_method_18_code 17 = .ok (.arraylength, 1) := by decide +kernel
theorem d3_18 : decode prog_61_method_18_code 18 = .ok (.if_icmp .ne 66, 3) := by decide +kernel
theorem d3_84 : decode prog_61_method_18_code 84 = .ok (.aload_n 0, 1) := by decide +kernel
theorem d3_85 : decode prog_61_method_18_code 85 = .ok (.getfield 7, 3) := by decide +kernel
theorem d3_88 : decode prog_61_method_18_code 88 = .ok (.aload_n 0, 1) := by decide +kernel
theorem d3_89 : decode prog_61_method_18_code 89 = .ok (.getfield 38, 3) := by decide +kernel
theorem d3_92 : decode prog_61_method_18_code 92 = .ok (.iload_n 1, 1) := by decide +kernel
theorem d3_93 : decode prog_61_method_18_code 93 = .ok (.bastore, 1) := by decide +kernel
theorem d3_94 : decode prog_61_method_18_code 94 = .ok (.aload_n 0, 1) := by decide +kernel
theorem d3_95 : decode prog_61_method_18_code 95 = .ok (.dup, 1) := by decide +kernel
theorem d3_96 : decode prog_61_method_18_code 96 = .ok (.getfield 38, 3) := by decide +kernel
theorem d3_99 : decode prog_61_method_18_code 99 = .ok (.iconst 1, 1) := by decide +kernel
theorem d3_100 : decode prog_61_method_18_code 100 = .ok (.iadd, 1) := by decide +kernel
theorem d3_101 : decode prog_61_method_18_code 101 = .ok (.putfield 38, 3) := by decide +kernel
theorem d3_104 : decode prog_61_method_18_code 104 = .ok (.aload_n 0, 1) := by decide +kernel
theorem d3_105 : decode prog_61_method_18_code 105 = .ok (.dup, 1) := by decide +kernel
theorem d3_106 : decode prog_61_method_18_code 106 = .ok (.getfield 62, 3) := by decide +kernel
theorem d3_109 : decode prog_61_method_18_code 109 = .ok (.iload_n 1, 1) := by decide +kernel
theorem d3_110 : decode prog_61_method_18_code 110 = .ok (.bipush 10, 2) := by decide +kernel
theorem d3_112 : decode prog_61_method_18_code 112 = .ok (.if_icmp .ne 7, 3) := by decide +kernel
theorem d3_115 : decode prog_61_method_18_code 115 = .ok (.iconst 1, 1) := by decide +kernel
theorem d3_116 : decode prog_61_method_18_code 116 = .ok (.goto 4, 3) := by decide +kernel
theorem d3_119 : decode prog_61_method_18_code 119 = .ok (.iconst 0, 1) := by decide +kernel
theorem d3_120 : decode prog_61_method_18_code 120 = .ok (.iadd, 1) := by decide +kernel
theorem d3_121 : decode prog_61_method_18_code 121 = .ok (.putfield 62, 3) := by decide +kernel
theorem d3_124 : decode prog_61_method_18_code 124 = .ok (.goto 8, 3) := by decide +kernel
theorem d3_132 : decode prog_61_method_18_code 132 = .ok (.return_, 1) := by decide +kernel
theorem own_ef_3 (m : MethodId) (a1 : Addr) (p2 : Int32) : entryFrame m #[(Value.ref a1), (Value.int p2)] 3 = mkF m 0 #[.val (Value.ref a1), .val (Value.int p2), .unset] [] := by first | (simp [entryFrame, mkF, argsToLocals, Value.category]; done) | rfl
def Q3 (Z : State) (a1 : Addr) (aB : Addr) (kB : ClassId) (vs : List Value) (n : Int32) (al : Int32) (p2 : Int32) (br : Int32) (tl : Int32) (i : Nat) (h0 : Heap) (n0 : Nat) (v : Option Value) (h : Heap) (L : List Loc) : Prop := ∃ (br2 : Int32), v = none ∧ Fr n0 L ∧ Keep h0 h [a1, aB] ∧ (Exa Z h a1 "com/example/plain_bastion/plainbastion/ssh/TypedText") ∧ (Fld Z h a1 "com/example/plain_bastion/plainbastion/ssh/TypedText" "bytes" "[B" (Value.ref aB)) ∧ (Fld Z h a1 "com/example/plain_bastion/plainbastion/ssh/TypedText" "length" "I" (Value.int (n + (1 : Int32)))) ∧ (Fld Z h a1 "com/example/plain_bastion/plainbastion/ssh/TypedText" "afterLength" "I" (Value.int al)) ∧ (Fld Z h a1 "com/example/plain_bastion/plainbastion/ssh/TypedText" "breaks" "I" (Value.int br2)) ∧ (Fld Z h a1 "com/example/plain_bastion/plainbastion/ssh/TypedText" "told" "I" (Value.int tl)) ∧ (Arv Z h aB kB .byte (256 : Int32) (vs.set i (Value.int p2)) (Value.int (0 : Int32)))
set_option maxRecDepth 65536 in
set_option maxHeartbeats 40000000 in
theorem rm3 (l : Launch) (Z : State) (a0 : Array Value) (hw : ∀ d ∈ tables_1, d.before a0 Z = true) (ws : List Jvm.Cond) (a1 : Addr) (aB : Addr) (kB : ClassId) (vs : List Value) (n : Int32) (al : Int32) (p2 : Int32) (br : Int32) (tl : Int32) (i : Nat) (h0 : Heap) (n0 : Nat) (O0 : Old Z n0 h0) (H0 : Exa Z h0 a1 "com/example/plain_bastion/plainbastion/ssh/TypedText") (H1 : Fld Z h0 a1 "com/example/plain_bastion/plainbastion/ssh/TypedText" "bytes" "[B" (Value.ref aB)) (H2 : Fld Z h0 a1 "com/example/plain_bastion/plainbastion/ssh/TypedText" "length" "I" (Value.int n)) (H3 : Fld Z h0 a1 "com/example/plain_bastion/plainbastion/ssh/TypedText" "afterLength" "I" (Value.int al)) (H4 : Arv Z h0 aB kB .byte (256 : Int32) vs (Value.int (0 : Int32))) (H5 : Fld Z h0 a1 "com/example/plain_bastion/plainbastion/ssh/TypedText" "breaks" "I" (Value.int br)) (H6 : Fld Z h0 a1 "com/example/plain_bastion/plainbastion/ssh/TypedText" "told" "I" (Value.int tl)) (H7 : n0 ≤ a1) (H8 : n0 ≤ aB) (H9 : a1 ≠ aB) (hlt : (n + al) < (65536 : Int32)) (hne : ¬ ((n + al) = (256 : Int32))) (hin : ¬ (n < (0 : Int32)) ∧ n < (256 : Int32)) (hi : n.toNatClampNeg = i) (hil : i < vs.length) (hb8 : p2.toInt8.toInt32 = p2) :
    MetFree l (⟨"com/example/plain_bastion/plainbastion/ssh/TypedText", "append", "(B)V"⟩ : MethodName) (head1 (Jvm.Cond.code (⟨"com/example/plain_bastion/plainbastion/ssh/TypedText", "append", "(B)V"⟩ : MethodName) prog_61_method_18_code 3 none :: ws) ({ frames := 1, cells := 0, slots := 0, locals := 12 } : Room)) (fun a U => a = #[(Value.ref a1), (Value.int p2)] ∧ Z.Warmed39 U.vm ∧ U.heap = h0) (fun _ _ _ _ _ => True) (fun _ U o U' => ∃ v L, o = .returned v ∧ Q3 Z a1 aB kB vs n al p2 br tl i h0 n0 v U'.heap L ∧ FrameEnd U o U' L ({ frames := 1, cells := 0, slots := 0, locals := 12 } : Room).cells ({ frames := 1, cells := 0, slots := 0, locals := 12 } : Room).slots) := by
  refine MetFree.of_bodySF (plainFor_of_name own_pn_com_example_plain_bastion_plainbastion_ssh_TypedText) hisR ?_
  intro p e s m args below meth c s₁ Bd hml0 hP hK
  obtain ⟨rfl, hZ, hh⟩ := hP
  have hx := Bd.exec
  have hby := Bd.bytes
  have hml : c.maxLocals = 3 := hml0
  have hown : s.vm.findClass "com/example/plain_bastion/plainbastion/ssh/TypedText" = some m.cls := findClass_of_methodNamed Bd.named
  have hnm := (name_of_methodNamed Bd.named Bd.method).1
  have X0 : Stand p l e ({ frames := 1, cells := 0, slots := 0, locals := 12 } : Room) s m #[(Value.ref a1), (Value.int p2)] below meth c s₁ [] 0 0 := Stand.of_body Bd
  have e0 : s₁.heap = h0 := by rw [← hh, Bd.state]; rfl
  have N0 := Fr.nil n0
  have K0 := Keep.refl h0 [a1, aB]
  show own_Go p.tables e below _ (s₁.setTop (entryFrame m #[(Value.ref a1), (Value.int p2)] 3))
  refine own_Go.by (fun tq kq => castTop (own_ef_3 m a1 p2) kq) ?_
  show own_Go p.tables e below _ (s₁.setTop (mkF m 0 #[.val (Value.ref a1), .val (Value.int p2), .unset] []))
  refine own_Go.by (fun tq kq => XS.aloadN X0.here hx rfl (hb hby d3_0) rfl rfl kq) ?_
  show own_Go p.tables e below _ (s₁.setTop (mkF m 1 #[.val (Value.ref a1), .val (Value.int p2), .unset] [(Value.ref a1)]))
  obtain ⟨cq1, kq1, q1a, q1b, q1c⟩ := isOf hZ e0 H0
  obtain ⟨_, _, ⟨T1, L1, k1, n1⟩, -, X1, ⟨Lc1, hQ1, l1, y1, z1⟩, st1⟩ := X0.virtualBack hx (y := (⟨"com/example/plain_bastion/plainbastion/ssh/TypedText", "length", "()I"⟩ : MethodName)) (z := (⟨"com/example/plain_bastion/plainbastion/ssh/TypedText", "length", "()I"⟩ : MethodName)) hown (mvT hZ (hw _ (List.mem_of_getElem? (i := 34) rfl))) (mvT hZ (hw _ (List.mem_of_getElem? (i := 35) rfl))) (notFace_of_selects (args := #[]) (mvT hZ (hw _ (List.mem_of_getElem? (i := 37) rfl)))) (mvT hZ (hw _ (List.mem_of_getElem? (i := 37) rfl))) (mvT hZ (hw _ (List.mem_of_getElem? (i := 36) rfl))) (by decide) (backOf (W := 0) (rm4 l Z a0 hw [] a1 n al h0 n0 O0 H2 H3) hZ (hw _ (List.mem_of_getElem? (i := 38) rfl)) (hw _ (List.mem_of_getElem? (i := 3) rfl)) (by decide) (by decide)) q1a q1c (g := (mkF m 1 #[.val (Value.ref a1), .val (Value.int p2), .unset] [(Value.ref a1)])) rfl (by rw [hml]; rfl) (Steps.refl _) (argsL := []) (rest := []) (lenOf own_pd0 rfl) rfl (by show 2 * 0 + _ ≤ _; exact Nat.le_of_eq rfl) (hb hby d3_1) (fun _ _ => ⟨rfl, e0, (by decide : 0 + 0 ≤ _), (by decide : 0 + 0 ≤ _)⟩)
  dsimp only [Pt.U, Pt.locs, Pt.cells, Pt.slots] at X1 l1 y1 z1 st1 hQ1
  subst l1 y1 z1
  refine own_Go.by (fun tq kq => st1.trans kq) ?_
  obtain ⟨rfl, N1q, e1⟩ := hQ1
  have N1 := Fr.app N0 N1q
  show own_Go p.tables e below _ (T1.setTop (mkF m 4 #[.val (Value.ref a1), .val (Value.int p2), .unset] [(Value.int (n + al))]))
  refine own_Go.by (fun tq kq => X1.ldcInt hx hown (mvT hZ (hw _ (List.mem_of_getElem? (i := 43) rfl))) (g := (mkF m 4 #[.val (Value.ref a1), .val (Value.int p2), .unset] [(Value.int (n + al))])) rfl (hb hby d3_4) _ kq) ?_
  show own_Go p.tables e below _ (T1.setTop (mkF m 6 #[.val (Value.ref a1), .val (Value.int p2), .unset] [(Value.int (65536 : Int32)), (Value.int (n + al))]))
  refine own_Go.by (fun tq kq => XS.icmpNo X1.here hx rfl (hb hby d3_6) rfl (tlt hlt).2.1 kq) ?_
  show own_Go p.tables e below _ (T1.setTop (mkF m 9 #[.val (Value.ref a1), .val (Value.int p2), .unset] []))
  refine own_Go.by (fun tq kq => XS.aloadN X1.here hx rfl (hb hby d3_9) rfl rfl kq) ?_
  show own_Go p.tables e below _ (T1.setTop (mkF m 10 #[.val (Value.ref a1), .val (Value.int p2), .unset] [(Value.ref a1)]))
  obtain ⟨cq2, kq2, q2a, q2b, q2c⟩ := isOf hZ e1 H0
  obtain ⟨_, _, ⟨T2, L2, k2, n2⟩, -, X2, ⟨Lc2, hQ2, l2, y2, z2⟩, st2⟩ := X1.virtualBack hx (y := (⟨"com/example/plain_bastion/plainbastion/ssh/TypedText", "length", "()I"⟩ : MethodName)) (z := (⟨"com/example/plain_bastion/plainbastion/ssh/TypedText", "length", "()I"⟩ : MethodName)) hown (mvT hZ (hw _ (List.mem_of_getElem? (i := 34) rfl))) (mvT hZ (hw _ (List.mem_of_getElem? (i := 35) rfl))) (notFace_of_selects (args := #[]) (mvT hZ (hw _ (List.mem_of_getElem? (i := 37) rfl)))) (mvT hZ (hw _ (List.mem_of_getElem? (i := 37) rfl))) (mvT hZ (hw _ (List.mem_of_getElem? (i := 36) rfl))) (by decide) (backOf (W := 0) (rm4 l Z a0 hw [] a1 n al h0 n0 O0 H2 H3) hZ (hw _ (List.mem_of_getElem? (i := 38) rfl)) (hw _ (List.mem_of_getElem? (i := 3) rfl)) (by decide) (by decide)) q2a q2c (g := (mkF m 10 #[.val (Value.ref a1), .val (Value.int p2), .unset] [(Value.ref a1)])) rfl (by rw [hml]; rfl) (Steps.refl _) (argsL := []) (rest := []) (lenOf own_pd0 rfl) rfl (by show 2 * 0 + _ ≤ _; exact Nat.le_of_eq rfl) (hb hby d3_10) (fun _ _ => ⟨rfl, e1, (by decide : 0 + 0 ≤ _), (by decide : 0 + 0 ≤ _)⟩)
  dsimp only [Pt.U, Pt.locs, Pt.cells, Pt.slots] at X2 l2 y2 z2 st2 hQ2
  subst l2 y2 z2
  refine own_Go.by (fun tq kq => st2.trans kq) ?_
  obtain ⟨rfl, N2q, e2⟩ := hQ2
  have N2 := Fr.app N1 N2q
  show own_Go p.tables e below _ (T2.setTop (mkF m 13 #[.val (Value.ref a1), .val (Value.int p2), .unset] [(Value.int (n + al))]))
  refine own_Go.by (fun tq kq => XS.aloadN X2.here hx rfl (hb hby d3_13) rfl rfl kq) ?_
  show own_Go p.tables e below _ (T2.setTop (mkF m 14 #[.val (Value.ref a1), .val (Value.int p2), .unset] [(Value.ref a1), (Value.int (n + al))]))
  obtain ⟨T3, X3, e3, st3⟩ := getF X2 hx hZ hown (host := "") (Or.inl (hw _ (List.mem_of_getElem? (i := 21) rfl))) Via.refl e2 H1 (g := (mkF m 14 #[.val (Value.ref a1), .val (Value.int p2), .unset] [(Value.ref a1), (Value.int (n + al))])) rfl rfl (hb hby d3_14)
  refine own_Go.by st3 ?_
  show own_Go p.tables e below _ (T3.setTop (mkF m 17 #[.val (Value.ref a1), .val (Value.int p2), .unset] [(Value.ref aB), (Value.int (n + al))]))
  obtain ⟨cl4, Ar4, q4, S4, M4, Hh4, G4⟩ := id H4
  refine own_Go.by (fun tq kq => X3.arraylength hx (by rw [e3]; exact Ar4.1) (State.isArrayOf_alike hZ.alike Ar4.2.1) (g := (mkF m 17 #[.val (Value.ref a1), .val (Value.int p2), .unset] [(Value.ref aB), (Value.int (n + al))])) rfl rfl (hb hby d3_17) _ kq) ?_
  rw [len_of S4 M4]
  show own_Go p.tables e below _ (T3.setTop (mkF m 18 #[.val (Value.ref a1), .val (Value.int p2), .unset] [(Value.int (256 : Int32)), (Value.int (n + al))]))
  refine own_Go.by (fun tq kq => XS.icmpYes X3.here hx rfl (pc0 := 18) (pc' := 84) rfl (hb hby d3_18) rfl (feq hne).2 (by decide) (by decide) kq) ?_
  show own_Go p.tables e below _ (T3.setTop (mkF m 84 #[.val (Value.ref a1), .val (Value.int p2), .unset] []))
  refine own_Go.by (fun tq kq => XS.aloadN X3.here hx rfl (hb hby d3_84) rfl rfl kq) ?_
  show own_Go p.tables e below _ (T3.setTop (mkF m 85 #[.val (Value.ref a1), .val (Value.int p2), .unset] [(Value.ref a1)]))
  obtain ⟨T5, X5, e5, st5⟩ := getF X3 hx hZ hown (host := "") (Or.inl (hw _ (List.mem_of_getElem? (i := 21) rfl))) Via.refl e3 H1 (g := (mkF m 85 #[.val (Value.ref a1), .val (Value.int p2), .unset] [(Value.ref a1)])) rfl rfl (hb hby d3_85)
  refine own_Go.by st5 ?_
  show own_Go p.tables e below _ (T5.setTop (mkF m 88 #[.val (Value.ref a1), .val (Value.int p2), .unset] [(Value.ref aB)]))
  refine own_Go.by (fun tq kq => XS.aloadN X5.here hx rfl (hb hby d3_88) rfl rfl kq) ?_
  show own_Go p.tables e below _ (T5.setTop (mkF m 89 #[.val (Value.ref a1), .val (Value.int p2), .unset] [(Value.ref a1), (Value.ref aB)]))
  obtain ⟨T6, X6, e6, st6⟩ := getF X5 hx hZ hown (host := "") (Or.inl (hw _ (List.mem_of_getElem? (i := 39) rfl))) Via.refl e5 H2 (g := (mkF m 89 #[.val (Value.ref a1), .val (Value.int p2), .unset] [(Value.ref a1), (Value.ref aB)])) rfl rfl (hb hby d3_89)
  refine own_Go.by st6 ?_
  show own_Go p.tables e below _ (T6.setTop (mkF m 92 #[.val (Value.ref a1), .val (Value.int p2), .unset] [(Value.int n), (Value.ref aB)]))
  refine own_Go.by (fun tq kq => XS.iloadN X6.here hx rfl (hb hby d3_92) rfl kq) ?_
  show own_Go p.tables e below _ (T6.setTop (mkF m 93 #[.val (Value.ref a1), .val (Value.int p2), .unset] [(Value.int p2), (Value.int n), (Value.ref aB)]))
  obtain ⟨cl7, Ar7, q7, S7, M7, Hh7, G7⟩ := id H4
  obtain ⟨T8, h8, X8, e8, W8, st8⟩ := stB X6 hx hZ e6 Ar7 (j := n) (inb_of S7 hin) (g := (mkF m 93 #[.val (Value.ref a1), .val (Value.int p2), .unset] [(Value.int p2), (Value.int n), (Value.ref aB)])) rfl rfl (hb hby d3_93)
  refine own_Go.by st8 ?_
  have N8 := Fr.snoc X8 N2 H8
  have O9 := O0.wr W8 H8
  have K9 := K0.wr W8 (Or.inl (List.mem_of_getElem? (i := 1) rfl))
  rw [show nar .byte p2 = p2 from hb8] at W8
  have V8 : Arv Z h8 aB kB .byte (256 : Int32) (vs.set i (Value.int p2)) (Value.int (0 : Int32)) := Arv.set Ar7 q7 S7 M7 Hh7 G7 (own_fitB hb8) W8 i hi hil
  show own_Go p.tables e below _ (T8.setTop (mkF m 94 #[.val (Value.ref a1), .val (Value.int p2), .unset] []))
  refine own_Go.by (fun tq kq => XS.aloadN X8.here hx rfl (hb hby d3_94) rfl rfl kq) ?_
  show own_Go p.tables e below _ (T8.setTop (mkF m 95 #[.val (Value.ref a1), .val (Value.int p2), .unset] [(Value.ref a1)]))
  refine own_Go.by (fun tq kq => XS.dup X8.here hx rfl (hb hby d3_95) rfl rfl kq) ?_
  show own_Go p.tables e below _ (T8.setTop (mkF m 96 #[.val (Value.ref a1), .val (Value.int p2), .unset] [(Value.ref a1), (Value.ref a1)]))
  have c10 := (H2.other W8 (Or.inl H9))
  obtain ⟨T11, X11, e11, st11⟩ := getF X8 hx hZ hown (host := "") (Or.inl (hw _ (List.mem_of_getElem? (i := 39) rfl))) Via.refl e8 c10 (g := (mkF m 96 #[.val (Value.ref a1), .val (Value.int p2), .unset] [(Value.ref a1), (Value.ref a1)])) rfl rfl (hb hby d3_96)
  refine own_Go.by st11 ?_
  show own_Go p.tables e below _ (T11.setTop (mkF m 99 #[.val (Value.ref a1), .val (Value.int p2), .unset] [(Value.int n), (Value.ref a1)]))
  refine own_Go.by (fun tq kq => XS.iconst X11.here hx rfl (hb hby d3_99) kq) ?_
  show own_Go p.tables e below _ (T11.setTop (mkF m 100 #[.val (Value.ref a1), .val (Value.int p2), .unset] [(Value.int (1 : Int32)), (Value.int n), (Value.ref a1)]))
  refine own_Go.by (fun tq kq => XS.iadd X11.here hx rfl (hb hby d3_100) rfl kq) ?_
  show own_Go p.tables e below _ (T11.setTop (mkF m 101 #[.val (Value.ref a1), .val (Value.int p2), .unset] [(Value.int (n + (1 : Int32))), (Value.ref a1)]))
  have c12 := (H0.wr W8)
  obtain ⟨T13, h13, X13, e13, W13, st13⟩ := putF X11 hx hZ hown (host := "") (Or.inl (hw _ (List.mem_of_getElem? (i := 39) rfl))) Via.refl e11 c10 c12 (Or.inl (hw _ (List.mem_of_getElem? (i := 40) rfl))) (hw _ (List.mem_of_getElem? (i := 2) rfl)) (ty := .int) (by decide) rfl rfl (g := (mkF m 101 #[.val (Value.ref a1), .val (Value.int p2), .unset] [(Value.int (n + (1 : Int32))), (Value.ref a1)])) rfl rfl (hb hby d3_101)
  refine own_Go.by st13 ?_
  have N13 := Fr.snoc X13 N8 H7
  have O14 := O9.wr W13 H7
  have K14 := K9.wr W13 (Or.inl (List.mem_of_getElem? (i := 0) rfl))
  have F13 := c10.same W13
  show own_Go p.tables e below _ (T13.setTop (mkF m 104 #[.val (Value.ref a1), .val (Value.int p2), .unset] []))
  refine own_Go.by (fun tq kq => XS.aloadN X13.here hx rfl (hb hby d3_104) rfl rfl kq) ?_
  show own_Go p.tables e below _ (T13.setTop (mkF m 105 #[.val (Value.ref a1), .val (Value.int p2), .unset] [(Value.ref a1)]))
  refine own_Go.by (fun tq kq => XS.dup X13.here hx rfl (hb hby d3_105) rfl rfl kq) ?_
  show own_Go p.tables e below _ (T13.setTop (mkF m 106 #[.val (Value.ref a1), .val (Value.int p2), .unset] [(Value.ref a1), (Value.ref a1)]))
  have c15 := ((H5.other W8 (Or.inl H9)).other W13 (Or.inr (slot_ne (Or.inl (hw _ (List.mem_of_getElem? (i := 45) rfl))) (Or.inl (hw _ (List.mem_of_getElem? (i := 40) rfl))) (by decide) (t := .int) (t' := .int) (by decide) (by decide))))
  obtain ⟨T16, X16, e16, st16⟩ := getF X13 hx hZ hown (host := "") (Or.inl (hw _ (List.mem_of_getElem? (i := 44) rfl))) Via.refl e13 c15 (g := (mkF m 106 #[.val (Value.ref a1), .val (Value.int p2), .unset] [(Value.ref a1), (Value.ref a1)])) rfl rfl (hb hby d3_106)
  refine own_Go.by st16 ?_
  show own_Go p.tables e below _ (T16.setTop (mkF m 109 #[.val (Value.ref a1), .val (Value.int p2), .unset] [(Value.int br), (Value.ref a1)]))
  refine own_Go.by (fun tq kq => XS.iloadN X16.here hx rfl (hb hby d3_109) rfl kq) ?_
  show own_Go p.tables e below _ (T16.setTop (mkF m 110 #[.val (Value.ref a1), .val (Value.int p2), .unset] [(Value.int p2), (Value.int br), (Value.ref a1)]))
  refine own_Go.by (fun tq kq => XS.bipush X16.here hx rfl (hb hby d3_110) kq) ?_
  show own_Go p.tables e below _ (T16.setTop (mkF m 112 #[.val (Value.ref a1), .val (Value.int p2), .unset] [(Value.int (10 : Int32)), (Value.int p2), (Value.int br), (Value.ref a1)]))
  by_cases hc112_17 : p2 = (10 : Int32)
  ·
    refine own_Go.by (fun tq kq => XS.icmpNo X16.here hx rfl (hb hby d3_112) rfl (teq hc112_17).2 kq) ?_
    show own_Go p.tables e below _ (T16.setTop (mkF m 115 #[.val (Value.ref a1), .val (Value.int p2), .unset] [(Value.int br), (Value.ref a1)]))
    refine own_Go.by (fun tq kq => XS.iconst X16.here hx rfl (hb hby d3_115) kq) ?_
    show own_Go p.tables e below _ (T16.setTop (mkF m 116 #[.val (Value.ref a1), .val (Value.int p2), .unset] [(Value.int (1 : Int32)), (Value.int br), (Value.ref a1)]))
    refine own_Go.by (fun tq kq => XS.goto X16.here hx rfl (pc0 := 116) (pc' := 120) rfl (hb hby d3_116) (by decide) (by decide) kq) ?_
    show own_Go p.tables e below _ (T16.setTop (mkF m 120 #[.val (Value.ref a1), .val (Value.int p2), .unset] [(Value.int (1 : Int32)), (Value.int br), (Value.ref a1)]))
    refine own_Go.by (fun tq kq => XS.iadd X16.here hx rfl (hb hby d3_120) rfl kq) ?_
    show own_Go p.tables e below _ (T16.setTop (mkF m 121 #[.val (Value.ref a1), .val (Value.int p2), .unset] [(Value.int (br + (1 : Int32))), (Value.ref a1)]))
    have c18 := (c12.wr W13)
    obtain ⟨T19, h19, X19, e19, W19, st19⟩ := putF X16 hx hZ hown (host := "") (Or.inl (hw _ (List.mem_of_getElem? (i := 44) rfl))) Via.refl e16 c15 c18 (Or.inl (hw _ (List.mem_of_getElem? (i := 45) rfl))) (hw _ (List.mem_of_getElem? (i := 2) rfl)) (ty := .int) (by decide) rfl rfl (g := (mkF m 121 #[.val (Value.ref a1), .val (Value.int p2), .unset] [(Value.int (br + (1 : Int32))), (Value.ref a1)])) rfl rfl (hb hby d3_121)
    refine own_Go.by st19 ?_
    have N19 := Fr.snoc X19 N13 H7
    have O20 := O14.wr W19 H7
    have K20 := K14.wr W19 (Or.inl (List.mem_of_getElem? (i := 0) rfl))
    have F19 := c15.same W19
    show own_Go p.tables e below _ (T19.setTop (mkF m 124 #[.val (Value.ref a1), .val (Value.int p2), .unset] []))
    refine own_Go.by (fun tq kq => XS.goto X19.here hx rfl (pc0 := 124) (pc' := 132) rfl (hb hby d3_124) (by decide) (by decide) kq) ?_
    show own_Go p.tables e below _ (T19.setTop (mkF m 132 #[.val (Value.ref a1), .val (Value.int p2), .unset] []))
    have c21 := (c18.wr W19)
    have c22 := (((H1.other W8 (Or.inl H9)).other W13 (Or.inr (slot_ne (Or.inl (hw _ (List.mem_of_getElem? (i := 22) rfl))) (Or.inl (hw _ (List.mem_of_getElem? (i := 40) rfl))) (by decide) (t := (.array .byte)) (t' := .int) (by decide) (by decide)))).other W19 (Or.inr (slot_ne (Or.inl (hw _ (List.mem_of_getElem? (i := 22) rfl))) (Or.inl (hw _ (List.mem_of_getElem? (i := 45) rfl))) (by decide) (t := (.array .byte)) (t' := .int) (by decide) (by decide))))
    have c23 := (F13.other W19 (Or.inr (slot_ne (Or.inl (hw _ (List.mem_of_getElem? (i := 40) rfl))) (Or.inl (hw _ (List.mem_of_getElem? (i := 45) rfl))) (by decide) (t := .int) (t' := .int) (by decide) (by decide))))
    have c24 := (((H3.other W8 (Or.inl H9)).other W13 (Or.inr (slot_ne (Or.inl (hw _ (List.mem_of_getElem? (i := 42) rfl))) (Or.inl (hw _ (List.mem_of_getElem? (i := 40) rfl))) (by decide) (t := .int) (t' := .int) (by decide) (by decide)))).other W19 (Or.inr (slot_ne (Or.inl (hw _ (List.mem_of_getElem? (i := 42) rfl))) (Or.inl (hw _ (List.mem_of_getElem? (i := 45) rfl))) (by decide) (t := .int) (t' := .int) (by decide) (by decide))))
    have c25 := (((H6.other W8 (Or.inl H9)).other W13 (Or.inr (slot_ne (Or.inl (hw _ (List.mem_of_getElem? (i := 56) rfl))) (Or.inl (hw _ (List.mem_of_getElem? (i := 40) rfl))) (by decide) (t := .int) (t' := .int) (by decide) (by decide)))).other W19 (Or.inr (slot_ne (Or.inl (hw _ (List.mem_of_getElem? (i := 56) rfl))) (Or.inl (hw _ (List.mem_of_getElem? (i := 45) rfl))) (by decide) (t := .int) (t' := .int) (by decide) (by decide))))
    have c26 := ((V8.other W13 (Ne.symm H9)).other W19 (Ne.symm H9))
    obtain ⟨fs, hr, hrun, hended, hW, hsame⟩ := X19.leave (v := none) (fun _ => rfl)
    refine own_Go.fin (X19.returnOut hx Bd.returns (hb hby d3_132) hr) ⟨hrun, hended, _, _, rfl, ?_, ⟨_, rfl⟩, hW, hsame.mono (by decide) (by decide)⟩
    show Q3 Z a1 aB kB vs n al p2 br tl i h0 n0 _ T19.heap _
    rw [e19]
    exact ⟨(br + (1 : Int32)), rfl, N19, K20, c21, c22, c23, c24, F19, c25, c26⟩
  ·
    refine own_Go.by (fun tq kq => XS.icmpYes X16.here hx rfl (pc0 := 112) (pc' := 119) rfl (hb hby d3_112) rfl (feq hc112_17).2 (by decide) (by decide) kq) ?_
    show own_Go p.tables e below _ (T16.setTop (mkF m 119 #[.val (Value.ref a1), .val (Value.int p2), .unset] [(Value.int br), (Value.ref a1)]))
    refine own_Go.by (fun tq kq => XS.iconst X16.here hx rfl (hb hby d3_119) kq) ?_
    show own_Go p.tables e below _ (T16.setTop (mkF m 120 #[.val (Value.ref a1), .val (Value.int p2), .unset] [(Value.int (0 : Int32)), (Value.int br), (Value.ref a1)]))
    refine own_Go.by (fun tq kq => XS.iadd X16.here hx rfl (hb hby d3_120) rfl kq) ?_
    show own_Go p.tables e below _ (T16.setTop (mkF m 121 #[.val (Value.ref a1), .val (Value.int p2), .unset] [(Value.int (br + (0 : Int32))), (Value.ref a1)]))
    have c27 := (c12.wr W13)
    obtain ⟨T28, h28, X28, e28, W28, st28⟩ := putF X16 hx hZ hown (host := "") (Or.inl (hw _ (List.mem_of_getElem? (i := 44) rfl))) Via.refl e16 c15 c27 (Or.inl (hw _ (List.mem_of_getElem? (i := 45) rfl))) (hw _ (List.mem_of_getElem? (i := 2) rfl)) (ty := .int) (by decide) rfl rfl (g := (mkF m 121 #[.val (Value.ref a1), .val (Value.int p2), .unset] [(Value.int (br + (0 : Int32))), (Value.ref a1)])) rfl rfl (hb hby d3_121)
    refine own_Go.by st28 ?_
    have N28 := Fr.snoc X28 N13 H7
    have O29 := O14.wr W28 H7
    have K29 := K14.wr W28 (Or.inl (List.mem_of_getElem? (i := 0) rfl))
    have F28 := c15.same W28
    show own_Go p.tables e below _ (T28.setTop (mkF m 124 #[.val (Value.ref a1), .val (Value.int p2), .unset] []))
    refine own_Go.by (fun tq kq => XS.goto X28.here hx rfl (pc0 := 124) (pc' := 132) rfl (hb hby d3_124) (by decide) (by decide) kq) ?_
    show own_Go p.tables e below _ (T28.setTop (mkF m 132 #[.val (Value.ref a1), .val (Value.int p2), .unset] []))
    have c30 := (c27.wr W28)
    have c31 := (((H1.other W8 (Or.inl H9)).other W13 (Or.inr (slot_ne (Or.inl (hw _ (List.mem_of_getElem? (i := 22) rfl))) (Or.inl (hw _ (List.mem_of_getElem? (i := 40) rfl))) (by decide) (t := (.array .byte)) (t' := .int) (by decide) (by decide)))).other W28 (Or.inr (slot_ne (Or.inl (hw _ (List.mem_of_getElem? (i := 22) rfl))) (Or.inl (hw _ (List.mem_of_getElem? (i := 45) rfl))) (by decide) (t := (.array .byte)) (t' := .int) (by decide) (by decide))))
    have c32 := (F13.other W28 (Or.inr (slot_ne (Or.inl (hw _ (List.mem_of_getElem? (i := 40) rfl))) (Or.inl (hw _ (List.mem_of_getElem? (i := 45) rfl))) (by decide) (t := .int) (t' := .int) (by decide) (by decide))))
    have c33 := (((H3.other W8 (Or.inl H9)).other W13 (Or.inr (slot_ne (Or.inl (hw _ (List.mem_of_getElem? (i := 42) rfl))) (Or.inl (hw _ (List.mem_of_getElem? (i := 40) rfl))) (by decide) (t := .int) (t' := .int) (by decide) (by decide)))).other W28 (Or.inr (slot_ne (Or.inl (hw _ (List.mem_of_getElem? (i := 42) rfl))) (Or.inl (hw _ (List.mem_of_getElem? (i := 45) rfl))) (by decide) (t := .int) (t' := .int) (by decide) (by decide))))
    have c34 := (((H6.other W8 (Or.inl H9)).other W13 (Or.inr (slot_ne (Or.inl (hw _ (List.mem_of_getElem? (i := 56) rfl))) (Or.inl (hw _ (List.mem_of_getElem? (i := 40) rfl))) (by decide) (t := .int) (t' := .int) (by decide) (by decide)))).other W28 (Or.inr (slot_ne (Or.inl (hw _ (List.mem_of_getElem? (i := 56) rfl))) (Or.inl (hw _ (List.mem_of_getElem? (i := 45) rfl))) (by decide) (t := .int) (t' := .int) (by decide) (by decide))))
    have c35 := ((V8.other W13 (Ne.symm H9)).other W28 (Ne.symm H9))
    obtain ⟨fs, hr, hrun, hended, hW, hsame⟩ := X28.leave (v := none) (fun _ => rfl)
    refine own_Go.fin (X28.returnOut hx Bd.returns (hb hby d3_132) hr) ⟨hrun, hended, _, _, rfl, ?_, ⟨_, rfl⟩, hW, hsame.mono (by decide) (by decide)⟩
    show Q3 Z a1 aB kB vs n al p2 br tl i h0 n0 _ T28.heap _
    rw [e28]
    exact ⟨(br + (0 : Int32)), rfl, N28, K29, c30, c31, c32, c33, F28, c34, c35⟩

theorem d5_0 : decode prog_61_method_20_code 0 = .ok (.iload_n 1, 1) := by decide +kernel
theorem d5_1 : decode prog_61_method_20_code 1 = .ok (.aload_n 0, 1) := by decide +kernel
theorem d5_2 : decode prog_61_method_20_code 2 = .ok (.getfield 38, 3) := by decide +kernel
theorem d5_5 : decode prog_61_method_20_code 5 = .ok (.if_icmp .ge 73, 3) := by decide +kernel
theorem d5_8 : decode prog_61_method_20_code 8 = .ok (.aload_n 0, 1) := by decide +kernel
theorem d5_9 : decode prog_61_method_20_code 9 = .ok (.getfield 38, 3) := by decide +kernel
theorem d5_12 : decode prog_61_method_20_code 12 = .ok (.iload_n 1, 1) := by decide +kernel
theorem d5_13 : decode prog_61_method_20_code 13 = .ok (.isub, 1) := by decide +kernel
theorem d5_14 : decode prog_61_method_20_code 14 = .ok (.istore_n 2, 1) := by decide +kernel
theorem d5_15 : decode prog_61_method_20_code 15 = .ok (.aload_n 0, 1) := by decide +kernel
theorem d5_16 : decode prog_61_method_20_code 16 = .ok (.getfield 7, 3) := by decide +kernel
theorem d5_19 : decode prog_61_method_20_code 19 = .ok (.iload_n 1, 1) := by decide +kernel
theorem d5_20 : decode prog_61_method_20_code 20 = .ok (.aload_n 0, 1) := by decide +kernel
theorem d5_21 : decode prog_61_method_20_code 21 = .ok (.getfield 7, 3) := by decide +kernel
theorem d5_24 : decode prog_61_method_20_code 24 = .ok (.aload_n 0, 1) := by decide +kernel
theorem d5_25 : decode prog_61_method_20_code 25 = .ok (.getfield 7, 3) := by decide +kernel
theorem d5_28 : decode prog_61_method_20_code 28 = .ok (.arraylength, 1) := by decide +kernel
theorem d5_29 : decode prog_61_method_20_code 29 = .ok (.aload_n 0, 1) := by decide +kernel
theorem d5_30 : decode prog_61_method_20_code 30 = .ok (.getfield 41, 3) := by decide +kernel
theorem d5_33 : decode prog_61_method_20_code 33 = .ok (.isub, 1) := by decide +kernel
theorem d5_34 : decode prog_61_method_20_code 34 = .ok (.iload_n 2, 1) := by decide +kernel
theorem d5_35 : decode prog_61_method_20_code 35 = .ok (.isub, 1) := by decide +kernel
theorem d5_36 : decode prog_61_method_20_code 36 = .ok (.iload_n 2, 1) := by decide +kernel
theorem d5_37 : decode prog_61_method_20_code 37 = .ok (.invokestatic 69, 3) := by decide +kernel
theorem d5_40 : decode prog_61_method_20_code 40 = .ok (.aload_n 0, 1) := by decide +kernel
theorem d5_41 : decode prog_61_method_20_code 41 = .ok (.dup, 1) := by decide +kernel
theorem d5_42 : decode prog_61_method_20_code 42 = .ok (.getfield 41, 3) := by decide +kernel
theorem d5_45 : decode prog_61_method_20_code 45 = .ok (.iload_n 2, 1) := by decide +kernel
theorem d5_46 : decode prog_61_method_20_code 46 = .ok (.iadd, 1) := by decide +kernel
theorem d5_47 : decode prog_61_method_20_code 47 = .ok (.putfield 41, 3) := by decide +kernel
theorem d5_50 : decode prog_61_method_20_code 50 = .ok (.aload_n 0, 1) := by decide +kernel
theorem d5_51 : decode prog_61_method_20_code 51 = .ok (.iload_n 1, 1) := by decide +kernel
theorem d5_52 : decode prog_61_method_20_code 52 = .ok (.putfield 38, 3) := by decide +kernel
theorem d5_55 : decode prog_61_method_20_code 55 = .ok (.aload_n 0, 1) := by decide +kernel
theorem d5_56 : decode prog_61_method_20_code 56 = .ok (.aload_n 0, 1) := by decide +kernel
theorem d5_57 : decode prog_61_method_20_code 57 = .ok (.getfield 59, 3) := by decide +kernel
theorem d5_60 : decode prog_61_method_20_code 60 = .ok (.iload_n 1, 1) := by decide +kernel
theorem d5_61 : decode prog_61_method_20_code 61 = .ok (.if_icmp .le 7, 3) := by decide +kernel
theorem d5_68 : decode prog_61_method_20_code 68 = .ok (.aload_n 0, 1) := by decide +kernel
theorem d5_69 : decode prog_61_method_20_code 69 = .ok (.getfield 59, 3) := by decide +kernel
theorem d5_72 : decode prog_61_method_20_code 72 = .ok (.putfield 59, 3) := by decide +kernel
theorem d5_75 : decode prog_61_method_20_code 75 = .ok (.goto 71, 3) := by decide +kernel
theorem d5_146 : decode prog_61_method_20_code 146 = .ok (.return_, 1) := by decide +kernel
theorem own_ef_5_0 (m : MethodId) (a1 : Addr) : entryFrame m #[(Value.ref a1), (Value.int (0 : Int32))] 3 = mkF m 0 #[.val (Value.ref a1), .val (Value.int (0 : Int32)), .unset] [] := by first | (simp [entryFrame, mkF, argsToLocals, Value.category]; done) | rfl
def Q5_0 (Z : State) (a1 : Addr) (aB : Addr) (kB : ClassId) (vs : List Value) (br : Int32) (h0 : Heap) (n0 : Nat) (v : Option Value) (h : Heap) (L : List Loc) : Prop := v = none ∧ Fr n0 L ∧ Keep h0 h [a1, aB] ∧ (Exa Z h a1 "com/example/plain_bastion/plainbastion/ssh/TypedText") ∧ (Fld Z h a1 "com/example/plain_bastion/plainbastion/ssh/TypedText" "bytes" "[B" (Value.ref aB)) ∧ (Fld Z h a1 "com/example/plain_bastion/plainbastion/ssh/TypedText" "length" "I" (Value.int (0 : Int32))) ∧ (Fld Z h a1 "com/example/plain_bastion/plainbastion/ssh/TypedText" "afterLength" "I" (Value.int (2 : Int32))) ∧ (Fld Z h a1 "com/example/plain_bastion/plainbastion/ssh/TypedText" "breaks" "I" (Value.int br)) ∧ (Fld Z h a1 "com/example/plain_bastion/plainbastion/ssh/TypedText" "told" "I" (Value.int (0 : Int32))) ∧ (Arv Z h aB kB .byte (256 : Int32) ((vs).take (254 : Int32).toNatClampNeg ++ ((List.range (2 : Int32).toNatClampNeg).map fun i => (vs).getD ((0 : Int32).toNatClampNeg + i) (Value.int (0 : Int32))) ++ (vs).drop ((254 : Int32).toNatClampNeg + (2 : Int32).toNatClampNeg)) (Value.int (0 : Int32)))
set_option maxRecDepth 65536 in
set_option maxHeartbeats 40000000 in
theorem rm5_0 (l : Launch) (Z : State) (a0 : Array Value) (hw : ∀ d ∈ tables_1, d.before a0 Z = true) (ws : List Jvm.Cond) (a1 : Addr) (aB : Addr) (kB : ClassId) (vs : List Value) (br : Int32) (h0 : Heap) (n0 : Nat) (O0 : Old Z n0 h0) (H0 : Exa Z h0 a1 "com/example/plain_bastion/plainbastion/ssh/TypedText") (H1 : Fld Z h0 a1 "com/example/plain_bastion/plainbastion/ssh/TypedText" "bytes" "[B" (Value.ref aB)) (H2 : Fld Z h0 a1 "com/example/plain_bastion/plainbastion/ssh/TypedText" "length" "I" (Value.int (2 : Int32))) (H3 : Fld Z h0 a1 "com/example/plain_bastion/plainbastion/ssh/TypedText" "afterLength" "I" (Value.int (0 : Int32))) (H4 : Arv Z h0 aB kB .byte (256 : Int32) vs (Value.int (0 : Int32))) (H5 : Fld Z h0 a1 "com/example/plain_bastion/plainbastion/ssh/TypedText" "told" "I" (Value.int (0 : Int32))) (H6 : Fld Z h0 a1 "com/example/plain_bastion/plainbastion/ssh/TypedText" "breaks" "I" (Value.int br)) (H7 : n0 ≤ a1) (H8 : n0 ≤ aB) (H9 : a1 ≠ aB) (hvl : vs.length = 256) :
    MetFree l (⟨"com/example/plain_bastion/plainbastion/ssh/TypedText", "moveTo", "(I)V"⟩ : MethodName) (head1 (Jvm.Cond.code (⟨"com/example/plain_bastion/plainbastion/ssh/TypedText", "moveTo", "(I)V"⟩ : MethodName) prog_61_method_20_code 3 none :: ws) ({ frames := 1, cells := 0, slots := 0, locals := 18 } : Room)) (fun a U => a = #[(Value.ref a1), (Value.int (0 : Int32))] ∧ Z.Warmed39 U.vm ∧ U.heap = h0) (fun _ _ _ _ _ => True) (fun _ U o U' => ∃ v L, o = .returned v ∧ Q5_0 Z a1 aB kB vs br h0 n0 v U'.heap L ∧ FrameEnd U o U' L ({ frames := 1, cells := 0, slots := 0, locals := 18 } : Room).cells ({ frames := 1, cells := 0, slots := 0, locals := 18 } : Room).slots) := by
  refine MetFree.of_bodySF (plainFor_of_name own_pn_com_example_plain_bastion_plainbastion_ssh_TypedText) hisR ?_
  intro p e s m args below meth c s₁ Bd hml0 hP hK
  obtain ⟨rfl, hZ, hh⟩ := hP
  have hx := Bd.exec
  have hby := Bd.bytes
  have hml : c.maxLocals = 3 := hml0
  have hown : s.vm.findClass "com/example/plain_bastion/plainbastion/ssh/TypedText" = some m.cls := findClass_of_methodNamed Bd.named
  have hnm := (name_of_methodNamed Bd.named Bd.method).1
  have X0 : Stand p l e ({ frames := 1, cells := 0, slots := 0, locals := 18 } : Room) s m #[(Value.ref a1), (Value.int (0 : Int32))] below meth c s₁ [] 0 0 := Stand.of_body Bd
  have e0 : s₁.heap = h0 := by rw [← hh, Bd.state]; rfl
  have N0 := Fr.nil n0
  have K0 := Keep.refl h0 [a1, aB]
  show own_Go p.tables e below _ (s₁.setTop (entryFrame m #[(Value.ref a1), (Value.int (0 : Int32))] 3))
  refine own_Go.by (fun tq kq => castTop (own_ef_5_0 m a1) kq) ?_
  show own_Go p.tables e below _ (s₁.setTop (mkF m 0 #[.val (Value.ref a1), .val (Value.int (0 : Int32)), .unset] []))
  refine own_Go.by (fun tq kq => XS.iloadN X0.here hx rfl (hb hby d5_0) rfl kq) ?_
  show own_Go p.tables e below _ (s₁.setTop (mkF m 1 #[.val (Value.ref a1), .val (Value.int (0 : Int32)), .unset] [(Value.int (0 : Int32))]))
  refine own_Go.by (fun tq kq => XS.aloadN X0.here hx rfl (hb hby d5_1) rfl rfl kq) ?_
  show own_Go p.tables e below _ (s₁.setTop (mkF m 2 #[.val (Value.ref a1), .val (Value.int (0 : Int32)), .unset] [(Value.ref a1), (Value.int (0 : Int32))]))
  obtain ⟨T1, X1, e1, st1⟩ := getF X0 hx hZ hown (host := "") (Or.inl (hw _ (List.mem_of_getElem? (i := 39) rfl))) Via.refl e0 H2 (g := (mkF m 2 #[.val (Value.ref a1), .val (Value.int (0 : Int32)), .unset] [(Value.ref a1), (Value.int (0 : Int32))])) rfl rfl (hb hby d5_2)
  refine own_Go.by st1 ?_
  show own_Go p.tables e below _ (T1.setTop (mkF m 5 #[.val (Value.ref a1), .val (Value.int (0 : Int32)), .unset] [(Value.int (2 : Int32)), (Value.int (0 : Int32))]))
  refine own_Go.by (fun tq kq => XS.icmpNo X1.here hx rfl (hb hby d5_5) rfl (tlt (by decide : (0 : Int32) < (2 : Int32))).2.1 kq) ?_
  show own_Go p.tables e below _ (T1.setTop (mkF m 8 #[.val (Value.ref a1), .val (Value.int (0 : Int32)), .unset] []))
  refine own_Go.by (fun tq kq => XS.aloadN X1.here hx rfl (hb hby d5_8) rfl rfl kq) ?_
  show own_Go p.tables e below _ (T1.setTop (mkF m 9 #[.val (Value.ref a1), .val (Value.int (0 : Int32)), .unset] [(Value.ref a1)]))
  obtain ⟨T2, X2, e2, st2⟩ := getF X1 hx hZ hown (host := "") (Or.inl (hw _ (List.mem_of_getElem? (i := 39) rfl))) Via.refl e1 H2 (g := (mkF m 9 #[.val (Value.ref a1), .val (Value.int (0 : Int32)), .unset] [(Value.ref a1)])) rfl rfl (hb hby d5_9)
  refine own_Go.by st2 ?_
  show own_Go p.tables e below _ (T2.setTop (mkF m 12 #[.val (Value.ref a1), .val (Value.int (0 : Int32)), .unset] [(Value.int (2 : Int32))]))
  refine own_Go.by (fun tq kq => XS.iloadN X2.here hx rfl (hb hby d5_12) rfl kq) ?_
  show own_Go p.tables e below _ (T2.setTop (mkF m 13 #[.val (Value.ref a1), .val (Value.int (0 : Int32)), .unset] [(Value.int (0 : Int32)), (Value.int (2 : Int32))]))
  refine own_Go.by (fun tq kq => XS.isub X2.here hx rfl (hb hby d5_13) rfl kq) ?_
  show own_Go p.tables e below _ (T2.setTop (mkF m 14 #[.val (Value.ref a1), .val (Value.int (0 : Int32)), .unset] [(Value.int (2 : Int32))]))
  refine own_Go.by (fun tq kq => XS.istoreN X2.here hx rfl (hb hby d5_14) rfl (l' := #[.val (Value.ref a1), .val (Value.int (0 : Int32)), .val (Value.int (2 : Int32))]) rfl kq) ?_
  show own_Go p.tables e below _ (T2.setTop (mkF m 15 #[.val (Value.ref a1), .val (Value.int (0 : Int32)), .val (Value.int (2 : Int32))] []))
  refine own_Go.by (fun tq kq => XS.aloadN X2.here hx rfl (hb hby d5_15) rfl rfl kq) ?_
  show own_Go p.tables e below _ (T2.setTop (mkF m 16 #[.val (Value.ref a1), .val (Value.int (0 : Int32)), .val (Value.int (2 : Int32))] [(Value.ref a1)]))
  obtain ⟨T3, X3, e3, st3⟩ := getF X2 hx hZ hown (host := "") (Or.inl (hw _ (List.mem_of_getElem? (i := 21) rfl))) Via.refl e2 H1 (g := (mkF m 16 #[.val (Value.ref a1), .val (Value.int (0 : Int32)), .val (Value.int (2 : Int32))] [(Value.ref a1)])) rfl rfl (hb hby d5_16)
  refine own_Go.by st3 ?_
  show own_Go p.tables e below _ (T3.setTop (mkF m 19 #[.val (Value.ref a1), .val (Value.int (0 : Int32)), .val (Value.int (2 : Int32))] [(Value.ref aB)]))
  refine own_Go.by (fun tq kq => XS.iloadN X3.here hx rfl (hb hby d5_19) rfl kq) ?_
  show own_Go p.tables e below _ (T3.setTop (mkF m 20 #[.val (Value.ref a1), .val (Value.int (0 : Int32)), .val (Value.int (2 : Int32))] [(Value.int (0 : Int32)), (Value.ref aB)]))
  refine own_Go.by (fun tq kq => XS.aloadN X3.here hx rfl (hb hby d5_20) rfl rfl kq) ?_
  show own_Go p.tables e below _ (T3.setTop (mkF m 21 #[.val (Value.ref a1), .val (Value.int (0 : Int32)), .val (Value.int (2 : Int32))] [(Value.ref a1), (Value.int (0 : Int32)), (Value.ref aB)]))
  obtain ⟨T4, X4, e4, st4⟩ := getF X3 hx hZ hown (host := "") (Or.inl (hw _ (List.mem_of_getElem? (i := 21) rfl))) Via.refl e3 H1 (g := (mkF m 21 #[.val (Value.ref a1), .val (Value.int (0 : Int32)), .val (Value.int (2 : Int32))] [(Value.ref a1), (Value.int (0 : Int32)), (Value.ref aB)])) rfl rfl (hb hby d5_21)
  refine own_Go.by st4 ?_
  show own_Go p.tables e below _ (T4.setTop (mkF m 24 #[.val (Value.ref a1), .val (Value.int (0 : Int32)), .val (Value.int (2 : Int32))] [(Value.ref aB), (Value.int (0 : Int32)), (Value.ref aB)]))
  refine own_Go.by (fun tq kq => XS.aloadN X4.here hx rfl (hb hby d5_24) rfl rfl kq) ?_
  show own_Go p.tables e below _ (T4.setTop (mkF m 25 #[.val (Value.ref a1), .val (Value.int (0 : Int32)), .val (Value.int (2 : Int32))] [(Value.ref a1), (Value.ref aB), (Value.int (0 : Int32)), (Value.ref aB)]))
  obtain ⟨T5, X5, e5, st5⟩ := getF X4 hx hZ hown (host := "") (Or.inl (hw _ (List.mem_of_getElem? (i := 21) rfl))) Via.refl e4 H1 (g := (mkF m 25 #[.val (Value.ref a1), .val (Value.int (0 : Int32)), .val (Value.int (2 : Int32))] [(Value.ref a1), (Value.ref aB), (Value.int (0 : Int32)), (Value.ref aB)])) rfl rfl (hb hby d5_25)
  refine own_Go.by st5 ?_
  show own_Go p.tables e below _ (T5.setTop (mkF m 28 #[.val (Value.ref a1), .val (Value.int (0 : Int32)), .val (Value.int (2 : Int32))] [(Value.ref aB), (Value.ref aB), (Value.int (0 : Int32)), (Value.ref aB)]))
  obtain ⟨cl6, Ar6, q6, S6, M6, Hh6, G6⟩ := id H4
  refine own_Go.by (fun tq kq => X5.arraylength hx (by rw [e5]; exact Ar6.1) (State.isArrayOf_alike hZ.alike Ar6.2.1) (g := (mkF m 28 #[.val (Value.ref a1), .val (Value.int (0 : Int32)), .val (Value.int (2 : Int32))] [(Value.ref aB), (Value.ref aB), (Value.int (0 : Int32)), (Value.ref aB)])) rfl rfl (hb hby d5_28) _ kq) ?_
  rw [len_of S6 M6]
  show own_Go p.tables e below _ (T5.setTop (mkF m 29 #[.val (Value.ref a1), .val (Value.int (0 : Int32)), .val (Value.int (2 : Int32))] [(Value.int (256 : Int32)), (Value.ref aB), (Value.int (0 : Int32)), (Value.ref aB)]))
  refine own_Go.by (fun tq kq => XS.aloadN X5.here hx rfl (hb hby d5_29) rfl rfl kq) ?_
  show own_Go p.tables e below _ (T5.setTop (mkF m 30 #[.val (Value.ref a1), .val (Value.int (0 : Int32)), .val (Value.int (2 : Int32))] [(Value.ref a1), (Value.int (256 : Int32)), (Value.ref aB), (Value.int (0 : Int32)), (Value.ref aB)]))
  obtain ⟨T7, X7, e7, st7⟩ := getF X5 hx hZ hown (host := "") (Or.inl (hw _ (List.mem_of_getElem? (i := 41) rfl))) Via.refl e5 H3 (g := (mkF m 30 #[.val (Value.ref a1), .val (Value.int (0 : Int32)), .val (Value.int (2 : Int32))] [(Value.ref a1), (Value.int (256 : Int32)), (Value.ref aB), (Value.int (0 : Int32)), (Value.ref aB)])) rfl rfl (hb hby d5_30)
  refine own_Go.by st7 ?_
  show own_Go p.tables e below _ (T7.setTop (mkF m 33 #[.val (Value.ref a1), .val (Value.int (0 : Int32)), .val (Value.int (2 : Int32))] [(Value.int (0 : Int32)), (Value.int (256 : Int32)), (Value.ref aB), (Value.int (0 : Int32)), (Value.ref aB)]))
  refine own_Go.by (fun tq kq => XS.isub X7.here hx rfl (hb hby d5_33) rfl kq) ?_
  show own_Go p.tables e below _ (T7.setTop (mkF m 34 #[.val (Value.ref a1), .val (Value.int (0 : Int32)), .val (Value.int (2 : Int32))] [(Value.int (256 : Int32)), (Value.ref aB), (Value.int (0 : Int32)), (Value.ref aB)]))
  refine own_Go.by (fun tq kq => XS.iloadN X7.here hx rfl (hb hby d5_34) rfl kq) ?_
  show own_Go p.tables e below _ (T7.setTop (mkF m 35 #[.val (Value.ref a1), .val (Value.int (0 : Int32)), .val (Value.int (2 : Int32))] [(Value.int (2 : Int32)), (Value.int (256 : Int32)), (Value.ref aB), (Value.int (0 : Int32)), (Value.ref aB)]))
  refine own_Go.by (fun tq kq => XS.isub X7.here hx rfl (hb hby d5_35) rfl kq) ?_
  show own_Go p.tables e below _ (T7.setTop (mkF m 36 #[.val (Value.ref a1), .val (Value.int (0 : Int32)), .val (Value.int (2 : Int32))] [(Value.int (254 : Int32)), (Value.ref aB), (Value.int (0 : Int32)), (Value.ref aB)]))
  refine own_Go.by (fun tq kq => XS.iloadN X7.here hx rfl (hb hby d5_36) rfl kq) ?_
  show own_Go p.tables e below _ (T7.setTop (mkF m 37 #[.val (Value.ref a1), .val (Value.int (0 : Int32)), .val (Value.int (2 : Int32))] [(Value.int (2 : Int32)), (Value.int (254 : Int32)), (Value.ref aB), (Value.int (0 : Int32)), (Value.ref aB)]))
  obtain ⟨T8, h8, Lc8, X8, e8, N8, K8q, V8, st8⟩ := cpA X7 hx hZ hown (hw _ (List.mem_of_getElem? (i := 51) rfl)) (hw _ (List.mem_of_getElem? (i := 54) rfl)) (hw _ (List.mem_of_getElem? (i := 52) rfl)) (hw _ (List.mem_of_getElem? (i := 53) rfl)) e7 H4 H4 (us := ((List.range (2 : Int32).toNatClampNeg).map fun i => (vs).getD ((0 : Int32).toNatClampNeg + i) (Value.int (0 : Int32)))) (Or.inl ⟨rfl, rfl⟩) (by decide : ¬ ((0 : Int32) < (0 : Int32))) (by decide : ¬ ((254 : Int32) < (0 : Int32))) (by decide : ¬ ((2 : Int32) < (0 : Int32))) (by decide : (0 : Int32).toNatClampNeg + (2 : Int32).toNatClampNeg ≤ (256 : Int32).toNatClampNeg) (by decide : (254 : Int32).toNatClampNeg + (2 : Int32).toNatClampNeg ≤ (256 : Int32).toNatClampNeg) rfl (by rw [hvl]; decide) N0 H8 (g := (mkF m 37 #[.val (Value.ref a1), .val (Value.int (0 : Int32)), .val (Value.int (2 : Int32))] [(Value.int (2 : Int32)), (Value.int (254 : Int32)), (Value.ref aB), (Value.int (0 : Int32)), (Value.ref aB)])) rfl (by rw [hml]; rfl) rfl (hb hby d5_37) (by decide) (W := 0) (by show 2 * 0 + _ ≤ _; exact Nat.le_of_eq rfl) (by decide)
  refine own_Go.by st8 ?_
  have O9 := O0.keep K8q (allS H8 all0)
  have K9 := K0.trans K8q (allS (Or.inl (List.mem_of_getElem? (i := 1) rfl)) all0)
  show own_Go p.tables e below _ (T8.setTop (mkF m 40 #[.val (Value.ref a1), .val (Value.int (0 : Int32)), .val (Value.int (2 : Int32))] []))
  refine own_Go.by (fun tq kq => XS.aloadN X8.here hx rfl (hb hby d5_40) rfl rfl kq) ?_
  show own_Go p.tables e below _ (T8.setTop (mkF m 41 #[.val (Value.ref a1), .val (Value.int (0 : Int32)), .val (Value.int (2 : Int32))] [(Value.ref a1)]))
  refine own_Go.by (fun tq kq => XS.dup X8.here hx rfl (hb hby d5_41) rfl rfl kq) ?_
  show own_Go p.tables e below _ (T8.setTop (mkF m 42 #[.val (Value.ref a1), .val (Value.int (0 : Int32)), .val (Value.int (2 : Int32))] [(Value.ref a1), (Value.ref a1)]))
  have c10 := (H3.keep K8q (ninS H9 nin0))
  obtain ⟨T11, X11, e11, st11⟩ := getF X8 hx hZ hown (host := "") (Or.inl (hw _ (List.mem_of_getElem? (i := 41) rfl))) Via.refl e8 c10 (g := (mkF m 42 #[.val (Value.ref a1), .val (Value.int (0 : Int32)), .val (Value.int (2 : Int32))] [(Value.ref a1), (Value.ref a1)])) rfl rfl (hb hby d5_42)
  refine own_Go.by st11 ?_
  show own_Go p.tables e below _ (T11.setTop (mkF m 45 #[.val (Value.ref a1), .val (Value.int (0 : Int32)), .val (Value.int (2 : Int32))] [(Value.int (0 : Int32)), (Value.ref a1)]))
  refine own_Go.by (fun tq kq => XS.iloadN X11.here hx rfl (hb hby d5_45) rfl kq) ?_
  show own_Go p.tables e below _ (T11.setTop (mkF m 46 #[.val (Value.ref a1), .val (Value.int (0 : Int32)), .val (Value.int (2 : Int32))] [(Value.int (2 : Int32)), (Value.int (0 : Int32)), (Value.ref a1)]))
  refine own_Go.by (fun tq kq => XS.iadd X11.here hx rfl (hb hby d5_46) rfl kq) ?_
  show own_Go p.tables e below _ (T11.setTop (mkF m 47 #[.val (Value.ref a1), .val (Value.int (0 : Int32)), .val (Value.int (2 : Int32))] [(Value.int (2 : Int32)), (Value.ref a1)]))
  have c12 := (H0.keep K8q)
  obtain ⟨T13, h13, X13, e13, W13, st13⟩ := putF X11 hx hZ hown (host := "") (Or.inl (hw _ (List.mem_of_getElem? (i := 41) rfl))) Via.refl e11 c10 c12 (Or.inl (hw _ (List.mem_of_getElem? (i := 42) rfl))) (hw _ (List.mem_of_getElem? (i := 2) rfl)) (ty := .int) (by decide) rfl rfl (g := (mkF m 47 #[.val (Value.ref a1), .val (Value.int (0 : Int32)), .val (Value.int (2 : Int32))] [(Value.int (2 : Int32)), (Value.ref a1)])) rfl rfl (hb hby d5_47)
  refine own_Go.by st13 ?_
  have N13 := Fr.snoc X13 N8 H7
  have O14 := O9.wr W13 H7
  have K14 := K9.wr W13 (Or.inl (List.mem_of_getElem? (i := 0) rfl))
  have F13 := c10.same W13
  show own_Go p.tables e below _ (T13.setTop (mkF m 50 #[.val (Value.ref a1), .val (Value.int (0 : Int32)), .val (Value.int (2 : Int32))] []))
  refine own_Go.by (fun tq kq => XS.aloadN X13.here hx rfl (hb hby d5_50) rfl rfl kq) ?_
  show own_Go p.tables e below _ (T13.setTop (mkF m 51 #[.val (Value.ref a1), .val (Value.int (0 : Int32)), .val (Value.int (2 : Int32))] [(Value.ref a1)]))
  refine own_Go.by (fun tq kq => XS.iloadN X13.here hx rfl (hb hby d5_51) rfl kq) ?_
  show own_Go p.tables e below _ (T13.setTop (mkF m 52 #[.val (Value.ref a1), .val (Value.int (0 : Int32)), .val (Value.int (2 : Int32))] [(Value.int (0 : Int32)), (Value.ref a1)]))
  have c15 := ((H2.keep K8q (ninS H9 nin0)).other W13 (Or.inr (slot_ne (Or.inl (hw _ (List.mem_of_getElem? (i := 40) rfl))) (Or.inl (hw _ (List.mem_of_getElem? (i := 42) rfl))) (by decide) (t := .int) (t' := .int) (by decide) (by decide))))
  have c16 := (c12.wr W13)
  obtain ⟨T17, h17, X17, e17, W17, st17⟩ := putF X13 hx hZ hown (host := "") (Or.inl (hw _ (List.mem_of_getElem? (i := 39) rfl))) Via.refl e13 c15 c16 (Or.inl (hw _ (List.mem_of_getElem? (i := 40) rfl))) (hw _ (List.mem_of_getElem? (i := 2) rfl)) (ty := .int) (by decide) rfl rfl (g := (mkF m 52 #[.val (Value.ref a1), .val (Value.int (0 : Int32)), .val (Value.int (2 : Int32))] [(Value.int (0 : Int32)), (Value.ref a1)])) rfl rfl (hb hby d5_52)
  refine own_Go.by st17 ?_
  have N17 := Fr.snoc X17 N13 H7
  have O18 := O14.wr W17 H7
  have K18 := K14.wr W17 (Or.inl (List.mem_of_getElem? (i := 0) rfl))
  have F17 := c15.same W17
  show own_Go p.tables e below _ (T17.setTop (mkF m 55 #[.val (Value.ref a1), .val (Value.int (0 : Int32)), .val (Value.int (2 : Int32))] []))
  refine own_Go.by (fun tq kq => XS.aloadN X17.here hx rfl (hb hby d5_55) rfl rfl kq) ?_
  show own_Go p.tables e below _ (T17.setTop (mkF m 56 #[.val (Value.ref a1), .val (Value.int (0 : Int32)), .val (Value.int (2 : Int32))] [(Value.ref a1)]))
  refine own_Go.by (fun tq kq => XS.aloadN X17.here hx rfl (hb hby d5_56) rfl rfl kq) ?_
  show own_Go p.tables e below _ (T17.setTop (mkF m 57 #[.val (Value.ref a1), .val (Value.int (0 : Int32)), .val (Value.int (2 : Int32))] [(Value.ref a1), (Value.ref a1)]))
  have c19 := (((H5.keep K8q (ninS H9 nin0)).other W13 (Or.inr (slot_ne (Or.inl (hw _ (List.mem_of_getElem? (i := 56) rfl))) (Or.inl (hw _ (List.mem_of_getElem? (i := 42) rfl))) (by decide) (t := .int) (t' := .int) (by decide) (by decide)))).other W17 (Or.inr (slot_ne (Or.inl (hw _ (List.mem_of_getElem? (i := 56) rfl))) (Or.inl (hw _ (List.mem_of_getElem? (i := 40) rfl))) (by decide) (t := .int) (t' := .int) (by decide) (by decide))))
  obtain ⟨T20, X20, e20, st20⟩ := getF X17 hx hZ hown (host := "") (Or.inl (hw _ (List.mem_of_getElem? (i := 55) rfl))) Via.refl e17 c19 (g := (mkF m 57 #[.val (Value.ref a1), .val (Value.int (0 : Int32)), .val (Value.int (2 : Int32))] [(Value.ref a1), (Value.ref a1)])) rfl rfl (hb hby d5_57)
  refine own_Go.by st20 ?_
  show own_Go p.tables e below _ (T20.setTop (mkF m 60 #[.val (Value.ref a1), .val (Value.int (0 : Int32)), .val (Value.int (2 : Int32))] [(Value.int (0 : Int32)), (Value.ref a1)]))
  refine own_Go.by (fun tq kq => XS.iloadN X20.here hx rfl (hb hby d5_60) rfl kq) ?_
  show own_Go p.tables e below _ (T20.setTop (mkF m 61 #[.val (Value.ref a1), .val (Value.int (0 : Int32)), .val (Value.int (2 : Int32))] [(Value.int (0 : Int32)), (Value.int (0 : Int32)), (Value.ref a1)]))
  refine own_Go.by (fun tq kq => XS.icmpYes X20.here hx rfl (pc0 := 61) (pc' := 68) rfl (hb hby d5_61) rfl (flt (by decide : ¬ ((0 : Int32) < (0 : Int32)))).2.2.2 (by decide) (by decide) kq) ?_
  show own_Go p.tables e below _ (T20.setTop (mkF m 68 #[.val (Value.ref a1), .val (Value.int (0 : Int32)), .val (Value.int (2 : Int32))] [(Value.ref a1)]))
  refine own_Go.by (fun tq kq => XS.aloadN X20.here hx rfl (hb hby d5_68) rfl rfl kq) ?_
  show own_Go p.tables e below _ (T20.setTop (mkF m 69 #[.val (Value.ref a1), .val (Value.int (0 : Int32)), .val (Value.int (2 : Int32))] [(Value.ref a1), (Value.ref a1)]))
  obtain ⟨T21, X21, e21, st21⟩ := getF X20 hx hZ hown (host := "") (Or.inl (hw _ (List.mem_of_getElem? (i := 55) rfl))) Via.refl e20 c19 (g := (mkF m 69 #[.val (Value.ref a1), .val (Value.int (0 : Int32)), .val (Value.int (2 : Int32))] [(Value.ref a1), (Value.ref a1)])) rfl rfl (hb hby d5_69)
  refine own_Go.by st21 ?_
  show own_Go p.tables e below _ (T21.setTop (mkF m 72 #[.val (Value.ref a1), .val (Value.int (0 : Int32)), .val (Value.int (2 : Int32))] [(Value.int (0 : Int32)), (Value.ref a1)]))
  have c22 := (c16.wr W17)
  obtain ⟨T23, h23, X23, e23, W23, st23⟩ := putF X21 hx hZ hown (host := "") (Or.inl (hw _ (List.mem_of_getElem? (i := 55) rfl))) Via.refl e21 c19 c22 (Or.inl (hw _ (List.mem_of_getElem? (i := 56) rfl))) (hw _ (List.mem_of_getElem? (i := 2) rfl)) (ty := .int) (by decide) rfl rfl (g := (mkF m 72 #[.val (Value.ref a1), .val (Value.int (0 : Int32)), .val (Value.int (2 : Int32))] [(Value.int (0 : Int32)), (Value.ref a1)])) rfl rfl (hb hby d5_72)
  refine own_Go.by st23 ?_
  have N23 := Fr.snoc X23 N17 H7
  have O24 := O18.wr W23 H7
  have K24 := K18.wr W23 (Or.inl (List.mem_of_getElem? (i := 0) rfl))
  have F23 := c19.same W23
  show own_Go p.tables e below _ (T23.setTop (mkF m 75 #[.val (Value.ref a1), .val (Value.int (0 : Int32)), .val (Value.int (2 : Int32))] []))
  refine own_Go.by (fun tq kq => XS.goto X23.here hx rfl (pc0 := 75) (pc' := 146) rfl (hb hby d5_75) (by decide) (by decide) kq) ?_
  show own_Go p.tables e below _ (T23.setTop (mkF m 146 #[.val (Value.ref a1), .val (Value.int (0 : Int32)), .val (Value.int (2 : Int32))] []))
  have c25 := (c22.wr W23)
  have c26 := ((((H1.keep K8q (ninS H9 nin0)).other W13 (Or.inr (slot_ne (Or.inl (hw _ (List.mem_of_getElem? (i := 22) rfl))) (Or.inl (hw _ (List.mem_of_getElem? (i := 42) rfl))) (by decide) (t := (.array .byte)) (t' := .int) (by decide) (by decide)))).other W17 (Or.inr (slot_ne (Or.inl (hw _ (List.mem_of_getElem? (i := 22) rfl))) (Or.inl (hw _ (List.mem_of_getElem? (i := 40) rfl))) (by decide) (t := (.array .byte)) (t' := .int) (by decide) (by decide)))).other W23 (Or.inr (slot_ne (Or.inl (hw _ (List.mem_of_getElem? (i := 22) rfl))) (Or.inl (hw _ (List.mem_of_getElem? (i := 56) rfl))) (by decide) (t := (.array .byte)) (t' := .int) (by decide) (by decide))))
  have c27 := (F17.other W23 (Or.inr (slot_ne (Or.inl (hw _ (List.mem_of_getElem? (i := 40) rfl))) (Or.inl (hw _ (List.mem_of_getElem? (i := 56) rfl))) (by decide) (t := .int) (t' := .int) (by decide) (by decide))))
  have c28 := ((F13.other W17 (Or.inr (slot_ne (Or.inl (hw _ (List.mem_of_getElem? (i := 42) rfl))) (Or.inl (hw _ (List.mem_of_getElem? (i := 40) rfl))) (by decide) (t := .int) (t' := .int) (by decide) (by decide)))).other W23 (Or.inr (slot_ne (Or.inl (hw _ (List.mem_of_getElem? (i := 42) rfl))) (Or.inl (hw _ (List.mem_of_getElem? (i := 56) rfl))) (by decide) (t := .int) (t' := .int) (by decide) (by decide))))
  have c29 := ((((H6.keep K8q (ninS H9 nin0)).other W13 (Or.inr (slot_ne (Or.inl (hw _ (List.mem_of_getElem? (i := 45) rfl))) (Or.inl (hw _ (List.mem_of_getElem? (i := 42) rfl))) (by decide) (t := .int) (t' := .int) (by decide) (by decide)))).other W17 (Or.inr (slot_ne (Or.inl (hw _ (List.mem_of_getElem? (i := 45) rfl))) (Or.inl (hw _ (List.mem_of_getElem? (i := 40) rfl))) (by decide) (t := .int) (t' := .int) (by decide) (by decide)))).other W23 (Or.inr (slot_ne (Or.inl (hw _ (List.mem_of_getElem? (i := 45) rfl))) (Or.inl (hw _ (List.mem_of_getElem? (i := 56) rfl))) (by decide) (t := .int) (t' := .int) (by decide) (by decide))))
  have c30 := (((V8.other W13 (Ne.symm H9)).other W17 (Ne.symm H9)).other W23 (Ne.symm H9))
  obtain ⟨fs, hr, hrun, hended, hW, hsame⟩ := X23.leave (v := none) (fun _ => rfl)
  refine own_Go.fin (X23.returnOut hx Bd.returns (hb hby d5_146) hr) ⟨hrun, hended, _, _, rfl, ?_, ⟨_, rfl⟩, hW, hsame.mono (by decide) (by decide)⟩
  show Q5_0 Z a1 aB kB vs br h0 n0 _ T23.heap _
  rw [e23]
  exact ⟨rfl, N23, K24, c25, c26, c27, c28, c29, F23, c30⟩

theorem own_ef_5_1 (m : MethodId) (a1 : Addr) : entryFrame m #[(Value.ref a1), (Value.int (1 : Int32))] 3 = mkF m 0 #[.val (Value.ref a1), .val (Value.int (1 : Int32)), .unset] [] := by first | (simp [entryFrame, mkF, argsToLocals, Value.category]; done) | rfl
def Q5_1 (Z : State) (a1 : Addr) (aB : Addr) (kB : ClassId) (vs : List Value) (br : Int32) (h0 : Heap) (n0 : Nat) (v : Option Value) (h : Heap) (L : List Loc) : Prop := v = none ∧ Fr n0 L ∧ Keep h0 h [a1, aB] ∧ (Exa Z h a1 "com/example/plain_bastion/plainbastion/ssh/TypedText") ∧ (Fld Z h a1 "com/example/plain_bastion/plainbastion/ssh/TypedText" "bytes" "[B" (Value.ref aB)) ∧ (Fld Z h a1 "com/example/plain_bastion/plainbastion/ssh/TypedText" "length" "I" (Value.int (1 : Int32))) ∧ (Fld Z h a1 "com/example/plain_bastion/plainbastion/ssh/TypedText" "afterLength" "I" (Value.int (1 : Int32))) ∧ (Fld Z h a1 "com/example/plain_bastion/plainbastion/ssh/TypedText" "breaks" "I" (Value.int br)) ∧ (Fld Z h a1 "com/example/plain_bastion/plainbastion/ssh/TypedText" "told" "I" (Value.int (0 : Int32))) ∧ (Arv Z h aB kB .byte (256 : Int32) ((vs).take (255 : Int32).toNatClampNeg ++ ((List.range (1 : Int32).toNatClampNeg).map fun i => (vs).getD ((1 : Int32).toNatClampNeg + i) (Value.int (0 : Int32))) ++ (vs).drop ((255 : Int32).toNatClampNeg + (1 : Int32).toNatClampNeg)) (Value.int (0 : Int32)))
set_option maxRecDepth 65536 in
set_option maxHeartbeats 40000000 in
theorem rm5_1 (l : Launch) (Z : State) (a0 : Array Value) (hw : ∀ d ∈ tables_1, d.before a0 Z = true) (ws : List Jvm.Cond) (a1 : Addr) (aB : Addr) (kB : ClassId) (vs : List Value) (br : Int32) (h0 : Heap) (n0 : Nat) (O0 : Old Z n0 h0) (H0 : Exa Z h0 a1 "com/example/plain_bastion/plainbastion/ssh/TypedText") (H1 : Fld Z h0 a1 "com/example/plain_bastion/plainbastion/ssh/TypedText" "bytes" "[B" (Value.ref aB)) (H2 : Fld Z h0 a1 "com/example/plain_bastion/plainbastion/ssh/TypedText" "length" "I" (Value.int (2 : Int32))) (H3 : Fld Z h0 a1 "com/example/plain_bastion/plainbastion/ssh/TypedText" "afterLength" "I" (Value.int (0 : Int32))) (H4 : Arv Z h0 aB kB .byte (256 : Int32) vs (Value.int (0 : Int32))) (H5 : Fld Z h0 a1 "com/example/plain_bastion/plainbastion/ssh/TypedText" "told" "I" (Value.int (0 : Int32))) (H6 : Fld Z h0 a1 "com/example/plain_bastion/plainbastion/ssh/TypedText" "breaks" "I" (Value.int br)) (H7 : n0 ≤ a1) (H8 : n0 ≤ aB) (H9 : a1 ≠ aB) (hvl : vs.length = 256) :
    MetFree l (⟨"com/example/plain_bastion/plainbastion/ssh/TypedText", "moveTo", "(I)V"⟩ : MethodName) (head1 (Jvm.Cond.code (⟨"com/example/plain_bastion/plainbastion/ssh/TypedText", "moveTo", "(I)V"⟩ : MethodName) prog_61_method_20_code 3 none :: ws) ({ frames := 1, cells := 0, slots := 0, locals := 18 } : Room)) (fun a U => a = #[(Value.ref a1), (Value.int (1 : Int32))] ∧ Z.Warmed39 U.vm ∧ U.heap = h0) (fun _ _ _ _ _ => True) (fun _ U o U' => ∃ v L, o = .returned v ∧ Q5_1 Z a1 aB kB vs br h0 n0 v U'.heap L ∧ FrameEnd U o U' L ({ frames := 1, cells := 0, slots := 0, locals := 18 } : Room).cells ({ frames := 1, cells := 0, slots := 0, locals := 18 } : Room).slots) := by
  refine MetFree.of_bodySF (plainFor_of_name own_pn_com_example_plain_bastion_plainbastion_ssh_TypedText) hisR ?_
  intro p e s m args below meth c s₁ Bd hml0 hP hK
  obtain ⟨rfl, hZ, hh⟩ := hP
  have hx := Bd.exec
  have hby := Bd.bytes
  have hml : c.maxLocals = 3 := hml0
  have hown : s.vm.findClass "com/example/plain_bastion/plainbastion/ssh/TypedText" = some m.cls := findClass_of_methodNamed Bd.named
  have hnm := (name_of_methodNamed Bd.named Bd.method).1
  have X0 : Stand p l e ({ frames := 1, cells := 0, slots := 0, locals := 18 } : Room) s m #[(Value.ref a1), (Value.int (1 : Int32))] below meth c s₁ [] 0 0 := Stand.of_body Bd
  have e0 : s₁.heap = h0 := by rw [← hh, Bd.state]; rfl
  have N0 := Fr.nil n0
  have K0 := Keep.refl h0 [a1, aB]
  show own_Go p.tables e below _ (s₁.setTop (entryFrame m #[(Value.ref a1), (Value.int (1 : Int32))] 3))
  refine own_Go.by (fun tq kq => castTop (own_ef_5_1 m a1) kq) ?_
  show own_Go p.tables e below _ (s₁.setTop (mkF m 0 #[.val (Value.ref a1), .val (Value.int (1 : Int32)), .unset] []))
  refine own_Go.by (fun tq kq => XS.iloadN X0.here hx rfl (hb hby d5_0) rfl kq) ?_
  show own_Go p.tables e below _ (s₁.setTop (mkF m 1 #[.val (Value.ref a1), .val (Value.int (1 : Int32)), .unset] [(Value.int (1 : Int32))]))
  refine own_Go.by (fun tq kq => XS.aloadN X0.here hx rfl (hb hby d5_1) rfl rfl kq) ?_
  show own_Go p.tables e below _ (s₁.setTop (mkF m 2 #[.val (Value.ref a1), .val (Value.int (1 : Int32)), .unset] [(Value.ref a1), (Value.int (1 : Int32))]))
  obtain ⟨T1, X1, e1, st1⟩ := getF X0 hx hZ hown (host := "") (Or.inl (hw _ (List.mem_of_getElem? (i := 39) rfl))) Via.refl e0 H2 (g := (mkF m 2 #[.val (Value.ref a1), .val (Value.int (1 : Int32)), .unset] [(Value.ref a1), (Value.int (1 : Int32))])) rfl rfl (hb hby d5_2)
  refine own_Go.by st1 ?_
  show own_Go p.tables e below _ (T1.setTop (mkF m 5 #[.val (Value.ref a1), .val (Value.int (1 : Int32)), .unset] [(Value.int (2 : Int32)), (Value.int (1 : Int32))]))
  refine own_Go.by (fun tq kq => XS.icmpNo X1.here hx rfl (hb hby d5_5) rfl (tlt (by decide : (1 : Int32) < (2 : Int32))).2.1 kq) ?_
  show own_Go p.tables e below _ (T1.setTop (mkF m 8 #[.val (Value.ref a1), .val (Value.int (1 : Int32)), .unset] []))
  refine own_Go.by (fun tq kq => XS.aloadN X1.here hx rfl (hb hby d5_8) rfl rfl kq) ?_
  show own_Go p.tables e below _ (T1.setTop (mkF m 9 #[.val (Value.ref a1), .val (Value.int (1 : Int32)), .unset] [(Value.ref a1)]))
  obtain ⟨T2, X2, e2, st2⟩ := getF X1 hx hZ hown (host := "") (Or.inl (hw _ (List.mem_of_getElem? (i := 39) rfl))) Via.refl e1 H2 (g := (mkF m 9 #[.val (Value.ref a1), .val (Value.int (1 : Int32)), .unset] [(Value.ref a1)])) rfl rfl (hb hby d5_9)
  refine own_Go.by st2 ?_
  show own_Go p.tables e below _ (T2.setTop (mkF m 12 #[.val (Value.ref a1), .val (Value.int (1 : Int32)), .unset] [(Value.int (2 : Int32))]))
  refine own_Go.by (fun tq kq => XS.iloadN X2.here hx rfl (hb hby d5_12) rfl kq) ?_
  show own_Go p.tables e below _ (T2.setTop (mkF m 13 #[.val (Value.ref a1), .val (Value.int (1 : Int32)), .unset] [(Value.int (1 : Int32)), (Value.int (2 : Int32))]))
  refine own_Go.by (fun tq kq => XS.isub X2.here hx rfl (hb hby d5_13) rfl kq) ?_
  show own_Go p.tables e below _ (T2.setTop (mkF m 14 #[.val (Value.ref a1), .val (Value.int (1 : Int32)), .unset] [(Value.int (1 : Int32))]))
  refine own_Go.by (fun tq kq => XS.istoreN X2.here hx rfl (hb hby d5_14) rfl (l' := #[.val (Value.ref a1), .val (Value.int (1 : Int32)), .val (Value.int (1 : Int32))]) rfl kq) ?_
  show own_Go p.tables e below _ (T2.setTop (mkF m 15 #[.val (Value.ref a1), .val (Value.int (1 : Int32)), .val (Value.int (1 : Int32))] []))
  refine own_Go.by (fun tq kq => XS.aloadN X2.here hx rfl (hb hby d5_15) rfl rfl kq) ?_
  show own_Go p.tables e below _ (T2.setTop (mkF m 16 #[.val (Value.ref a1), .val (Value.int (1 : Int32)), .val (Value.int (1 : Int32))] [(Value.ref a1)]))
  obtain ⟨T3, X3, e3, st3⟩ := getF X2 hx hZ hown (host := "") (Or.inl (hw _ (List.mem_of_getElem? (i := 21) rfl))) Via.refl e2 H1 (g := (mkF m 16 #[.val (Value.ref a1), .val (Value.int (1 : Int32)), .val (Value.int (1 : Int32))] [(Value.ref a1)])) rfl rfl (hb hby d5_16)
  refine own_Go.by st3 ?_
  show own_Go p.tables e below _ (T3.setTop (mkF m 19 #[.val (Value.ref a1), .val (Value.int (1 : Int32)), .val (Value.int (1 : Int32))] [(Value.ref aB)]))
  refine own_Go.by (fun tq kq => XS.iloadN X3.here hx rfl (hb hby d5_19) rfl kq) ?_
  show own_Go p.tables e below _ (T3.setTop (mkF m 20 #[.val (Value.ref a1), .val (Value.int (1 : Int32)), .val (Value.int (1 : Int32))] [(Value.int (1 : Int32)), (Value.ref aB)]))
  refine own_Go.by (fun tq kq => XS.aloadN X3.here hx rfl (hb hby d5_20) rfl rfl kq) ?_
  show own_Go p.tables e below _ (T3.setTop (mkF m 21 #[.val (Value.ref a1), .val (Value.int (1 : Int32)), .val (Value.int (1 : Int32))] [(Value.ref a1), (Value.int (1 : Int32)), (Value.ref aB)]))
  obtain ⟨T4, X4, e4, st4⟩ := getF X3 hx hZ hown (host := "") (Or.inl (hw _ (List.mem_of_getElem? (i := 21) rfl))) Via.refl e3 H1 (g := (mkF m 21 #[.val (Value.ref a1), .val (Value.int (1 : Int32)), .val (Value.int (1 : Int32))] [(Value.ref a1), (Value.int (1 : Int32)), (Value.ref aB)])) rfl rfl (hb hby d5_21)
  refine own_Go.by st4 ?_
  show own_Go p.tables e below _ (T4.setTop (mkF m 24 #[.val (Value.ref a1), .val (Value.int (1 : Int32)), .val (Value.int (1 : Int32))] [(Value.ref aB), (Value.int (1 : Int32)), (Value.ref aB)]))
  refine own_Go.by (fun tq kq => XS.aloadN X4.here hx rfl (hb hby d5_24) rfl rfl kq) ?_
  show own_Go p.tables e below _ (T4.setTop (mkF m 25 #[.val (Value.ref a1), .val (Value.int (1 : Int32)), .val (Value.int (1 : Int32))] [(Value.ref a1), (Value.ref aB), (Value.int (1 : Int32)), (Value.ref aB)]))
  obtain ⟨T5, X5, e5, st5⟩ := getF X4 hx hZ hown (host := "") (Or.inl (hw _ (List.mem_of_getElem? (i := 21) rfl))) Via.refl e4 H1 (g := (mkF m 25 #[.val (Value.ref a1), .val (Value.int (1 : Int32)), .val (Value.int (1 : Int32))] [(Value.ref a1), (Value.ref aB), (Value.int (1 : Int32)), (Value.ref aB)])) rfl rfl (hb hby d5_25)
  refine own_Go.by st5 ?_
  show own_Go p.tables e below _ (T5.setTop (mkF m 28 #[.val (Value.ref a1), .val (Value.int (1 : Int32)), .val (Value.int (1 : Int32))] [(Value.ref aB), (Value.ref aB), (Value.int (1 : Int32)), (Value.ref aB)]))
  obtain ⟨cl6, Ar6, q6, S6, M6, Hh6, G6⟩ := id H4
  refine own_Go.by (fun tq kq => X5.arraylength hx (by rw [e5]; exact Ar6.1) (State.isArrayOf_alike hZ.alike Ar6.2.1) (g := (mkF m 28 #[.val (Value.ref a1), .val (Value.int (1 : Int32)), .val (Value.int (1 : Int32))] [(Value.ref aB), (Value.ref aB), (Value.int (1 : Int32)), (Value.ref aB)])) rfl rfl (hb hby d5_28) _ kq) ?_
  rw [len_of S6 M6]
  show own_Go p.tables e below _ (T5.setTop (mkF m 29 #[.val (Value.ref a1), .val (Value.int (1 : Int32)), .val (Value.int (1 : Int32))] [(Value.int (256 : Int32)), (Value.ref aB), (Value.int (1 : Int32)), (Value.ref aB)]))
  refine own_Go.by (fun tq kq => XS.aloadN X5.here hx rfl (hb hby d5_29) rfl rfl kq) ?_
  show own_Go p.tables e below _ (T5.setTop (mkF m 30 #[.val (Value.ref a1), .val (Value.int (1 : Int32)), .val (Value.int (1 : Int32))] [(Value.ref a1), (Value.int (256 : Int32)), (Value.ref aB), (Value.int (1 : Int32)), (Value.ref aB)]))
  obtain ⟨T7, X7, e7, st7⟩ := getF X5 hx hZ hown (host := "") (Or.inl (hw _ (List.mem_of_getElem? (i := 41) rfl))) Via.refl e5 H3 (g := (mkF m 30 #[.val (Value.ref a1), .val (Value.int (1 : Int32)), .val (Value.int (1 : Int32))] [(Value.ref a1), (Value.int (256 : Int32)), (Value.ref aB), (Value.int (1 : Int32)), (Value.ref aB)])) rfl rfl (hb hby d5_30)
  refine own_Go.by st7 ?_
  show own_Go p.tables e below _ (T7.setTop (mkF m 33 #[.val (Value.ref a1), .val (Value.int (1 : Int32)), .val (Value.int (1 : Int32))] [(Value.int (0 : Int32)), (Value.int (256 : Int32)), (Value.ref aB), (Value.int (1 : Int32)), (Value.ref aB)]))
  refine own_Go.by (fun tq kq => XS.isub X7.here hx rfl (hb hby d5_33) rfl kq) ?_
  show own_Go p.tables e below _ (T7.setTop (mkF m 34 #[.val (Value.ref a1), .val (Value.int (1 : Int32)), .val (Value.int (1 : Int32))] [(Value.int (256 : Int32)), (Value.ref aB), (Value.int (1 : Int32)), (Value.ref aB)]))
  refine own_Go.by (fun tq kq => XS.iloadN X7.here hx rfl (hb hby d5_34) rfl kq) ?_
  show own_Go p.tables e below _ (T7.setTop (mkF m 35 #[.val (Value.ref a1), .val (Value.int (1 : Int32)), .val (Value.int (1 : Int32))] [(Value.int (1 : Int32)), (Value.int (256 : Int32)), (Value.ref aB), (Value.int (1 : Int32)), (Value.ref aB)]))
  refine own_Go.by (fun tq kq => XS.isub X7.here hx rfl (hb hby d5_35) rfl kq) ?_
  show own_Go p.tables e below _ (T7.setTop (mkF m 36 #[.val (Value.ref a1), .val (Value.int (1 : Int32)), .val (Value.int (1 : Int32))] [(Value.int (255 : Int32)), (Value.ref aB), (Value.int (1 : Int32)), (Value.ref aB)]))
  refine own_Go.by (fun tq kq => XS.iloadN X7.here hx rfl (hb hby d5_36) rfl kq) ?_
  show own_Go p.tables e below _ (T7.setTop (mkF m 37 #[.val (Value.ref a1), .val (Value.int (1 : Int32)), .val (Value.int (1 : Int32))] [(Value.int (1 : Int32)), (Value.int (255 : Int32)), (Value.ref aB), (Value.int (1 : Int32)), (Value.ref aB)]))
  obtain ⟨T8, h8, Lc8, X8, e8, N8, K8q, V8, st8⟩ := cpA X7 hx hZ hown (hw _ (List.mem_of_getElem? (i := 51) rfl)) (hw _ (List.mem_of_getElem? (i := 54) rfl)) (hw _ (List.mem_of_getElem? (i := 52) rfl)) (hw _ (List.mem_of_getElem? (i := 53) rfl)) e7 H4 H4 (us := ((List.range (1 : Int32).toNatClampNeg).map fun i => (vs).getD ((1 : Int32).toNatClampNeg + i) (Value.int (0 : Int32)))) (Or.inl ⟨rfl, rfl⟩) (by decide : ¬ ((1 : Int32) < (0 : Int32))) (by decide : ¬ ((255 : Int32) < (0 : Int32))) (by decide : ¬ ((1 : Int32) < (0 : Int32))) (by decide : (1 : Int32).toNatClampNeg + (1 : Int32).toNatClampNeg ≤ (256 : Int32).toNatClampNeg) (by decide : (255 : Int32).toNatClampNeg + (1 : Int32).toNatClampNeg ≤ (256 : Int32).toNatClampNeg) rfl (by rw [hvl]; decide) N0 H8 (g := (mkF m 37 #[.val (Value.ref a1), .val (Value.int (1 : Int32)), .val (Value.int (1 : Int32))] [(Value.int (1 : Int32)), (Value.int (255 : Int32)), (Value.ref aB), (Value.int (1 : Int32)), (Value.ref aB)])) rfl (by rw [hml]; rfl) rfl (hb hby d5_37) (by decide) (W := 0) (by show 2 * 0 + _ ≤ _; exact Nat.le_of_eq rfl) (by decide)
  refine own_Go.by st8 ?_
  have O9 := O0.keep K8q (allS H8 all0)
  have K9 := K0.trans K8q (allS (Or.inl (List.mem_of_getElem? (i := 1) rfl)) all0)
  show own_Go p.tables e below _ (T8.setTop (mkF m 40 #[.val (Value.ref a1), .val (Value.int (1 : Int32)), .val (Value.int (1 : Int32))] []))
  refine own_Go.by (fun tq kq => XS.aloadN X8.here hx rfl (hb hby d5_40) rfl rfl kq) ?_
  show own_Go p.tables e below _ (T8.setTop (mkF m 41 #[.val (Value.ref a1), .val (Value.int (1 : Int32)), .val (Value.int (1 : Int32))] [(Value.ref a1)]))
  refine own_Go.by (fun tq kq => XS.dup X8.here hx rfl (hb hby d5_41) rfl rfl kq) ?_
  show own_Go p.tables e below _ (T8.setTop (mkF m 42 #[.val (Value.ref a1), .val (Value.int (1 : Int32)), .val (Value.int (1 : Int32))] [(Value.ref a1), (Value.ref a1)]))
  have c10 := (H3.keep K8q (ninS H9 nin0))
  obtain ⟨T11, X11, e11, st11⟩ := getF X8 hx hZ hown (host := "") (Or.inl (hw _ (List.mem_of_getElem? (i := 41) rfl))) Via.refl e8 c10 (g := (mkF m 42 #[.val (Value.ref a1), .val (Value.int (1 : Int32)), .val (Value.int (1 : Int32))] [(Value.ref a1), (Value.ref a1)])) rfl rfl (hb hby d5_42)
  refine own_Go.by st11 ?_
  show own_Go p.tables e below _ (T11.setTop (mkF m 45 #[.val (Value.ref a1), .val (Value.int (1 : Int32)), .val (Value.int (1 : Int32))] [(Value.int (0 : Int32)), (Value.ref a1)]))
  refine own_Go.by (fun tq kq => XS.iloadN X11.here hx rfl (hb hby d5_45) rfl kq) ?_
  show own_Go p.tables e below _ (T11.setTop (mkF m 46 #[.val (Value.ref a1), .val (Value.int (1 : Int32)), .val (Value.int (1 : Int32))] [(Value.int (1 : Int32)), (Value.int (0 : Int32)), (Value.ref a1)]))
  refine own_Go.by (fun tq kq => XS.iadd X11.here hx rfl (hb hby d5_46) rfl kq) ?_
  show own_Go p.tables e below _ (T11.setTop (mkF m 47 #[.val (Value.ref a1), .val (Value.int (1 : Int32)), .val (Value.int (1 : Int32))] [(Value.int (1 : Int32)), (Value.ref a1)]))
  have c12 := (H0.keep K8q)
  obtain ⟨T13, h13, X13, e13, W13, st13⟩ := putF X11 hx hZ hown (host := "") (Or.inl (hw _ (List.mem_of_getElem? (i := 41) rfl))) Via.refl e11 c10 c12 (Or.inl (hw _ (List.mem_of_getElem? (i := 42) rfl))) (hw _ (List.mem_of_getElem? (i := 2) rfl)) (ty := .int) (by decide) rfl rfl (g := (mkF m 47 #[.val (Value.ref a1), .val (Value.int (1 : Int32)), .val (Value.int (1 : Int32))] [(Value.int (1 : Int32)), (Value.ref a1)])) rfl rfl (hb hby d5_47)
  refine own_Go.by st13 ?_
  have N13 := Fr.snoc X13 N8 H7
  have O14 := O9.wr W13 H7
  have K14 := K9.wr W13 (Or.inl (List.mem_of_getElem? (i := 0) rfl))
  have F13 := c10.same W13
  show own_Go p.tables e below _ (T13.setTop (mkF m 50 #[.val (Value.ref a1), .val (Value.int (1 : Int32)), .val (Value.int (1 : Int32))] []))
  refine own_Go.by (fun tq kq => XS.aloadN X13.here hx rfl (hb hby d5_50) rfl rfl kq) ?_
  show own_Go p.tables e below _ (T13.setTop (mkF m 51 #[.val (Value.ref a1), .val (Value.int (1 : Int32)), .val (Value.int (1 : Int32))] [(Value.ref a1)]))
  refine own_Go.by (fun tq kq => XS.iloadN X13.here hx rfl (hb hby d5_51) rfl kq) ?_
  show own_Go p.tables e below _ (T13.setTop (mkF m 52 #[.val (Value.ref a1), .val (Value.int (1 : Int32)), .val (Value.int (1 : Int32))] [(Value.int (1 : Int32)), (Value.ref a1)]))
  have c15 := ((H2.keep K8q (ninS H9 nin0)).other W13 (Or.inr (slot_ne (Or.inl (hw _ (List.mem_of_getElem? (i := 40) rfl))) (Or.inl (hw _ (List.mem_of_getElem? (i := 42) rfl))) (by decide) (t := .int) (t' := .int) (by decide) (by decide))))
  have c16 := (c12.wr W13)
  obtain ⟨T17, h17, X17, e17, W17, st17⟩ := putF X13 hx hZ hown (host := "") (Or.inl (hw _ (List.mem_of_getElem? (i := 39) rfl))) Via.refl e13 c15 c16 (Or.inl (hw _ (List.mem_of_getElem? (i := 40) rfl))) (hw _ (List.mem_of_getElem? (i := 2) rfl)) (ty := .int) (by decide) rfl rfl (g := (mkF m 52 #[.val (Value.ref a1), .val (Value.int (1 : Int32)), .val (Value.int (1 : Int32))] [(Value.int (1 : Int32)), (Value.ref a1)])) rfl rfl (hb hby d5_52)
  refine own_Go.by st17 ?_
  have N17 := Fr.snoc X17 N13 H7
  have O18 := O14.wr W17 H7
  have K18 := K14.wr W17 (Or.inl (List.mem_of_getElem? (i := 0) rfl))
  have F17 := c15.same W17
  show own_Go p.tables e below _ (T17.setTop (mkF m 55 #[.val (Value.ref a1), .val (Value.int (1 : Int32)), .val (Value.int (1 : Int32))] []))
  refine own_Go.by (fun tq kq => XS.aloadN X17.here hx rfl (hb hby d5_55) rfl rfl kq) ?_
  show own_Go p.tables e below _ (T17.setTop (mkF m 56 #[.val (Value.ref a1), .val (Value.int (1 : Int32)), .val (Value.int (1 : Int32))] [(Value.ref a1)]))
  refine own_Go.by (fun tq kq => XS.aloadN X17.here hx rfl (hb hby d5_56) rfl rfl kq) ?_
  show own_Go p.tables e below _ (T17.setTop (mkF m 57 #[.val (Value.ref a1), .val (Value.int (1 : Int32)), .val (Value.int (1 : Int32))] [(Value.ref a1), (Value.ref a1)]))
  have c19 := (((H5.keep K8q (ninS H9 nin0)).other W13 (Or.inr (slot_ne (Or.inl (hw _ (List.mem_of_getElem? (i := 56) rfl))) (Or.inl (hw _ (List.mem_of_getElem? (i := 42) rfl))) (by decide) (t := .int) (t' := .int) (by decide) (by decide)))).other W17 (Or.inr (slot_ne (Or.inl (hw _ (List.mem_of_getElem? (i := 56) rfl))) (Or.inl (hw _ (List.mem_of_getElem? (i := 40) rfl))) (by decide) (t := .int) (t' := .int) (by decide) (by decide))))
  obtain ⟨T20, X20, e20, st20⟩ := getF X17 hx hZ hown (host := "") (Or.inl (hw _ (List.mem_of_getElem? (i := 55) rfl))) Via.refl e17 c19 (g := (mkF m 57 #[.val (Value.ref a1), .val (Value.int (1 : Int32)), .val (Value.int (1 : Int32))] [(Value.ref a1), (Value.ref a1)])) rfl rfl (hb hby d5_57)
  refine own_Go.by st20 ?_
  show own_Go p.tables e below _ (T20.setTop (mkF m 60 #[.val (Value.ref a1), .val (Value.int (1 : Int32)), .val (Value.int (1 : Int32))] [(Value.int (0 : Int32)), (Value.ref a1)]))
  refine own_Go.by (fun tq kq => XS.iloadN X20.here hx rfl (hb hby d5_60) rfl kq) ?_
  show own_Go p.tables e below _ (T20.setTop (mkF m 61 #[.val (Value.ref a1), .val (Value.int (1 : Int32)), .val (Value.int (1 : Int32))] [(Value.int (1 : Int32)), (Value.int (0 : Int32)), (Value.ref a1)]))
  refine own_Go.by (fun tq kq => XS.icmpYes X20.here hx rfl (pc0 := 61) (pc' := 68) rfl (hb hby d5_61) rfl (flt (by decide : ¬ ((1 : Int32) < (0 : Int32)))).2.2.2 (by decide) (by decide) kq) ?_
  show own_Go p.tables e below _ (T20.setTop (mkF m 68 #[.val (Value.ref a1), .val (Value.int (1 : Int32)), .val (Value.int (1 : Int32))] [(Value.ref a1)]))
  refine own_Go.by (fun tq kq => XS.aloadN X20.here hx rfl (hb hby d5_68) rfl rfl kq) ?_
  show own_Go p.tables e below _ (T20.setTop (mkF m 69 #[.val (Value.ref a1), .val (Value.int (1 : Int32)), .val (Value.int (1 : Int32))] [(Value.ref a1), (Value.ref a1)]))
  obtain ⟨T21, X21, e21, st21⟩ := getF X20 hx hZ hown (host := "") (Or.inl (hw _ (List.mem_of_getElem? (i := 55) rfl))) Via.refl e20 c19 (g := (mkF m 69 #[.val (Value.ref a1), .val (Value.int (1 : Int32)), .val (Value.int (1 : Int32))] [(Value.ref a1), (Value.ref a1)])) rfl rfl (hb hby d5_69)
  refine own_Go.by st21 ?_
  show own_Go p.tables e below _ (T21.setTop (mkF m 72 #[.val (Value.ref a1), .val (Value.int (1 : Int32)), .val (Value.int (1 : Int32))] [(Value.int (0 : Int32)), (Value.ref a1)]))
  have c22 := (c16.wr W17)
  obtain ⟨T23, h23, X23, e23, W23, st23⟩ := putF X21 hx hZ hown (host := "") (Or.inl (hw _ (List.mem_of_getElem? (i := 55) rfl))) Via.refl e21 c19 c22 (Or.inl (hw _ (List.mem_of_getElem? (i := 56) rfl))) (hw _ (List.mem_of_getElem? (i := 2) rfl)) (ty := .int) (by decide) rfl rfl (g := (mkF m 72 #[.val (Value.ref a1), .val (Value.int (1 : Int32)), .val (Value.int (1 : Int32))] [(Value.int (0 : Int32)), (Value.ref a1)])) rfl rfl (hb hby d5_72)
  refine own_Go.by st23 ?_
  have N23 := Fr.snoc X23 N17 H7
  have O24 := O18.wr W23 H7
  have K24 := K18.wr W23 (Or.inl (List.mem_of_getElem? (i := 0) rfl))
  have F23 := c19.same W23
  show own_Go p.tables e below _ (T23.setTop (mkF m 75 #[.val (Value.ref a1), .val (Value.int (1 : Int32)), .val (Value.int (1 : Int32))] []))
  refine own_Go.by (fun tq kq => XS.goto X23.here hx rfl (pc0 := 75) (pc' := 146) rfl (hb hby d5_75) (by decide) (by decide) kq) ?_
  show own_Go p.tables e below _ (T23.setTop (mkF m 146 #[.val (Value.ref a1), .val (Value.int (1 : Int32)), .val (Value.int (1 : Int32))] []))
  have c25 := (c22.wr W23)
  have c26 := ((((H1.keep K8q (ninS H9 nin0)).other W13 (Or.inr (slot_ne (Or.inl (hw _ (List.mem_of_getElem? (i := 22) rfl))) (Or.inl (hw _ (List.mem_of_getElem? (i := 42) rfl))) (by decide) (t := (.array .byte)) (t' := .int) (by decide) (by decide)))).other W17 (Or.inr (slot_ne (Or.inl (hw _ (List.mem_of_getElem? (i := 22) rfl))) (Or.inl (hw _ (List.mem_of_getElem? (i := 40) rfl))) (by decide) (t := (.array .byte)) (t' := .int) (by decide) (by decide)))).other W23 (Or.inr (slot_ne (Or.inl (hw _ (List.mem_of_getElem? (i := 22) rfl))) (Or.inl (hw _ (List.mem_of_getElem? (i := 56) rfl))) (by decide) (t := (.array .byte)) (t' := .int) (by decide) (by decide))))
  have c27 := (F17.other W23 (Or.inr (slot_ne (Or.inl (hw _ (List.mem_of_getElem? (i := 40) rfl))) (Or.inl (hw _ (List.mem_of_getElem? (i := 56) rfl))) (by decide) (t := .int) (t' := .int) (by decide) (by decide))))
  have c28 := ((F13.other W17 (Or.inr (slot_ne (Or.inl (hw _ (List.mem_of_getElem? (i := 42) rfl))) (Or.inl (hw _ (List.mem_of_getElem? (i := 40) rfl))) (by decide) (t := .int) (t' := .int) (by decide) (by decide)))).other W23 (Or.inr (slot_ne (Or.inl (hw _ (List.mem_of_getElem? (i := 42) rfl))) (Or.inl (hw _ (List.mem_of_getElem? (i := 56) rfl))) (by decide) (t := .int) (t' := .int) (by decide) (by decide))))
  have c29 := ((((H6.keep K8q (ninS H9 nin0)).other W13 (Or.inr (slot_ne (Or.inl (hw _ (List.mem_of_getElem? (i := 45) rfl))) (Or.inl (hw _ (List.mem_of_getElem? (i := 42) rfl))) (by decide) (t := .int) (t' := .int) (by decide) (by decide)))).other W17 (Or.inr (slot_ne (Or.inl (hw _ (List.mem_of_getElem? (i := 45) rfl))) (Or.inl (hw _ (List.mem_of_getElem? (i := 40) rfl))) (by decide) (t := .int) (t' := .int) (by decide) (by decide)))).other W23 (Or.inr (slot_ne (Or.inl (hw _ (List.mem_of_getElem? (i := 45) rfl))) (Or.inl (hw _ (List.mem_of_getElem? (i := 56) rfl))) (by decide) (t := .int) (t' := .int) (by decide) (by decide))))
  have c30 := (((V8.other W13 (Ne.symm H9)).other W17 (Ne.symm H9)).other W23 (Ne.symm H9))
  obtain ⟨fs, hr, hrun, hended, hW, hsame⟩ := X23.leave (v := none) (fun _ => rfl)
  refine own_Go.fin (X23.returnOut hx Bd.returns (hb hby d5_146) hr) ⟨hrun, hended, _, _, rfl, ?_, ⟨_, rfl⟩, hW, hsame.mono (by decide) (by decide)⟩
  show Q5_1 Z a1 aB kB vs br h0 n0 _ T23.heap _
  rw [e23]
  exact ⟨rfl, N23, K24, c25, c26, c27, c28, c29, F23, c30⟩

theorem d5_78 : decode prog_61_method_20_code 78 = .ok (.iload_n 1, 1) := by decide +kernel
theorem d5_79 : decode prog_61_method_20_code 79 = .ok (.aload_n 0, 1) := by decide +kernel
theorem d5_80 : decode prog_61_method_20_code 80 = .ok (.getfield 38, 3) := by decide +kernel
theorem d5_83 : decode prog_61_method_20_code 83 = .ok (.if_icmp .le 63, 3) := by decide +kernel
theorem own_ef_5_2 (m : MethodId) (a1 : Addr) : entryFrame m #[(Value.ref a1), (Value.int (2 : Int32))] 3 = mkF m 0 #[.val (Value.ref a1), .val (Value.int (2 : Int32)), .unset] [] := by first | (simp [entryFrame, mkF, argsToLocals, Value.category]; done) | rfl
def Q5_2 (Z : State) (a1 : Addr) (aB : Addr) (kB : ClassId) (vs : List Value) (br : Int32) (h0 : Heap) (n0 : Nat) (v : Option Value) (h : Heap) (L : List Loc) : Prop := v = none ∧ Fr n0 L ∧ h = h0
set_option maxRecDepth 65536 in
set_option maxHeartbeats 40000000 in
theorem rm5_2 (l : Launch) (Z : State) (a0 : Array Value) (hw : ∀ d ∈ tables_1, d.before a0 Z = true) (ws : List Jvm.Cond) (a1 : Addr) (aB : Addr) (kB : ClassId) (vs : List Value) (br : Int32) (h0 : Heap) (n0 : Nat) (O0 : Old Z n0 h0) (H0 : Exa Z h0 a1 "com/example/plain_bastion/plainbastion/ssh/TypedText") (H1 : Fld Z h0 a1 "com/example/plain_bastion/plainbastion/ssh/TypedText" "bytes" "[B" (Value.ref aB)) (H2 : Fld Z h0 a1 "com/example/plain_bastion/plainbastion/ssh/TypedText" "length" "I" (Value.int (2 : Int32))) (H3 : Fld Z h0 a1 "com/example/plain_bastion/plainbastion/ssh/TypedText" "afterLength" "I" (Value.int (0 : Int32))) (H4 : Arv Z h0 aB kB .byte (256 : Int32) vs (Value.int (0 : Int32))) (H5 : Fld Z h0 a1 "com/example/plain_bastion/plainbastion/ssh/TypedText" "told" "I" (Value.int (0 : Int32))) (H6 : Fld Z h0 a1 "com/example/plain_bastion/plainbastion/ssh/TypedText" "breaks" "I" (Value.int br)) (H7 : n0 ≤ a1) (H8 : n0 ≤ aB) (H9 : a1 ≠ aB) (hvl : vs.length = 256) :
    MetFree l (⟨"com/example/plain_bastion/plainbastion/ssh/TypedText", "moveTo", "(I)V"⟩ : MethodName) (head1 (Jvm.Cond.code (⟨"com/example/plain_bastion/plainbastion/ssh/TypedText", "moveTo", "(I)V"⟩ : MethodName) prog_61_method_20_code 3 none :: ws) ({ frames := 0, cells := 0, slots := 0, locals := 0 } : Room)) (fun a U => a = #[(Value.ref a1), (Value.int (2 : Int32))] ∧ Z.Warmed39 U.vm ∧ U.heap = h0) (fun _ _ _ _ _ => True) (fun _ U o U' => ∃ v L, o = .returned v ∧ Q5_2 Z a1 aB kB vs br h0 n0 v U'.heap L ∧ FrameEnd U o U' L ({ frames := 0, cells := 0, slots := 0, locals := 0 } : Room).cells ({ frames := 0, cells := 0, slots := 0, locals := 0 } : Room).slots) := by
  refine MetFree.of_bodySF (plainFor_of_name own_pn_com_example_plain_bastion_plainbastion_ssh_TypedText) hisR ?_
  intro p e s m args below meth c s₁ Bd hml0 hP hK
  obtain ⟨rfl, hZ, hh⟩ := hP
  have hx := Bd.exec
  have hby := Bd.bytes
  have hml : c.maxLocals = 3 := hml0
  have hown : s.vm.findClass "com/example/plain_bastion/plainbastion/ssh/TypedText" = some m.cls := findClass_of_methodNamed Bd.named
  have hnm := (name_of_methodNamed Bd.named Bd.method).1
  have X0 : Stand p l e ({ frames := 0, cells := 0, slots := 0, locals := 0 } : Room) s m #[(Value.ref a1), (Value.int (2 : Int32))] below meth c s₁ [] 0 0 := Stand.of_body Bd
  have e0 : s₁.heap = h0 := by rw [← hh, Bd.state]; rfl
  have N0 := Fr.nil n0
  have K0 : Keep h0 h0 [] := Keep.refl h0 []
  show own_Go p.tables e below _ (s₁.setTop (entryFrame m #[(Value.ref a1), (Value.int (2 : Int32))] 3))
  refine own_Go.by (fun tq kq => castTop (own_ef_5_2 m a1) kq) ?_
  show own_Go p.tables e below _ (s₁.setTop (mkF m 0 #[.val (Value.ref a1), .val (Value.int (2 : Int32)), .unset] []))
  refine own_Go.by (fun tq kq => XS.iloadN X0.here hx rfl (hb hby d5_0) rfl kq) ?_
  show own_Go p.tables e below _ (s₁.setTop (mkF m 1 #[.val (Value.ref a1), .val (Value.int (2 : Int32)), .unset] [(Value.int (2 : Int32))]))
  refine own_Go.by (fun tq kq => XS.aloadN X0.here hx rfl (hb hby d5_1) rfl rfl kq) ?_
  show own_Go p.tables e below _ (s₁.setTop (mkF m 2 #[.val (Value.ref a1), .val (Value.int (2 : Int32)), .unset] [(Value.ref a1), (Value.int (2 : Int32))]))
  obtain ⟨T1, X1, e1, st1⟩ := getF X0 hx hZ hown (host := "") (Or.inl (hw _ (List.mem_of_getElem? (i := 39) rfl))) Via.refl e0 H2 (g := (mkF m 2 #[.val (Value.ref a1), .val (Value.int (2 : Int32)), .unset] [(Value.ref a1), (Value.int (2 : Int32))])) rfl rfl (hb hby d5_2)
  refine own_Go.by st1 ?_
  show own_Go p.tables e below _ (T1.setTop (mkF m 5 #[.val (Value.ref a1), .val (Value.int (2 : Int32)), .unset] [(Value.int (2 : Int32)), (Value.int (2 : Int32))]))
  refine own_Go.by (fun tq kq => XS.icmpYes X1.here hx rfl (pc0 := 5) (pc' := 78) rfl (hb hby d5_5) rfl (flt (by decide : ¬ ((2 : Int32) < (2 : Int32)))).2.1 (by decide) (by decide) kq) ?_
  show own_Go p.tables e below _ (T1.setTop (mkF m 78 #[.val (Value.ref a1), .val (Value.int (2 : Int32)), .unset] []))
  refine own_Go.by (fun tq kq => XS.iloadN X1.here hx rfl (hb hby d5_78) rfl kq) ?_
  show own_Go p.tables e below _ (T1.setTop (mkF m 79 #[.val (Value.ref a1), .val (Value.int (2 : Int32)), .unset] [(Value.int (2 : Int32))]))
  refine own_Go.by (fun tq kq => XS.aloadN X1.here hx rfl (hb hby d5_79) rfl rfl kq) ?_
  show own_Go p.tables e below _ (T1.setTop (mkF m 80 #[.val (Value.ref a1), .val (Value.int (2 : Int32)), .unset] [(Value.ref a1), (Value.int (2 : Int32))]))
  obtain ⟨T2, X2, e2, st2⟩ := getF X1 hx hZ hown (host := "") (Or.inl (hw _ (List.mem_of_getElem? (i := 39) rfl))) Via.refl e1 H2 (g := (mkF m 80 #[.val (Value.ref a1), .val (Value.int (2 : Int32)), .unset] [(Value.ref a1), (Value.int (2 : Int32))])) rfl rfl (hb hby d5_80)
  refine own_Go.by st2 ?_
  show own_Go p.tables e below _ (T2.setTop (mkF m 83 #[.val (Value.ref a1), .val (Value.int (2 : Int32)), .unset] [(Value.int (2 : Int32)), (Value.int (2 : Int32))]))
  refine own_Go.by (fun tq kq => XS.icmpYes X2.here hx rfl (pc0 := 83) (pc' := 146) rfl (hb hby d5_83) rfl (flt (by decide : ¬ ((2 : Int32) < (2 : Int32)))).2.2.2 (by decide) (by decide) kq) ?_
  show own_Go p.tables e below _ (T2.setTop (mkF m 146 #[.val (Value.ref a1), .val (Value.int (2 : Int32)), .unset] []))
  obtain ⟨fs, hr, hrun, hended, hW, hsame⟩ := X2.leave (v := none) (fun _ => rfl)
  refine own_Go.fin (X2.returnOut hx Bd.returns (hb hby d5_146) hr) ⟨hrun, hended, _, _, rfl, ?_, ⟨_, rfl⟩, hW, hsame.mono (by decide) (by decide)⟩
  show Q5_2 Z a1 aB kB vs br h0 n0 _ T2.heap _
  rw [e2]
  exact ⟨rfl, N0, rfl⟩

theorem d6_0 : decode prog_61_method_19_code 0 = .ok (.iload_n 1, 1) := by decide +kernel
theorem d6_1 : decode prog_61_method_19_code 1 = .ok (.aload_n 0, 1) := by decide +kernel
theorem d6_2 : decode prog_61_method_19_code 2 = .ok (.getfield 38, 3) := by decide +kernel
theorem d6_5 : decode prog_61_method_19_code 5 = .ok (.if_icmp .ge 12, 3) := by decide +kernel
theorem d6_8 : decode prog_61_method_19_code 8 = .ok (.aload_n 0, 1) := by decide +kernel
theorem d6_9 : decode prog_61_method_19_code 9 = .ok (.getfield 7, 3) := by decide +kernel
theorem d6_12 : decode prog_61_method_19_code 12 = .ok (.iload_n 1, 1) := by decide +kernel
theorem d6_13 : decode prog_61_method_19_code 13 = .ok (.baload, 1) := by decide +kernel
theorem d6_14 : decode prog_61_method_19_code 14 = .ok (.goto 25, 3) := by decide +kernel
theorem d6_39 : decode prog_61_method_19_code 39 = .ok (.ireturn, 1) := by decide +kernel
theorem own_ef_6_lo (m : MethodId) (a1 : Addr) (p2 : Int32) : entryFrame m #[(Value.ref a1), (Value.int p2)] 2 = mkF m 0 #[.val (Value.ref a1), .val (Value.int p2)] [] := by first | (simp [entryFrame, mkF, argsToLocals, Value.category]; done) | rfl
def Q6_lo (Z : State) (a1 : Addr) (aB : Addr) (kB : ClassId) (vs : List Value) (n : Int32) (al : Int32) (p2 : Int32) (vb : Int32) (h0 : Heap) (n0 : Nat) (v : Option Value) (h : Heap) (L : List Loc) : Prop := v = some (Value.int vb) ∧ Fr n0 L ∧ h = h0
set_option maxRecDepth 65536 in
set_option maxHeartbeats 40000000 in
theorem rm6_lo (l : Launch) (Z : State) (a0 : Array Value) (hw : ∀ d ∈ tables_1, d.before a0 Z = true) (ws : List Jvm.Cond) (a1 : Addr) (aB : Addr) (kB : ClassId) (vs : List Value) (n : Int32) (al : Int32) (p2 : Int32) (vb : Int32) (h0 : Heap) (n0 : Nat) (O0 : Old Z n0 h0) (H0 : Exa Z h0 a1 "com/example/plain_bastion/plainbastion/ssh/TypedText") (H1 : Fld Z h0 a1 "com/example/plain_bastion/plainbastion/ssh/TypedText" "bytes" "[B" (Value.ref aB)) (H2 : Fld Z h0 a1 "com/example/plain_bastion/plainbastion/ssh/TypedText" "length" "I" (Value.int n)) (H3 : Fld Z h0 a1 "com/example/plain_bastion/plainbastion/ssh/TypedText" "afterLength" "I" (Value.int al)) (H4 : Arv Z h0 aB kB .byte (256 : Int32) vs (Value.int (0 : Int32))) (hlt : p2 < n) (hin : ¬ (p2 < (0 : Int32)) ∧ p2 < (256 : Int32)) (hat : vs.getD p2.toNatClampNeg (Value.int (0 : Int32)) = (Value.int vb)) (hv8 : vb.toInt8.toInt32 = vb) :
    MetFree l (⟨"com/example/plain_bastion/plainbastion/ssh/TypedText", "at", "(I)B"⟩ : MethodName) (head1 (Jvm.Cond.code (⟨"com/example/plain_bastion/plainbastion/ssh/TypedText", "at", "(I)B"⟩ : MethodName) prog_61_method_19_code 2 (some .byte) :: ws) ({ frames := 0, cells := 0, slots := 0, locals := 0 } : Room)) (fun a U => a = #[(Value.ref a1), (Value.int p2)] ∧ Z.Warmed39 U.vm ∧ U.heap = h0) (fun _ _ _ _ _ => True) (fun _ U o U' => ∃ v L, o = .returned v ∧ Q6_lo Z a1 aB kB vs n al p2 vb h0 n0 v U'.heap L ∧ FrameEnd U o U' L ({ frames := 0, cells := 0, slots := 0, locals := 0 } : Room).cells ({ frames := 0, cells := 0, slots := 0, locals := 0 } : Room).slots) := by
  refine MetFree.of_bodySF (plainFor_of_name own_pn_com_example_plain_bastion_plainbastion_ssh_TypedText) hisR ?_
  intro p e s m args below meth c s₁ Bd hml0 hP hK
  obtain ⟨rfl, hZ, hh⟩ := hP
  have hx := Bd.exec
  have hby := Bd.bytes
  have hml : c.maxLocals = 2 := hml0
  have hown : s.vm.findClass "com/example/plain_bastion/plainbastion/ssh/TypedText" = some m.cls := findClass_of_methodNamed Bd.named
  have hnm := (name_of_methodNamed Bd.named Bd.method).1
  have X0 : Stand p l e ({ frames := 0, cells := 0, slots := 0, locals := 0 } : Room) s m #[(Value.ref a1), (Value.int p2)] below meth c s₁ [] 0 0 := Stand.of_body Bd
  have e0 : s₁.heap = h0 := by rw [← hh, Bd.state]; rfl
  have N0 := Fr.nil n0
  have K0 : Keep h0 h0 [] := Keep.refl h0 []
  show own_Go p.tables e below _ (s₁.setTop (entryFrame m #[(Value.ref a1), (Value.int p2)] 2))
  refine own_Go.by (fun tq kq => castTop (own_ef_6_lo m a1 p2) kq) ?_
  show own_Go p.tables e below _ (s₁.setTop (mkF m 0 #[.val (Value.ref a1), .val (Value.int p2)] []))
  refine own_Go.by (fun tq kq => XS.iloadN X0.here hx rfl (hb hby d6_0) rfl kq) ?_
  show own_Go p.tables e below _ (s₁.setTop (mkF m 1 #[.val (Value.ref a1), .val (Value.int p2)] [(Value.int p2)]))
  refine own_Go.by (fun tq kq => XS.aloadN X0.here hx rfl (hb hby d6_1) rfl rfl kq) ?_
  show own_Go p.tables e below _ (s₁.setTop (mkF m 2 #[.val (Value.ref a1), .val (Value.int p2)] [(Value.ref a1), (Value.int p2)]))
  obtain ⟨T1, X1, e1, st1⟩ := getF X0 hx hZ hown (host := "") (Or.inl (hw _ (List.mem_of_getElem? (i := 39) rfl))) Via.refl e0 H2 (g := (mkF m 2 #[.val (Value.ref a1), .val (Value.int p2)] [(Value.ref a1), (Value.int p2)])) rfl rfl (hb hby d6_2)
  refine own_Go.by st1 ?_
  show own_Go p.tables e below _ (T1.setTop (mkF m 5 #[.val (Value.ref a1), .val (Value.int p2)] [(Value.int n), (Value.int p2)]))
  refine own_Go.by (fun tq kq => XS.icmpNo X1.here hx rfl (hb hby d6_5) rfl (tlt hlt).2.1 kq) ?_
  show own_Go p.tables e below _ (T1.setTop (mkF m 8 #[.val (Value.ref a1), .val (Value.int p2)] []))
  refine own_Go.by (fun tq kq => XS.aloadN X1.here hx rfl (hb hby d6_8) rfl rfl kq) ?_
  show own_Go p.tables e below _ (T1.setTop (mkF m 9 #[.val (Value.ref a1), .val (Value.int p2)] [(Value.ref a1)]))
  obtain ⟨T2, X2, e2, st2⟩ := getF X1 hx hZ hown (host := "") (Or.inl (hw _ (List.mem_of_getElem? (i := 21) rfl))) Via.refl e1 H1 (g := (mkF m 9 #[.val (Value.ref a1), .val (Value.int p2)] [(Value.ref a1)])) rfl rfl (hb hby d6_9)
  refine own_Go.by st2 ?_
  show own_Go p.tables e below _ (T2.setTop (mkF m 12 #[.val (Value.ref a1), .val (Value.int p2)] [(Value.ref aB)]))
  refine own_Go.by (fun tq kq => XS.iloadN X2.here hx rfl (hb hby d6_12) rfl kq) ?_
  show own_Go p.tables e below _ (T2.setTop (mkF m 13 #[.val (Value.ref a1), .val (Value.int p2)] [(Value.int p2), (Value.ref aB)]))
  obtain ⟨cl3, Ar3, q3, S3, M3, Hh3, G3⟩ := id H4
  refine own_Go.by (fun tq kq => X2.baloadBytes hx (j := p2) (v := (Value.int vb)) (by rw [e2]; exact Ar3.1) (State.isArrayOf_alike hZ.alike Ar3.2.1) Ar3.2.2 (inb_of S3 hin) (Has.at Hh3 (inb_of S3 hin) hat) (g := (mkF m 13 #[.val (Value.ref a1), .val (Value.int p2)] [(Value.int p2), (Value.ref aB)])) rfl rfl (hb hby d6_13) _ kq) ?_
  show own_Go p.tables e below _ (T2.setTop (mkF m 14 #[.val (Value.ref a1), .val (Value.int p2)] [(Value.int vb)]))
  refine own_Go.by (fun tq kq => XS.goto X2.here hx rfl (pc0 := 14) (pc' := 39) rfl (hb hby d6_14) (by decide) (by decide) kq) ?_
  show own_Go p.tables e below _ (T2.setTop (mkF m 39 #[.val (Value.ref a1), .val (Value.int p2)] [(Value.int vb)]))
  obtain ⟨fs, hr, hrun, hended, hW, hsame⟩ := X2.leave (v := some (Value.int (nar .byte vb))) (fun h => by rw [Bd.returns] at h; cases h)
  refine own_Go.fin (retN X2 hx (t := .byte) Bd.returns (by simp) (hb hby d6_39) hr) ⟨hrun, hended, _, _, rfl, ?_, ⟨_, rfl⟩, hW, hsame.mono (by decide) (by decide)⟩
  show Q6_lo Z a1 aB kB vs n al p2 vb h0 n0 _ T2.heap _
  rw [e2]
  exact ⟨(by rw [show nar .byte vb = vb from hv8]), N0, rfl⟩

theorem d6_17 : decode prog_61_method_19_code 17 = .ok (.aload_n 0, 1) := by decide +kernel
theorem d6_18 : decode prog_61_method_19_code 18 = .ok (.getfield 7, 3) := by decide +kernel
theorem d6_21 : decode prog_61_method_19_code 21 = .ok (.aload_n 0, 1) := by decide +kernel
theorem d6_22 : decode prog_61_method_19_code 22 = .ok (.getfield 7, 3) := by decide +kernel
theorem d6_25 : decode prog_61_method_19_code 25 = .ok (.arraylength, 1) := by decide +kernel
theorem d6_26 : decode prog_61_method_19_code 26 = .ok (.aload_n 0, 1) := by decide +kernel
theorem d6_27 : decode prog_61_method_19_code 27 = .ok (.getfield 41, 3) := by decide +kernel
theorem d6_30 : decode prog_61_method_19_code 30 = .ok (.isub, 1) := by decide +kernel
theorem d6_31 : decode prog_61_method_19_code 31 = .ok (.iload_n 1, 1) := by decide +kernel
theorem d6_32 : decode prog_61_method_19_code 32 = .ok (.iadd, 1) := by decide +kernel
theorem d6_33 : decode prog_61_method_19_code 33 = .ok (.aload_n 0, 1) := by decide +kernel
theorem d6_34 : decode prog_61_method_19_code 34 = .ok (.getfield 38, 3) := by decide +kernel
theorem d6_37 : decode prog_61_method_19_code 37 = .ok (.isub, 1) := by decide +kernel
theorem d6_38 : decode prog_61_method_19_code 38 = .ok (.baload, 1) := by decide +kernel
theorem own_ef_6_hi (m : MethodId) (a1 : Addr) (p2 : Int32) : entryFrame m #[(Value.ref a1), (Value.int p2)] 2 = mkF m 0 #[.val (Value.ref a1), .val (Value.int p2)] [] := by first | (simp [entryFrame, mkF, argsToLocals, Value.category]; done) | rfl
def Q6_hi (Z : State) (a1 : Addr) (aB : Addr) (kB : ClassId) (vs : List Value) (n : Int32) (al : Int32) (p2 : Int32) (vb : Int32) (h0 : Heap) (n0 : Nat) (v : Option Value) (h : Heap) (L : List Loc) : Prop := v = some (Value.int vb) ∧ Fr n0 L ∧ h = h0
set_option maxRecDepth 65536 in
set_option maxHeartbeats 40000000 in
theorem rm6_hi (l : Launch) (Z : State) (a0 : Array Value) (hw : ∀ d ∈ tables_1, d.before a0 Z = true) (ws : List Jvm.Cond) (a1 : Addr) (aB : Addr) (kB : ClassId) (vs : List Value) (n : Int32) (al : Int32) (p2 : Int32) (vb : Int32) (h0 : Heap) (n0 : Nat) (O0 : Old Z n0 h0) (H0 : Exa Z h0 a1 "com/example/plain_bastion/plainbastion/ssh/TypedText") (H1 : Fld Z h0 a1 "com/example/plain_bastion/plainbastion/ssh/TypedText" "bytes" "[B" (Value.ref aB)) (H2 : Fld Z h0 a1 "com/example/plain_bastion/plainbastion/ssh/TypedText" "length" "I" (Value.int n)) (H3 : Fld Z h0 a1 "com/example/plain_bastion/plainbastion/ssh/TypedText" "afterLength" "I" (Value.int al)) (H4 : Arv Z h0 aB kB .byte (256 : Int32) vs (Value.int (0 : Int32))) (hlt : ¬ (p2 < n)) (hin : ¬ (((((256 : Int32) - al) + p2) - n) < (0 : Int32)) ∧ ((((256 : Int32) - al) + p2) - n) < (256 : Int32)) (hat : vs.getD ((((256 : Int32) - al) + p2) - n).toNatClampNeg (Value.int (0 : Int32)) = (Value.int vb)) (hv8 : vb.toInt8.toInt32 = vb) :
    MetFree l (⟨"com/example/plain_bastion/plainbastion/ssh/TypedText", "at", "(I)B"⟩ : MethodName) (head1 (Jvm.Cond.code (⟨"com/example/plain_bastion/plainbastion/ssh/TypedText", "at", "(I)B"⟩ : MethodName) prog_61_method_19_code 2 (some .byte) :: ws) ({ frames := 0, cells := 0, slots := 0, locals := 0 } : Room)) (fun a U => a = #[(Value.ref a1), (Value.int p2)] ∧ Z.Warmed39 U.vm ∧ U.heap = h0) (fun _ _ _ _ _ => True) (fun _ U o U' => ∃ v L, o = .returned v ∧ Q6_hi Z a1 aB kB vs n al p2 vb h0 n0 v U'.heap L ∧ FrameEnd U o U' L ({ frames := 0, cells := 0, slots := 0, locals := 0 } : Room).cells ({ frames := 0, cells := 0, slots := 0, locals := 0 } : Room).slots) := by
  refine MetFree.of_bodySF (plainFor_of_name own_pn_com_example_plain_bastion_plainbastion_ssh_TypedText) hisR ?_
  intro p e s m args below meth c s₁ Bd hml0 hP hK
  obtain ⟨rfl, hZ, hh⟩ := hP
  have hx := Bd.exec
  have hby := Bd.bytes
  have hml : c.maxLocals = 2 := hml0
  have hown : s.vm.findClass "com/example/plain_bastion/plainbastion/ssh/TypedText" = some m.cls := findClass_of_methodNamed Bd.named
  have hnm := (name_of_methodNamed Bd.named Bd.method).1
  have X0 : Stand p l e ({ frames := 0, cells := 0, slots := 0, locals := 0 } : Room) s m #[(Value.ref a1), (Value.int p2)] below meth c s₁ [] 0 0 := Stand.of_body Bd
  have e0 : s₁.heap = h0 := by rw [← hh, Bd.state]; rfl
  have N0 := Fr.nil n0
  have K0 : Keep h0 h0 [] := Keep.refl h0 []
  show own_Go p.tables e below _ (s₁.setTop (entryFrame m #[(Value.ref a1), (Value.int p2)] 2))
  refine own_Go.by (fun tq kq => castTop (own_ef_6_hi m a1 p2) kq) ?_
  show own_Go p.tables e below _ (s₁.setTop (mkF m 0 #[.val (Value.ref a1), .val (Value.int p2)] []))
  refine own_Go.by (fun tq kq => XS.iloadN X0.here hx rfl (hb hby d6_0) rfl kq) ?_
  show own_Go p.tables e below _ (s₁.setTop (mkF m 1 #[.val (Value.ref a1), .val (Value.int p2)] [(Value.int p2)]))
  refine own_Go.by (fun tq kq => XS.aloadN X0.here hx rfl (hb hby d6_1) rfl rfl kq) ?_
  show own_Go p.tables e below _ (s₁.setTop (mkF m 2 #[.val (Value.ref a1), .val (Value.int p2)] [(Value.ref a1), (Value.int p2)]))
  obtain ⟨T1, X1, e1, st1⟩ := getF X0 hx hZ hown (host := "") (Or.inl (hw _ (List.mem_of_getElem? (i := 39) rfl))) Via.refl e0 H2 (g := (mkF m 2 #[.val (Value.ref a1), .val (Value.int p2)] [(Value.ref a1), (Value.int p2)])) rfl rfl (hb hby d6_2)
  refine own_Go.by st1 ?_
  show own_Go p.tables e below _ (T1.setTop (mkF m 5 #[.val (Value.ref a1), .val (Value.int p2)] [(Value.int n), (Value.int p2)]))
  refine own_Go.by (fun tq kq => XS.icmpYes X1.here hx rfl (pc0 := 5) (pc' := 17) rfl (hb hby d6_5) rfl (flt hlt).2.1 (by decide) (by decide) kq) ?_
  show own_Go p.tables e below _ (T1.setTop (mkF m 17 #[.val (Value.ref a1), .val (Value.int p2)] []))
  refine own_Go.by (fun tq kq => XS.aloadN X1.here hx rfl (hb hby d6_17) rfl rfl kq) ?_
  show own_Go p.tables e below _ (T1.setTop (mkF m 18 #[.val (Value.ref a1), .val (Value.int p2)] [(Value.ref a1)]))
  obtain ⟨T2, X2, e2, st2⟩ := getF X1 hx hZ hown (host := "") (Or.inl (hw _ (List.mem_of_getElem? (i := 21) rfl))) Via.refl e1 H1 (g := (mkF m 18 #[.val (Value.ref a1), .val (Value.int p2)] [(Value.ref a1)])) rfl rfl (hb hby d6_18)
  refine own_Go.by st2 ?_
  show own_Go p.tables e below _ (T2.setTop (mkF m 21 #[.val (Value.ref a1), .val (Value.int p2)] [(Value.ref aB)]))
  refine own_Go.by (fun tq kq => XS.aloadN X2.here hx rfl (hb hby d6_21) rfl rfl kq) ?_
  show own_Go p.tables e below _ (T2.setTop (mkF m 22 #[.val (Value.ref a1), .val (Value.int p2)] [(Value.ref a1), (Value.ref aB)]))
  obtain ⟨T3, X3, e3, st3⟩ := getF X2 hx hZ hown (host := "") (Or.inl (hw _ (List.mem_of_getElem? (i := 21) rfl))) Via.refl e2 H1 (g := (mkF m 22 #[.val (Value.ref a1), .val (Value.int p2)] [(Value.ref a1), (Value.ref aB)])) rfl rfl (hb hby d6_22)
  refine own_Go.by st3 ?_
  show own_Go p.tables e below _ (T3.setTop (mkF m 25 #[.val (Value.ref a1), .val (Value.int p2)] [(Value.ref aB), (Value.ref aB)]))
  obtain ⟨cl4, Ar4, q4, S4, M4, Hh4, G4⟩ := id H4
  refine own_Go.by (fun tq kq => X3.arraylength hx (by rw [e3]; exact Ar4.1) (State.isArrayOf_alike hZ.alike Ar4.2.1) (g := (mkF m 25 #[.val (Value.ref a1), .val (Value.int p2)] [(Value.ref aB), (Value.ref aB)])) rfl rfl (hb hby d6_25) _ kq) ?_
  rw [len_of S4 M4]
  show own_Go p.tables e below _ (T3.setTop (mkF m 26 #[.val (Value.ref a1), .val (Value.int p2)] [(Value.int (256 : Int32)), (Value.ref aB)]))
  refine own_Go.by (fun tq kq => XS.aloadN X3.here hx rfl (hb hby d6_26) rfl rfl kq) ?_
  show own_Go p.tables e below _ (T3.setTop (mkF m 27 #[.val (Value.ref a1), .val (Value.int p2)] [(Value.ref a1), (Value.int (256 : Int32)), (Value.ref aB)]))
  obtain ⟨T5, X5, e5, st5⟩ := getF X3 hx hZ hown (host := "") (Or.inl (hw _ (List.mem_of_getElem? (i := 41) rfl))) Via.refl e3 H3 (g := (mkF m 27 #[.val (Value.ref a1), .val (Value.int p2)] [(Value.ref a1), (Value.int (256 : Int32)), (Value.ref aB)])) rfl rfl (hb hby d6_27)
  refine own_Go.by st5 ?_
  show own_Go p.tables e below _ (T5.setTop (mkF m 30 #[.val (Value.ref a1), .val (Value.int p2)] [(Value.int al), (Value.int (256 : Int32)), (Value.ref aB)]))
  refine own_Go.by (fun tq kq => XS.isub X5.here hx rfl (hb hby d6_30) rfl kq) ?_
  show own_Go p.tables e below _ (T5.setTop (mkF m 31 #[.val (Value.ref a1), .val (Value.int p2)] [(Value.int ((256 : Int32) - al)), (Value.ref aB)]))
  refine own_Go.by (fun tq kq => XS.iloadN X5.here hx rfl (hb hby d6_31) rfl kq) ?_
  show own_Go p.tables e below _ (T5.setTop (mkF m 32 #[.val (Value.ref a1), .val (Value.int p2)] [(Value.int p2), (Value.int ((256 : Int32) - al)), (Value.ref aB)]))
  refine own_Go.by (fun tq kq => XS.iadd X5.here hx rfl (hb hby d6_32) rfl kq) ?_
  show own_Go p.tables e below _ (T5.setTop (mkF m 33 #[.val (Value.ref a1), .val (Value.int p2)] [(Value.int (((256 : Int32) - al) + p2)), (Value.ref aB)]))
  refine own_Go.by (fun tq kq => XS.aloadN X5.here hx rfl (hb hby d6_33) rfl rfl kq) ?_
  show own_Go p.tables e below _ (T5.setTop (mkF m 34 #[.val (Value.ref a1), .val (Value.int p2)] [(Value.ref a1), (Value.int (((256 : Int32) - al) + p2)), (Value.ref aB)]))
  obtain ⟨T6, X6, e6, st6⟩ := getF X5 hx hZ hown (host := "") (Or.inl (hw _ (List.mem_of_getElem? (i := 39) rfl))) Via.refl e5 H2 (g := (mkF m 34 #[.val (Value.ref a1), .val (Value.int p2)] [(Value.ref a1), (Value.int (((256 : Int32) - al) + p2)), (Value.ref aB)])) rfl rfl (hb hby d6_34)
  refine own_Go.by st6 ?_
  show own_Go p.tables e below _ (T6.setTop (mkF m 37 #[.val (Value.ref a1), .val (Value.int p2)] [(Value.int n), (Value.int (((256 : Int32) - al) + p2)), (Value.ref aB)]))
  refine own_Go.by (fun tq kq => XS.isub X6.here hx rfl (hb hby d6_37) rfl kq) ?_
  show own_Go p.tables e below _ (T6.setTop (mkF m 38 #[.val (Value.ref a1), .val (Value.int p2)] [(Value.int ((((256 : Int32) - al) + p2) - n)), (Value.ref aB)]))
  obtain ⟨cl7, Ar7, q7, S7, M7, Hh7, G7⟩ := id H4
  refine own_Go.by (fun tq kq => X6.baloadBytes hx (j := ((((256 : Int32) - al) + p2) - n)) (v := (Value.int vb)) (by rw [e6]; exact Ar7.1) (State.isArrayOf_alike hZ.alike Ar7.2.1) Ar7.2.2 (inb_of S7 hin) (Has.at Hh7 (inb_of S7 hin) hat) (g := (mkF m 38 #[.val (Value.ref a1), .val (Value.int p2)] [(Value.int ((((256 : Int32) - al) + p2) - n)), (Value.ref aB)])) rfl rfl (hb hby d6_38) _ kq) ?_
  show own_Go p.tables e below _ (T6.setTop (mkF m 39 #[.val (Value.ref a1), .val (Value.int p2)] [(Value.int vb)]))
  obtain ⟨fs, hr, hrun, hended, hW, hsame⟩ := X6.leave (v := some (Value.int (nar .byte vb))) (fun h => by rw [Bd.returns] at h; cases h)
  refine own_Go.fin (retN X6 hx (t := .byte) Bd.returns (by simp) (hb hby d6_39) hr) ⟨hrun, hended, _, _, rfl, ?_, ⟨_, rfl⟩, hW, hsame.mono (by decide) (by decide)⟩
  show Q6_hi Z a1 aB kB vs n al p2 vb h0 n0 _ T6.heap _
  rw [e6]
  exact ⟨(by rw [show nar .byte vb = vb from hv8]), N0, rfl⟩

theorem own_pd1 : parseMethodDescriptor "(Lcom/example/plain_bastion/plainbastion/ssh/TypedText$WordErase;Ljava/lang/String;Ljava/lang/String;)V" = some ⟨[(.object "com/example/plain_bastion/plainbastion/ssh/TypedText$WordErase"), (.object "java/lang/String"), (.object "java/lang/String")], none⟩ := by decide +kernel
theorem own_pd2 : parseMethodDescriptor "(B)V" = some ⟨[.byte], none⟩ := by decide +kernel
theorem own_pd3 : parseMethodDescriptor "(I)V" = some ⟨[.int], none⟩ := by decide +kernel
theorem own_pd4 : parseMethodDescriptor "(I)B" = some ⟨[.int], some .byte⟩ := by decide +kernel
theorem own_pn_com_example_plain_bastion_plainbastion_ssh_TypedTextAtPinLaw : plainName "com/example/plain_bastion/plainbastion/ssh/TypedTextAtPinLaw" = true := by first | (simp [plainName, overriddenIn]; done) | decide +kernel
theorem own_ef_0 (m : MethodId) (p1 : Int32) (p2 : Int32) (p3 : Int32) (p4 : Int32) (p5 : Int32) : entryFrame m #[(Value.int p1), (Value.int p2), (Value.int p3), (Value.int p4), (Value.int p5)] maxLocals = mkF m 0 #[.val (Value.int p1), .val (Value.int p2), .val (Value.int p3), .val (Value.int p4), .val (Value.int p5), .unset, .unset, .unset, .unset, .unset, .unset, .unset, .unset, .unset, .unset] [] := by first | (simp [entryFrame, mkF, argsToLocals, Value.category, maxLocals]; done) | rfl
def Q0 (Z : State) (p1 : Int32) (p2 : Int32) (p3 : Int32) (p4 : Int32) (p5 : Int32) (aW : Addr) (h0 : Heap) (n0 : Nat) (v : Option Value) (h : Heap) (L : List Loc) : Prop := v = some (Value.int (1 : Int32)) ∧ Fr n0 L ∧ Keep h0 h []
set_option maxRecDepth 65536 in
set_option maxHeartbeats 40000000 in
theorem rm0 (l : Launch) (Z : State) (a0 : Array Value) (hw : ∀ d ∈ tables_1, d.before a0 Z = true) (ws : List Jvm.Cond) (p1 : Int32) (p2 : Int32) (p3 : Int32) (p4 : Int32) (p5 : Int32) (aW : Addr) (h0 : Heap) (n0 : Nat) (O0 : Old Z n0 h0) (H0 : Sta Z Z.heap "com/example/plain_bastion/plainbastion/ssh/TypedText$WordErase" "BLANKS" "Lcom/example/plain_bastion/plainbastion/ssh/TypedText$WordErase;" (Value.ref aW)) :
    MetFree l x (head1 (Jvm.Cond.code x code maxLocals ret :: ws) room_1) (fun a U => a = #[(Value.int p1), (Value.int p2), (Value.int p3), (Value.int p4), (Value.int p5)] ∧ Z.Warmed39 U.vm ∧ U.heap = h0) (fun _ _ _ _ _ => True) (fun _ U o U' => ∃ v L, o = .returned v ∧ Q0 Z p1 p2 p3 p4 p5 aW h0 n0 v U'.heap L ∧ ReturnedEndW U o U' L room_1.cells room_1.slots) := by
  refine MetFree.of_bodySF (plainFor_of_name own_pn_com_example_plain_bastion_plainbastion_ssh_TypedTextAtPinLaw) hisR ?_
  intro p e s m args below meth c s₁ Bd hml0 hP hK
  obtain ⟨rfl, hZ, hh⟩ := hP
  have hx := Bd.exec
  have hby := Bd.bytes
  have hml : c.maxLocals = 15 := hml0
  have hown : s.vm.findClass "com/example/plain_bastion/plainbastion/ssh/TypedTextAtPinLaw" = some m.cls := findClass_of_methodNamed Bd.named
  have hnm := (name_of_methodNamed Bd.named Bd.method).1
  have X0 : Stand p l e room_1 s m #[(Value.int p1), (Value.int p2), (Value.int p3), (Value.int p4), (Value.int p5)] below meth c s₁ [] 0 0 := Stand.of_body Bd
  have e0 : s₁.heap = h0 := by rw [← hh, Bd.state]; rfl
  have hS0 : s.Since s.vm 0 := (State.WarmedH.refl s).since 0
  have N0 := Fr.nil n0
  have K0 : Keep h0 h0 [] := Keep.refl h0 []
  show own_Go p.tables e below _ (s₁.setTop (entryFrame m #[(Value.int p1), (Value.int p2), (Value.int p3), (Value.int p4), (Value.int p5)] maxLocals))
  refine own_Go.by (fun tq kq => castTop (own_ef_0 m p1 p2 p3 p4 p5) kq) ?_
  show own_Go p.tables e below _ (s₁.setTop (mkF m 0 #[.val (Value.int p1), .val (Value.int p2), .val (Value.int p3), .val (Value.int p4), .val (Value.int p5), .unset, .unset, .unset, .unset, .unset, .unset, .unset, .unset, .unset, .unset] []))
  refine own_Go.by (fun tq kq => XS.iloadN X0.here hx rfl (hb hby at_0) rfl kq) ?_
  show own_Go p.tables e below _ (s₁.setTop (mkF m 1 #[.val (Value.int p1), .val (Value.int p2), .val (Value.int p3), .val (Value.int p4), .val (Value.int p5), .unset, .unset, .unset, .unset, .unset, .unset, .unset, .unset, .unset, .unset] [(Value.int p1)]))
  refine own_Go.by (fun tq kq => XS.i2b X0.here hx rfl (hb hby at_1) rfl kq) ?_
  show own_Go p.tables e below _ (s₁.setTop (mkF m 2 #[.val (Value.int p1), .val (Value.int p2), .val (Value.int p3), .val (Value.int p4), .val (Value.int p5), .unset, .unset, .unset, .unset, .unset, .unset, .unset, .unset, .unset, .unset] [(Value.int (p1.toInt8.toInt32))]))
  refine own_Go.by (fun tq kq => XS.istore X0.here hx rfl (hb hby at_2) rfl (l' := #[.val (Value.int p1), .val (Value.int p2), .val (Value.int p3), .val (Value.int p4), .val (Value.int p5), .val (Value.int (p1.toInt8.toInt32)), .unset, .unset, .unset, .unset, .unset, .unset, .unset, .unset, .unset]) rfl kq) ?_
  show own_Go p.tables e below _ (s₁.setTop (mkF m 4 #[.val (Value.int p1), .val (Value.int p2), .val (Value.int p3), .val (Value.int p4), .val (Value.int p5), .val (Value.int (p1.toInt8.toInt32)), .unset, .unset, .unset, .unset, .unset, .unset, .unset, .unset, .unset] []))
  generalize hv_b0 : (p1.toInt8.toInt32) = b0
  show own_Go p.tables e below _ (s₁.setTop (mkF m 4 #[.val (Value.int p1), .val (Value.int p2), .val (Value.int p3), .val (Value.int p4), .val (Value.int p5), .val (Value.int b0), .unset, .unset, .unset, .unset, .unset, .unset, .unset, .unset, .unset] []))
  refine own_Go.by (fun tq kq => XS.iloadN X0.here hx rfl (hb hby at_4) rfl kq) ?_
  show own_Go p.tables e below _ (s₁.setTop (mkF m 5 #[.val (Value.int p1), .val (Value.int p2), .val (Value.int p3), .val (Value.int p4), .val (Value.int p5), .val (Value.int b0), .unset, .unset, .unset, .unset, .unset, .unset, .unset, .unset, .unset] [(Value.int p2)]))
  refine own_Go.by (fun tq kq => XS.i2b X0.here hx rfl (hb hby at_5) rfl kq) ?_
  show own_Go p.tables e below _ (s₁.setTop (mkF m 6 #[.val (Value.int p1), .val (Value.int p2), .val (Value.int p3), .val (Value.int p4), .val (Value.int p5), .val (Value.int b0), .unset, .unset, .unset, .unset, .unset, .unset, .unset, .unset, .unset] [(Value.int (p2.toInt8.toInt32))]))
  refine own_Go.by (fun tq kq => XS.istore X0.here hx rfl (hb hby at_6) rfl (l' := #[.val (Value.int p1), .val (Value.int p2), .val (Value.int p3), .val (Value.int p4), .val (Value.int p5), .val (Value.int b0), .val (Value.int (p2.toInt8.toInt32)), .unset, .unset, .unset, .unset, .unset, .unset, .unset, .unset]) rfl kq) ?_
  show own_Go p.tables e below _ (s₁.setTop (mkF m 8 #[.val (Value.int p1), .val (Value.int p2), .val (Value.int p3), .val (Value.int p4), .val (Value.int p5), .val (Value.int b0), .val (Value.int (p2.toInt8.toInt32)), .unset, .unset, .unset, .unset, .unset, .unset, .unset, .unset] []))
  generalize hv_b1 : (p2.toInt8.toInt32) = b1
  show own_Go p.tables e below _ (s₁.setTop (mkF m 8 #[.val (Value.int p1), .val (Value.int p2), .val (Value.int p3), .val (Value.int p4), .val (Value.int p5), .val (Value.int b0), .val (Value.int b1), .unset, .unset, .unset, .unset, .unset, .unset, .unset, .unset] []))
  refine own_Go.by (fun tq kq => XS.iloadN X0.here hx rfl (hb hby at_8) rfl kq) ?_
  show own_Go p.tables e below _ (s₁.setTop (mkF m 9 #[.val (Value.int p1), .val (Value.int p2), .val (Value.int p3), .val (Value.int p4), .val (Value.int p5), .val (Value.int b0), .val (Value.int b1), .unset, .unset, .unset, .unset, .unset, .unset, .unset, .unset] [(Value.int p3)]))
  refine own_Go.by (fun tq kq => XS.i2b X0.here hx rfl (hb hby at_9) rfl kq) ?_
  show own_Go p.tables e below _ (s₁.setTop (mkF m 10 #[.val (Value.int p1), .val (Value.int p2), .val (Value.int p3), .val (Value.int p4), .val (Value.int p5), .val (Value.int b0), .val (Value.int b1), .unset, .unset, .unset, .unset, .unset, .unset, .unset, .unset] [(Value.int (p3.toInt8.toInt32))]))
  refine own_Go.by (fun tq kq => XS.istore X0.here hx rfl (hb hby at_10) rfl (l' := #[.val (Value.int p1), .val (Value.int p2), .val (Value.int p3), .val (Value.int p4), .val (Value.int p5), .val (Value.int b0), .val (Value.int b1), .val (Value.int (p3.toInt8.toInt32)), .unset, .unset, .unset, .unset, .unset, .unset, .unset]) rfl kq) ?_
  show own_Go p.tables e below _ (s₁.setTop (mkF m 12 #[.val (Value.int p1), .val (Value.int p2), .val (Value.int p3), .val (Value.int p4), .val (Value.int p5), .val (Value.int b0), .val (Value.int b1), .val (Value.int (p3.toInt8.toInt32)), .unset, .unset, .unset, .unset, .unset, .unset, .unset] []))
  generalize hv_b2 : (p3.toInt8.toInt32) = b2
  show own_Go p.tables e below _ (s₁.setTop (mkF m 12 #[.val (Value.int p1), .val (Value.int p2), .val (Value.int p3), .val (Value.int p4), .val (Value.int p5), .val (Value.int b0), .val (Value.int b1), .val (Value.int b2), .unset, .unset, .unset, .unset, .unset, .unset, .unset] []))
  refine own_Go.by (fun tq kq => XS.iloadN X0.here hx rfl (hb hby at_12) rfl kq) ?_
  show own_Go p.tables e below _ (s₁.setTop (mkF m 13 #[.val (Value.int p1), .val (Value.int p2), .val (Value.int p3), .val (Value.int p4), .val (Value.int p5), .val (Value.int b0), .val (Value.int b1), .val (Value.int b2), .unset, .unset, .unset, .unset, .unset, .unset, .unset] [(Value.int p4)]))
  refine own_Go.by (fun tq kq => XS.i2b X0.here hx rfl (hb hby at_13) rfl kq) ?_
  show own_Go p.tables e below _ (s₁.setTop (mkF m 14 #[.val (Value.int p1), .val (Value.int p2), .val (Value.int p3), .val (Value.int p4), .val (Value.int p5), .val (Value.int b0), .val (Value.int b1), .val (Value.int b2), .unset, .unset, .unset, .unset, .unset, .unset, .unset] [(Value.int (p4.toInt8.toInt32))]))
  refine own_Go.by (fun tq kq => XS.istore X0.here hx rfl (hb hby at_14) rfl (l' := #[.val (Value.int p1), .val (Value.int p2), .val (Value.int p3), .val (Value.int p4), .val (Value.int p5), .val (Value.int b0), .val (Value.int b1), .val (Value.int b2), .val (Value.int (p4.toInt8.toInt32)), .unset, .unset, .unset, .unset, .unset, .unset]) rfl kq) ?_
  show own_Go p.tables e below _ (s₁.setTop (mkF m 16 #[.val (Value.int p1), .val (Value.int p2), .val (Value.int p3), .val (Value.int p4), .val (Value.int p5), .val (Value.int b0), .val (Value.int b1), .val (Value.int b2), .val (Value.int (p4.toInt8.toInt32)), .unset, .unset, .unset, .unset, .unset, .unset] []))
  generalize hv_b3 : (p4.toInt8.toInt32) = b3
  show own_Go p.tables e below _ (s₁.setTop (mkF m 16 #[.val (Value.int p1), .val (Value.int p2), .val (Value.int p3), .val (Value.int p4), .val (Value.int p5), .val (Value.int b0), .val (Value.int b1), .val (Value.int b2), .val (Value.int b3), .unset, .unset, .unset, .unset, .unset, .unset] []))
  refine own_Go.by (fun tq kq => XS.iload X0.here hx rfl (hb hby at_16) rfl kq) ?_
  show own_Go p.tables e below _ (s₁.setTop (mkF m 18 #[.val (Value.int p1), .val (Value.int p2), .val (Value.int p3), .val (Value.int p4), .val (Value.int p5), .val (Value.int b0), .val (Value.int b1), .val (Value.int b2), .val (Value.int b3), .unset, .unset, .unset, .unset, .unset, .unset] [(Value.int p5)]))
  refine own_Go.by (fun tq kq => X0.ldcInt hx hown (mvT hZ (hw _ (List.mem_of_getElem? (i := 0) rfl))) (g := (mkF m 18 #[.val (Value.int p1), .val (Value.int p2), .val (Value.int p3), .val (Value.int p4), .val (Value.int p5), .val (Value.int b0), .val (Value.int b1), .val (Value.int b2), .val (Value.int b3), .unset, .unset, .unset, .unset, .unset, .unset] [(Value.int p5)])) rfl (hb hby at_18) _ kq) ?_
  show own_Go p.tables e below _ (s₁.setTop (mkF m 20 #[.val (Value.int p1), .val (Value.int p2), .val (Value.int p3), .val (Value.int p4), .val (Value.int p5), .val (Value.int b0), .val (Value.int b1), .val (Value.int b2), .val (Value.int b3), .unset, .unset, .unset, .unset, .unset, .unset] [(Value.int (2147483647 : Int32)), (Value.int p5)]))
  refine own_Go.by (fun tq kq => XS.iand X0.here hx rfl (hb hby at_20) rfl kq) ?_
  show own_Go p.tables e below _ (s₁.setTop (mkF m 21 #[.val (Value.int p1), .val (Value.int p2), .val (Value.int p3), .val (Value.int p4), .val (Value.int p5), .val (Value.int b0), .val (Value.int b1), .val (Value.int b2), .val (Value.int b3), .unset, .unset, .unset, .unset, .unset, .unset] [(Value.int (p5 &&& (2147483647 : Int32)))]))
  refine own_Go.by (fun tq kq => XS.iconst X0.here hx rfl (hb hby at_21) kq) ?_
  show own_Go p.tables e below _ (s₁.setTop (mkF m 22 #[.val (Value.int p1), .val (Value.int p2), .val (Value.int p3), .val (Value.int p4), .val (Value.int p5), .val (Value.int b0), .val (Value.int b1), .val (Value.int b2), .val (Value.int b3), .unset, .unset, .unset, .unset, .unset, .unset] [(Value.int (3 : Int32)), (Value.int (p5 &&& (2147483647 : Int32)))]))
  refine own_Go.by (fun tq kq => iremM (g := (mkF m 22 #[.val (Value.int p1), .val (Value.int p2), .val (Value.int p3), .val (Value.int p4), .val (Value.int p5), .val (Value.int b0), .val (Value.int b1), .val (Value.int b2), .val (Value.int b3), .unset, .unset, .unset, .unset, .unset, .unset] [(Value.int (3 : Int32)), (Value.int (p5 &&& (2147483647 : Int32)))])) X0 hx rfl (hb hby at_22) rfl (by decide) kq) ?_
  show own_Go p.tables e below _ (s₁.setTop (mkF m 23 #[.val (Value.int p1), .val (Value.int p2), .val (Value.int p3), .val (Value.int p4), .val (Value.int p5), .val (Value.int b0), .val (Value.int b1), .val (Value.int b2), .val (Value.int b3), .unset, .unset, .unset, .unset, .unset, .unset] [(Value.int ((p5 &&& (2147483647 : Int32)) % (3 : Int32)))]))
  refine own_Go.by (fun tq kq => XS.istore X0.here hx rfl (hb hby at_23) rfl (l' := #[.val (Value.int p1), .val (Value.int p2), .val (Value.int p3), .val (Value.int p4), .val (Value.int p5), .val (Value.int b0), .val (Value.int b1), .val (Value.int b2), .val (Value.int b3), .val (Value.int ((p5 &&& (2147483647 : Int32)) % (3 : Int32))), .unset, .unset, .unset, .unset, .unset]) rfl kq) ?_
  show own_Go p.tables e below _ (s₁.setTop (mkF m 25 #[.val (Value.int p1), .val (Value.int p2), .val (Value.int p3), .val (Value.int p4), .val (Value.int p5), .val (Value.int b0), .val (Value.int b1), .val (Value.int b2), .val (Value.int b3), .val (Value.int ((p5 &&& (2147483647 : Int32)) % (3 : Int32))), .unset, .unset, .unset, .unset, .unset] []))
  generalize hv_mm : ((p5 &&& (2147483647 : Int32)) % (3 : Int32)) = mm
  rcases own_mod3 hv_mm with hq_mm | hq_mm | hq_mm
  ·
    subst hq_mm
    show own_Go p.tables e below _ (s₁.setTop (mkF m 25 #[.val (Value.int p1), .val (Value.int p2), .val (Value.int p3), .val (Value.int p4), .val (Value.int p5), .val (Value.int b0), .val (Value.int b1), .val (Value.int b2), .val (Value.int b3), .val (Value.int (0 : Int32)), .unset, .unset, .unset, .unset, .unset] []))
    obtain ⟨T1, h1, X1, e1, E1, A1, D1, -, st1⟩ := newO X0 hx hZ hown (hw _ (List.mem_of_getElem? (i := 1) rfl)) (hw _ (List.mem_of_getElem? (i := 2) rfl)) (hw _ (List.mem_of_getElem? (i := 3) rfl)) e0 (g := (mkF m 25 #[.val (Value.int p1), .val (Value.int p2), .val (Value.int p3), .val (Value.int p4), .val (Value.int p5), .val (Value.int b0), .val (Value.int b1), .val (Value.int b2), .val (Value.int b3), .val (Value.int (0 : Int32)), .unset, .unset, .unset, .unset, .unset] [])) rfl (hb hby at_25) (by decide) (by decide)
    obtain ⟨ob1, y1⟩ : ∃ z, z = h0.size := ⟨_, rfl⟩
    rw [← y1] at A1 D1 st1
    refine own_Go.by st1 ?_
    have O2 := O0.ext E1
    have K2 := K0.ext E1
    have g3 : n0 ≤ ob1 := Nat.le_trans (own_old_le O0) (Nat.le_of_eq y1.symm)
    have z3 : h0.size ≤ ob1 := Nat.le_trans K0.1 (Nat.le_of_eq y1.symm)
    have F1_bytes : Fld Z h1 ob1 "com/example/plain_bastion/plainbastion/ssh/TypedText" "bytes" "[B" .null := D1 (Or.inl (hw _ (List.mem_of_getElem? (i := 22) rfl))) (ty := (.array .byte)) (by decide)
    have F1_words : Fld Z h1 ob1 "com/example/plain_bastion/plainbastion/ssh/TypedText" "words" "Lcom/example/plain_bastion/plainbastion/ssh/TypedText$WordErase;" .null := D1 (Or.inr (hw _ (List.mem_of_getElem? (i := 24) rfl))) (ty := (.object "com/example/plain_bastion/plainbastion/ssh/TypedText$WordErase")) (by decide)
    have F1_erases : Fld Z h1 ob1 "com/example/plain_bastion/plainbastion/ssh/TypedText" "erases" "Ljava/lang/String;" .null := D1 (Or.inr (hw _ (List.mem_of_getElem? (i := 26) rfl))) (ty := (.object "java/lang/String")) (by decide)
    have F1_characters : Fld Z h1 ob1 "com/example/plain_bastion/plainbastion/ssh/TypedText" "characters" "Ljava/lang/String;" .null := D1 (Or.inr (hw _ (List.mem_of_getElem? (i := 28) rfl))) (ty := (.object "java/lang/String")) (by decide)
    have F1_length : Fld Z h1 ob1 "com/example/plain_bastion/plainbastion/ssh/TypedText" "length" "I" (Value.int (0 : Int32)) := D1 (Or.inl (hw _ (List.mem_of_getElem? (i := 40) rfl))) (ty := .int) (by decide)
    have F1_afterLength : Fld Z h1 ob1 "com/example/plain_bastion/plainbastion/ssh/TypedText" "afterLength" "I" (Value.int (0 : Int32)) := D1 (Or.inl (hw _ (List.mem_of_getElem? (i := 42) rfl))) (ty := .int) (by decide)
    have F1_breaks : Fld Z h1 ob1 "com/example/plain_bastion/plainbastion/ssh/TypedText" "breaks" "I" (Value.int (0 : Int32)) := D1 (Or.inl (hw _ (List.mem_of_getElem? (i := 45) rfl))) (ty := .int) (by decide)
    have F1_told : Fld Z h1 ob1 "com/example/plain_bastion/plainbastion/ssh/TypedText" "told" "I" (Value.int (0 : Int32)) := D1 (Or.inl (hw _ (List.mem_of_getElem? (i := 56) rfl))) (ty := .int) (by decide)
    have F1_cut : Fld Z h1 ob1 "com/example/plain_bastion/plainbastion/ssh/TypedText" "cut" "Z" (Value.int (0 : Int32)) := D1 (Or.inl (hw _ (List.mem_of_getElem? (i := 63) rfl))) (ty := .boolean) (by decide)
    show own_Go p.tables e below _ (T1.setTop (mkF m 28 #[.val (Value.int p1), .val (Value.int p2), .val (Value.int p3), .val (Value.int p4), .val (Value.int p5), .val (Value.int b0), .val (Value.int b1), .val (Value.int b2), .val (Value.int b3), .val (Value.int (0 : Int32)), .unset, .unset, .unset, .unset, .unset] [(Value.ref ob1)]))
    refine own_Go.by (fun tq kq => XS.dup X1.here hx rfl (hb hby at_28) rfl rfl kq) ?_
    show own_Go p.tables e below _ (T1.setTop (mkF m 29 #[.val (Value.int p1), .val (Value.int p2), .val (Value.int p3), .val (Value.int p4), .val (Value.int p5), .val (Value.int b0), .val (Value.int b1), .val (Value.int b2), .val (Value.int b3), .val (Value.int (0 : Int32)), .unset, .unset, .unset, .unset, .unset] [(Value.ref ob1), (Value.ref ob1)]))
    obtain ⟨T4, X4, e4, st4⟩ := getS2 X1 hx hZ hown (host := "") (Or.inl (hw _ (List.mem_of_getElem? (i := 4) rfl))) Via.refl e1 (H0.ext O2.2) (g := (mkF m 29 #[.val (Value.int p1), .val (Value.int p2), .val (Value.int p3), .val (Value.int p4), .val (Value.int p5), .val (Value.int b0), .val (Value.int b1), .val (Value.int b2), .val (Value.int b3), .val (Value.int (0 : Int32)), .unset, .unset, .unset, .unset, .unset] [(Value.ref ob1), (Value.ref ob1)])) rfl (hb hby at_29)
    refine own_Go.by st4 ?_
    show own_Go p.tables e below _ (T4.setTop (mkF m 32 #[.val (Value.int p1), .val (Value.int p2), .val (Value.int p3), .val (Value.int p4), .val (Value.int p5), .val (Value.int b0), .val (Value.int b1), .val (Value.int b2), .val (Value.int b3), .val (Value.int (0 : Int32)), .unset, .unset, .unset, .unset, .unset] [(Value.ref aW), (Value.ref ob1), (Value.ref ob1)]))
    obtain ⟨sa5, T5, h5, k5, X5, e5, E5, hS5, hk5, hZ5, hown5, st5⟩ := ldcS (s := s) (vm0 := s.vm) X4 hx hZ hown (hw _ (List.mem_of_getElem? (i := 7) rfl)) (fun d hd => hw d (own_wS d hd)) e4 hS0 (Nat.zero_le _) (g := (mkF m 32 #[.val (Value.int p1), .val (Value.int p2), .val (Value.int p3), .val (Value.int p4), .val (Value.int p5), .val (Value.int b0), .val (Value.int b1), .val (Value.int b2), .val (Value.int b3), .val (Value.int (0 : Int32)), .unset, .unset, .unset, .unset, .unset] [(Value.ref aW), (Value.ref ob1), (Value.ref ob1)])) rfl (hb hby at_32) (n := 0) (by decide) (by decide) (by decide) (by decide)
    refine own_Go.by st5 ?_
    have O6 := O2.ext E5
    have K6 := K2.ext E5
    show own_Go p.tables e below _ (T5.setTop (mkF m 34 #[.val (Value.int p1), .val (Value.int p2), .val (Value.int p3), .val (Value.int p4), .val (Value.int p5), .val (Value.int b0), .val (Value.int b1), .val (Value.int b2), .val (Value.int b3), .val (Value.int (0 : Int32)), .unset, .unset, .unset, .unset, .unset] [(Value.ref sa5), (Value.ref aW), (Value.ref ob1), (Value.ref ob1)]))
    obtain ⟨sa7, T7, h7, k7, X7, e7, E7, hS7, hk7, hZ7, hown7, st7⟩ := ldcS (s := s) (vm0 := T5.vm) X5 hx hZ5 hown5 (hw _ (List.mem_of_getElem? (i := 7) rfl)) (fun d hd => hw d (own_wS d hd)) e5 hS5 hk5 (g := (mkF m 34 #[.val (Value.int p1), .val (Value.int p2), .val (Value.int p3), .val (Value.int p4), .val (Value.int p5), .val (Value.int b0), .val (Value.int b1), .val (Value.int b2), .val (Value.int b3), .val (Value.int (0 : Int32)), .unset, .unset, .unset, .unset, .unset] [(Value.ref sa5), (Value.ref aW), (Value.ref ob1), (Value.ref ob1)])) rfl (hb hby at_34) (n := 0) (by decide) (by decide) (by decide) (by decide)
    refine own_Go.by st7 ?_
    have O8 := O6.ext E7
    have K8 := K6.ext E7
    show own_Go p.tables e below _ (T7.setTop (mkF m 36 #[.val (Value.int p1), .val (Value.int p2), .val (Value.int p3), .val (Value.int p4), .val (Value.int p5), .val (Value.int b0), .val (Value.int b1), .val (Value.int b2), .val (Value.int b3), .val (Value.int (0 : Int32)), .unset, .unset, .unset, .unset, .unset] [(Value.ref sa7), (Value.ref sa5), (Value.ref aW), (Value.ref ob1), (Value.ref ob1)]))
    have c10 := ((A1.ext E5).ext E7)
    have c11 := ((F1_bytes.ext E5).ext E7)
    have c12 := ((F1_words.ext E5).ext E7)
    have c13 := ((F1_erases.ext E5).ext E7)
    have c14 := ((F1_characters.ext E5).ext E7)
    have c15 := ((F1_length.ext E5).ext E7)
    have c16 := ((F1_afterLength.ext E5).ext E7)
    have c17 := ((F1_breaks.ext E5).ext E7)
    have c18 := ((F1_told.ext E5).ext E7)
    obtain ⟨_, _, ⟨T9, L9, k9, n9⟩, -, X9, ⟨Lc9, hQ9, l9, y9, z9⟩, st9⟩ := X7.specialBack hx (y := (⟨"com/example/plain_bastion/plainbastion/ssh/TypedText", "<init>", "(Lcom/example/plain_bastion/plainbastion/ssh/TypedText$WordErase;Ljava/lang/String;Ljava/lang/String;)V"⟩ : MethodName)) rfl hown7 (mvT hZ7 (hw _ (List.mem_of_getElem? (i := 15) rfl))) (mvT hZ7 (hw _ (List.mem_of_getElem? (i := 16) rfl))) (mvT hZ7 (hw _ (List.mem_of_getElem? (i := 17) rfl))) (by decide) (backOf (W := 1) (rm1 l Z a0 hw [] ob1 aW sa5 sa7 h7 n0 O8 c10 g3 c11 c12 c13 c14 c15 c16 c17 c18) hZ7 (hw _ (List.mem_of_getElem? (i := 17) rfl)) (hw _ (List.mem_of_getElem? (i := 3) rfl)) (by decide) (by decide)) (g := (mkF m 36 #[.val (Value.int p1), .val (Value.int p2), .val (Value.int p3), .val (Value.int p4), .val (Value.int p5), .val (Value.int b0), .val (Value.int b1), .val (Value.int b2), .val (Value.int b3), .val (Value.int (0 : Int32)), .unset, .unset, .unset, .unset, .unset] [(Value.ref sa7), (Value.ref sa5), (Value.ref aW), (Value.ref ob1), (Value.ref ob1)])) rfl (by rw [hml]; rfl) (Steps.refl _) (a := ob1) (argsL := [(Value.ref aW), (Value.ref sa5), (Value.ref sa7)]) (rest := [(Value.ref ob1)]) (lenOf own_pd1 rfl) rfl (by show 2 * 0 + _ ≤ _; exact Nat.le_of_eq rfl) (hb hby at_36) (fun _ _ => ⟨rfl, e7, (by decide : 5 + 1 ≤ _), (by decide : 20 + 256 ≤ _)⟩)
    dsimp only [Pt.U, Pt.locs, Pt.cells, Pt.slots] at X9 l9 y9 z9 st9 hQ9
    subst l9 y9 z9
    refine own_Go.by (fun tq kq => st9.trans kq) ?_
    obtain ⟨b_9, kb_9, rfl, N9q, K9q, p9_0, p9_1, p9_2, p9_3, p9_4, p9_5, p9_6, p9_7⟩ := hQ9
    have N9 := Fr.app N0 N9q
    have O19 := O8.keep K9q (allS g3 all0)
    have K19 := K8.trans K9q (allS (Or.inr z3) all0)
    have hk_19 := Nat.le_trans hk7 K9q.1
    have g20 : n0 ≤ b_9 := Nat.le_trans (own_old_le O8) p9_0
    have z20 : h0.size ≤ b_9 := Nat.le_trans K8.1 p9_0
    show own_Go p.tables e below _ (T9.setTop (mkF m 39 #[.val (Value.int p1), .val (Value.int p2), .val (Value.int p3), .val (Value.int p4), .val (Value.int p5), .val (Value.int b0), .val (Value.int b1), .val (Value.int b2), .val (Value.int b3), .val (Value.int (0 : Int32)), .unset, .unset, .unset, .unset, .unset] [(Value.ref ob1)]))
    refine own_Go.by (fun tq kq => XS.astore X9.here hx rfl (hb hby at_39) rfl rfl (l' := #[.val (Value.int p1), .val (Value.int p2), .val (Value.int p3), .val (Value.int p4), .val (Value.int p5), .val (Value.int b0), .val (Value.int b1), .val (Value.int b2), .val (Value.int b3), .val (Value.int (0 : Int32)), .val (Value.ref ob1), .unset, .unset, .unset, .unset]) rfl kq) ?_
    show own_Go p.tables e below _ (T9.setTop (mkF m 41 #[.val (Value.int p1), .val (Value.int p2), .val (Value.int p3), .val (Value.int p4), .val (Value.int p5), .val (Value.int b0), .val (Value.int b1), .val (Value.int b2), .val (Value.int b3), .val (Value.int (0 : Int32)), .val (Value.ref ob1), .unset, .unset, .unset, .unset] []))
    refine own_Go.by (fun tq kq => XS.aload X9.here hx rfl (hb hby at_41) rfl rfl kq) ?_
    show own_Go p.tables e below _ (T9.setTop (mkF m 43 #[.val (Value.int p1), .val (Value.int p2), .val (Value.int p3), .val (Value.int p4), .val (Value.int p5), .val (Value.int b0), .val (Value.int b1), .val (Value.int b2), .val (Value.int b3), .val (Value.int (0 : Int32)), .val (Value.ref ob1), .unset, .unset, .unset, .unset] [(Value.ref ob1)]))
    refine own_Go.by (fun tq kq => XS.iload X9.here hx rfl (hb hby at_43) rfl kq) ?_
    show own_Go p.tables e below _ (T9.setTop (mkF m 45 #[.val (Value.int p1), .val (Value.int p2), .val (Value.int p3), .val (Value.int p4), .val (Value.int p5), .val (Value.int b0), .val (Value.int b1), .val (Value.int b2), .val (Value.int b3), .val (Value.int (0 : Int32)), .val (Value.ref ob1), .unset, .unset, .unset, .unset] [(Value.int b0), (Value.ref ob1)]))
    obtain ⟨cq21, kq21, q21a, q21b, q21c⟩ := isOf hZ7 rfl p9_1
    obtain ⟨_, _, ⟨T21, L21, k21, n21⟩, -, X21, ⟨Lc21, hQ21, l21, y21, z21⟩, st21⟩ := X9.virtualBack hx (y := (⟨"com/example/plain_bastion/plainbastion/ssh/TypedText", "append", "(B)V"⟩ : MethodName)) (z := (⟨"com/example/plain_bastion/plainbastion/ssh/TypedText", "append", "(B)V"⟩ : MethodName)) hown7 (mvT hZ7 (hw _ (List.mem_of_getElem? (i := 29) rfl))) (mvT hZ7 (hw _ (List.mem_of_getElem? (i := 30) rfl))) (notFace_of_selects (args := #[]) (mvT hZ7 (hw _ (List.mem_of_getElem? (i := 32) rfl)))) (mvT hZ7 (hw _ (List.mem_of_getElem? (i := 32) rfl))) (mvT hZ7 (hw _ (List.mem_of_getElem? (i := 31) rfl))) (by decide) (backOf (W := 0) (rm3 l Z a0 hw [] ob1 b_9 kb_9 (List.replicate 256 (Value.int (0 : Int32))) (0 : Int32) (0 : Int32) b0 (0 : Int32) (0 : Int32) 0 T9.heap n0 O19 p9_1 p9_2 p9_4 p9_5 p9_3 p9_6 p9_7 g3 g20 (Nat.ne_of_lt (Nat.lt_of_lt_of_le A1.lt (Nat.le_trans E5.1 (Nat.le_trans E7.1 p9_0)))) (by decide : ((0 : Int32) + (0 : Int32)) < (65536 : Int32)) (by decide : ¬ (((0 : Int32) + (0 : Int32)) = (256 : Int32))) (by decide : ¬ ((0 : Int32) < (0 : Int32)) ∧ (0 : Int32) < (256 : Int32)) (rfl : (0 : Int32).toNatClampNeg = 0) (Nat.le_of_ble_eq_true rfl : 0 < (List.replicate 256 (Value.int (0 : Int32))).length) (own_b8 hv_b0 : b0.toInt8.toInt32 = b0)) hZ7 (hw _ (List.mem_of_getElem? (i := 33) rfl)) (hw _ (List.mem_of_getElem? (i := 3) rfl)) (by decide) (by decide)) q21a q21c (g := (mkF m 45 #[.val (Value.int p1), .val (Value.int p2), .val (Value.int p3), .val (Value.int p4), .val (Value.int p5), .val (Value.int b0), .val (Value.int b1), .val (Value.int b2), .val (Value.int b3), .val (Value.int (0 : Int32)), .val (Value.ref ob1), .unset, .unset, .unset, .unset] [(Value.int b0), (Value.ref ob1)])) rfl (by rw [hml]; rfl) (Steps.refl _) (argsL := [(Value.int b0)]) (rest := []) (lenOf own_pd2 rfl) rfl (by show 2 * 0 + _ ≤ _; exact Nat.le_of_eq rfl) (hb hby at_45) (fun _ _ => ⟨rfl, rfl, (by decide : 6 + 0 ≤ _), (by decide : 276 + 0 ≤ _)⟩)
    dsimp only [Pt.U, Pt.locs, Pt.cells, Pt.slots] at X21 l21 y21 z21 st21 hQ21
    subst l21 y21 z21
    refine own_Go.by (fun tq kq => st21.trans kq) ?_
    obtain ⟨br2_21, rfl, N21q, K21q, p21_0, p21_1, p21_2, p21_3, p21_4, p21_5, p21_6⟩ := hQ21
    have N21 := Fr.app N9 N21q
    have O22 := O19.keep K21q (allS g3 (allS g20 all0))
    have K22 := K19.trans K21q (allS (Or.inr z3) (allS (Or.inr z20) all0))
    have hk_22 := Nat.le_trans hk_19 K21q.1
    show own_Go p.tables e below _ (T21.setTop (mkF m 48 #[.val (Value.int p1), .val (Value.int p2), .val (Value.int p3), .val (Value.int p4), .val (Value.int p5), .val (Value.int b0), .val (Value.int b1), .val (Value.int b2), .val (Value.int b3), .val (Value.int (0 : Int32)), .val (Value.ref ob1), .unset, .unset, .unset, .unset] []))
    refine own_Go.by (fun tq kq => XS.aload X21.here hx rfl (hb hby at_48) rfl rfl kq) ?_
    show own_Go p.tables e below _ (T21.setTop (mkF m 50 #[.val (Value.int p1), .val (Value.int p2), .val (Value.int p3), .val (Value.int p4), .val (Value.int p5), .val (Value.int b0), .val (Value.int b1), .val (Value.int b2), .val (Value.int b3), .val (Value.int (0 : Int32)), .val (Value.ref ob1), .unset, .unset, .unset, .unset] [(Value.ref ob1)]))
    refine own_Go.by (fun tq kq => XS.iload X21.here hx rfl (hb hby at_50) rfl kq) ?_
    show own_Go p.tables e below _ (T21.setTop (mkF m 52 #[.val (Value.int p1), .val (Value.int p2), .val (Value.int p3), .val (Value.int p4), .val (Value.int p5), .val (Value.int b0), .val (Value.int b1), .val (Value.int b2), .val (Value.int b3), .val (Value.int (0 : Int32)), .val (Value.ref ob1), .unset, .unset, .unset, .unset] [(Value.int b1), (Value.ref ob1)]))
    obtain ⟨cq23, kq23, q23a, q23b, q23c⟩ := isOf hZ7 rfl p21_0
    obtain ⟨_, _, ⟨T23, L23, k23, n23⟩, -, X23, ⟨Lc23, hQ23, l23, y23, z23⟩, st23⟩ := X21.virtualBack hx (y := (⟨"com/example/plain_bastion/plainbastion/ssh/TypedText", "append", "(B)V"⟩ : MethodName)) (z := (⟨"com/example/plain_bastion/plainbastion/ssh/TypedText", "append", "(B)V"⟩ : MethodName)) hown7 (mvT hZ7 (hw _ (List.mem_of_getElem? (i := 29) rfl))) (mvT hZ7 (hw _ (List.mem_of_getElem? (i := 30) rfl))) (notFace_of_selects (args := #[]) (mvT hZ7 (hw _ (List.mem_of_getElem? (i := 32) rfl)))) (mvT hZ7 (hw _ (List.mem_of_getElem? (i := 32) rfl))) (mvT hZ7 (hw _ (List.mem_of_getElem? (i := 31) rfl))) (by decide) (backOf (W := 0) (rm3 l Z a0 hw [] ob1 b_9 kb_9 ((List.replicate 256 (Value.int (0 : Int32))).set 0 (Value.int b0)) (1 : Int32) (0 : Int32) b1 br2_21 (0 : Int32) 1 T21.heap n0 O22 p21_0 p21_1 p21_2 p21_3 p21_6 p21_4 p21_5 g3 g20 (Nat.ne_of_lt (Nat.lt_of_lt_of_le A1.lt (Nat.le_trans E5.1 (Nat.le_trans E7.1 p9_0)))) (by decide : ((1 : Int32) + (0 : Int32)) < (65536 : Int32)) (by decide : ¬ (((1 : Int32) + (0 : Int32)) = (256 : Int32))) (by decide : ¬ ((1 : Int32) < (0 : Int32)) ∧ (1 : Int32) < (256 : Int32)) (rfl : (1 : Int32).toNatClampNeg = 1) (Nat.le_of_ble_eq_true rfl : 1 < ((List.replicate 256 (Value.int (0 : Int32))).set 0 (Value.int b0)).length) (own_b8 hv_b1 : b1.toInt8.toInt32 = b1)) hZ7 (hw _ (List.mem_of_getElem? (i := 33) rfl)) (hw _ (List.mem_of_getElem? (i := 3) rfl)) (by decide) (by decide)) q23a q23c (g := (mkF m 52 #[.val (Value.int p1), .val (Value.int p2), .val (Value.int p3), .val (Value.int p4), .val (Value.int p5), .val (Value.int b0), .val (Value.int b1), .val (Value.int b2), .val (Value.int b3), .val (Value.int (0 : Int32)), .val (Value.ref ob1), .unset, .unset, .unset, .unset] [(Value.int b1), (Value.ref ob1)])) rfl (by rw [hml]; rfl) (Steps.refl _) (argsL := [(Value.int b1)]) (rest := []) (lenOf own_pd2 rfl) rfl (by show 2 * 0 + _ ≤ _; exact Nat.le_of_eq rfl) (hb hby at_52) (fun _ _ => ⟨rfl, rfl, (by decide : 6 + 0 ≤ _), (by decide : 276 + 0 ≤ _)⟩)
    dsimp only [Pt.U, Pt.locs, Pt.cells, Pt.slots] at X23 l23 y23 z23 st23 hQ23
    subst l23 y23 z23
    refine own_Go.by (fun tq kq => st23.trans kq) ?_
    obtain ⟨br2_23, rfl, N23q, K23q, p23_0, p23_1, p23_2, p23_3, p23_4, p23_5, p23_6⟩ := hQ23
    have N23 := Fr.app N21 N23q
    have O24 := O22.keep K23q (allS g3 (allS g20 all0))
    have K24 := K22.trans K23q (allS (Or.inr z3) (allS (Or.inr z20) all0))
    have hk_24 := Nat.le_trans hk_22 K23q.1
    show own_Go p.tables e below _ (T23.setTop (mkF m 55 #[.val (Value.int p1), .val (Value.int p2), .val (Value.int p3), .val (Value.int p4), .val (Value.int p5), .val (Value.int b0), .val (Value.int b1), .val (Value.int b2), .val (Value.int b3), .val (Value.int (0 : Int32)), .val (Value.ref ob1), .unset, .unset, .unset, .unset] []))
    refine own_Go.by (fun tq kq => XS.aload X23.here hx rfl (hb hby at_55) rfl rfl kq) ?_
    show own_Go p.tables e below _ (T23.setTop (mkF m 57 #[.val (Value.int p1), .val (Value.int p2), .val (Value.int p3), .val (Value.int p4), .val (Value.int p5), .val (Value.int b0), .val (Value.int b1), .val (Value.int b2), .val (Value.int b3), .val (Value.int (0 : Int32)), .val (Value.ref ob1), .unset, .unset, .unset, .unset] [(Value.ref ob1)]))
    refine own_Go.by (fun tq kq => XS.iload X23.here hx rfl (hb hby at_57) rfl kq) ?_
    show own_Go p.tables e below _ (T23.setTop (mkF m 59 #[.val (Value.int p1), .val (Value.int p2), .val (Value.int p3), .val (Value.int p4), .val (Value.int p5), .val (Value.int b0), .val (Value.int b1), .val (Value.int b2), .val (Value.int b3), .val (Value.int (0 : Int32)), .val (Value.ref ob1), .unset, .unset, .unset, .unset] [(Value.int (0 : Int32)), (Value.ref ob1)]))
    obtain ⟨cq25, kq25, q25a, q25b, q25c⟩ := isOf hZ7 rfl p23_0
    obtain ⟨_, _, ⟨T25, L25, k25, n25⟩, -, X25, ⟨Lc25, hQ25, l25, y25, z25⟩, st25⟩ := X23.virtualBack hx (y := (⟨"com/example/plain_bastion/plainbastion/ssh/TypedText", "moveTo", "(I)V"⟩ : MethodName)) (z := (⟨"com/example/plain_bastion/plainbastion/ssh/TypedText", "moveTo", "(I)V"⟩ : MethodName)) hown7 (mvT hZ7 (hw _ (List.mem_of_getElem? (i := 46) rfl))) (mvT hZ7 (hw _ (List.mem_of_getElem? (i := 47) rfl))) (notFace_of_selects (args := #[]) (mvT hZ7 (hw _ (List.mem_of_getElem? (i := 49) rfl)))) (mvT hZ7 (hw _ (List.mem_of_getElem? (i := 49) rfl))) (mvT hZ7 (hw _ (List.mem_of_getElem? (i := 48) rfl))) (by decide) (backOf (W := 0) (rm5_0 l Z a0 hw [] ob1 b_9 kb_9 (((List.replicate 256 (Value.int (0 : Int32))).set 0 (Value.int b0)).set 1 (Value.int b1)) br2_23 T23.heap n0 O24 p23_0 p23_1 p23_2 p23_3 p23_6 p23_5 p23_4 g3 g20 (Nat.ne_of_lt (Nat.lt_of_lt_of_le A1.lt (Nat.le_trans E5.1 (Nat.le_trans E7.1 p9_0)))) (rfl : (((List.replicate 256 (Value.int (0 : Int32))).set 0 (Value.int b0)).set 1 (Value.int b1)).length = 256)) hZ7 (hw _ (List.mem_of_getElem? (i := 50) rfl)) (hw _ (List.mem_of_getElem? (i := 3) rfl)) (by decide) (by decide)) q25a q25c (g := (mkF m 59 #[.val (Value.int p1), .val (Value.int p2), .val (Value.int p3), .val (Value.int p4), .val (Value.int p5), .val (Value.int b0), .val (Value.int b1), .val (Value.int b2), .val (Value.int b3), .val (Value.int (0 : Int32)), .val (Value.ref ob1), .unset, .unset, .unset, .unset] [(Value.int (0 : Int32)), (Value.ref ob1)])) rfl (by rw [hml]; rfl) (Steps.refl _) (argsL := [(Value.int (0 : Int32))]) (rest := []) (lenOf own_pd3 rfl) rfl (by show 2 * 0 + _ ≤ _; exact Nat.le_of_eq rfl) (hb hby at_59) (fun _ _ => ⟨rfl, rfl, (by decide : 6 + 0 ≤ _), (by decide : 276 + 0 ≤ _)⟩)
    dsimp only [Pt.U, Pt.locs, Pt.cells, Pt.slots] at X25 l25 y25 z25 st25 hQ25
    subst l25 y25 z25
    refine own_Go.by (fun tq kq => st25.trans kq) ?_
    obtain ⟨rfl, N25q, K25q, p25_0, p25_1, p25_2, p25_3, p25_4, p25_5, p25_6⟩ := hQ25
    have N25 := Fr.app N23 N25q
    have O26 := O24.keep K25q (allS g3 (allS g20 all0))
    have K26 := K24.trans K25q (allS (Or.inr z3) (allS (Or.inr z20) all0))
    have hk_26 := Nat.le_trans hk_24 K25q.1
    show own_Go p.tables e below _ (T25.setTop (mkF m 62 #[.val (Value.int p1), .val (Value.int p2), .val (Value.int p3), .val (Value.int p4), .val (Value.int p5), .val (Value.int b0), .val (Value.int b1), .val (Value.int b2), .val (Value.int b3), .val (Value.int (0 : Int32)), .val (Value.ref ob1), .unset, .unset, .unset, .unset] []))
    refine own_Go.by (fun tq kq => XS.aload X25.here hx rfl (hb hby at_62) rfl rfl kq) ?_
    show own_Go p.tables e below _ (T25.setTop (mkF m 64 #[.val (Value.int p1), .val (Value.int p2), .val (Value.int p3), .val (Value.int p4), .val (Value.int p5), .val (Value.int b0), .val (Value.int b1), .val (Value.int b2), .val (Value.int b3), .val (Value.int (0 : Int32)), .val (Value.ref ob1), .unset, .unset, .unset, .unset] [(Value.ref ob1)]))
    refine own_Go.by (fun tq kq => XS.iload X25.here hx rfl (hb hby at_64) rfl kq) ?_
    show own_Go p.tables e below _ (T25.setTop (mkF m 66 #[.val (Value.int p1), .val (Value.int p2), .val (Value.int p3), .val (Value.int p4), .val (Value.int p5), .val (Value.int b0), .val (Value.int b1), .val (Value.int b2), .val (Value.int b3), .val (Value.int (0 : Int32)), .val (Value.ref ob1), .unset, .unset, .unset, .unset] [(Value.int b2), (Value.ref ob1)]))
    obtain ⟨cq27, kq27, q27a, q27b, q27c⟩ := isOf hZ7 rfl p25_0
    obtain ⟨_, _, ⟨T27, L27, k27, n27⟩, -, X27, ⟨Lc27, hQ27, l27, y27, z27⟩, st27⟩ := X25.virtualBack hx (y := (⟨"com/example/plain_bastion/plainbastion/ssh/TypedText", "append", "(B)V"⟩ : MethodName)) (z := (⟨"com/example/plain_bastion/plainbastion/ssh/TypedText", "append", "(B)V"⟩ : MethodName)) hown7 (mvT hZ7 (hw _ (List.mem_of_getElem? (i := 29) rfl))) (mvT hZ7 (hw _ (List.mem_of_getElem? (i := 30) rfl))) (notFace_of_selects (args := #[]) (mvT hZ7 (hw _ (List.mem_of_getElem? (i := 32) rfl)))) (mvT hZ7 (hw _ (List.mem_of_getElem? (i := 32) rfl))) (mvT hZ7 (hw _ (List.mem_of_getElem? (i := 31) rfl))) (by decide) (backOf (W := 0) (rm3 l Z a0 hw [] ob1 b_9 kb_9 (((((List.replicate 256 (Value.int (0 : Int32))).set 0 (Value.int b0)).set 1 (Value.int b1))).take (254 : Int32).toNatClampNeg ++ ((List.range (2 : Int32).toNatClampNeg).map fun i => ((((List.replicate 256 (Value.int (0 : Int32))).set 0 (Value.int b0)).set 1 (Value.int b1))).getD ((0 : Int32).toNatClampNeg + i) (Value.int (0 : Int32))) ++ ((((List.replicate 256 (Value.int (0 : Int32))).set 0 (Value.int b0)).set 1 (Value.int b1))).drop ((254 : Int32).toNatClampNeg + (2 : Int32).toNatClampNeg)) (0 : Int32) (2 : Int32) b2 br2_23 (0 : Int32) 0 T25.heap n0 O26 p25_0 p25_1 p25_2 p25_3 p25_6 p25_4 p25_5 g3 g20 (Nat.ne_of_lt (Nat.lt_of_lt_of_le A1.lt (Nat.le_trans E5.1 (Nat.le_trans E7.1 p9_0)))) (by decide : ((0 : Int32) + (2 : Int32)) < (65536 : Int32)) (by decide : ¬ (((0 : Int32) + (2 : Int32)) = (256 : Int32))) (by decide : ¬ ((0 : Int32) < (0 : Int32)) ∧ (0 : Int32) < (256 : Int32)) (rfl : (0 : Int32).toNatClampNeg = 0) (Nat.le_of_ble_eq_true rfl : 0 < (((((List.replicate 256 (Value.int (0 : Int32))).set 0 (Value.int b0)).set 1 (Value.int b1))).take (254 : Int32).toNatClampNeg ++ ((List.range (2 : Int32).toNatClampNeg).map fun i => ((((List.replicate 256 (Value.int (0 : Int32))).set 0 (Value.int b0)).set 1 (Value.int b1))).getD ((0 : Int32).toNatClampNeg + i) (Value.int (0 : Int32))) ++ ((((List.replicate 256 (Value.int (0 : Int32))).set 0 (Value.int b0)).set 1 (Value.int b1))).drop ((254 : Int32).toNatClampNeg + (2 : Int32).toNatClampNeg)).length) (own_b8 hv_b2 : b2.toInt8.toInt32 = b2)) hZ7 (hw _ (List.mem_of_getElem? (i := 33) rfl)) (hw _ (List.mem_of_getElem? (i := 3) rfl)) (by decide) (by decide)) q27a q27c (g := (mkF m 66 #[.val (Value.int p1), .val (Value.int p2), .val (Value.int p3), .val (Value.int p4), .val (Value.int p5), .val (Value.int b0), .val (Value.int b1), .val (Value.int b2), .val (Value.int b3), .val (Value.int (0 : Int32)), .val (Value.ref ob1), .unset, .unset, .unset, .unset] [(Value.int b2), (Value.ref ob1)])) rfl (by rw [hml]; rfl) (Steps.refl _) (argsL := [(Value.int b2)]) (rest := []) (lenOf own_pd2 rfl) rfl (by show 2 * 0 + _ ≤ _; exact Nat.le_of_eq rfl) (hb hby at_66) (fun _ _ => ⟨rfl, rfl, (by decide : 6 + 0 ≤ _), (by decide : 276 + 0 ≤ _)⟩)
    dsimp only [Pt.U, Pt.locs, Pt.cells, Pt.slots] at X27 l27 y27 z27 st27 hQ27
    subst l27 y27 z27
    refine own_Go.by (fun tq kq => st27.trans kq) ?_
    obtain ⟨br2_27, rfl, N27q, K27q, p27_0, p27_1, p27_2, p27_3, p27_4, p27_5, p27_6⟩ := hQ27
    have N27 := Fr.app N25 N27q
    have O28 := O26.keep K27q (allS g3 (allS g20 all0))
    have K28 := K26.trans K27q (allS (Or.inr z3) (allS (Or.inr z20) all0))
    have hk_28 := Nat.le_trans hk_26 K27q.1
    show own_Go p.tables e below _ (T27.setTop (mkF m 69 #[.val (Value.int p1), .val (Value.int p2), .val (Value.int p3), .val (Value.int p4), .val (Value.int p5), .val (Value.int b0), .val (Value.int b1), .val (Value.int b2), .val (Value.int b3), .val (Value.int (0 : Int32)), .val (Value.ref ob1), .unset, .unset, .unset, .unset] []))
    refine own_Go.by (fun tq kq => XS.aload X27.here hx rfl (hb hby at_69) rfl rfl kq) ?_
    show own_Go p.tables e below _ (T27.setTop (mkF m 71 #[.val (Value.int p1), .val (Value.int p2), .val (Value.int p3), .val (Value.int p4), .val (Value.int p5), .val (Value.int b0), .val (Value.int b1), .val (Value.int b2), .val (Value.int b3), .val (Value.int (0 : Int32)), .val (Value.ref ob1), .unset, .unset, .unset, .unset] [(Value.ref ob1)]))
    refine own_Go.by (fun tq kq => XS.iload X27.here hx rfl (hb hby at_71) rfl kq) ?_
    show own_Go p.tables e below _ (T27.setTop (mkF m 73 #[.val (Value.int p1), .val (Value.int p2), .val (Value.int p3), .val (Value.int p4), .val (Value.int p5), .val (Value.int b0), .val (Value.int b1), .val (Value.int b2), .val (Value.int b3), .val (Value.int (0 : Int32)), .val (Value.ref ob1), .unset, .unset, .unset, .unset] [(Value.int b3), (Value.ref ob1)]))
    obtain ⟨cq29, kq29, q29a, q29b, q29c⟩ := isOf hZ7 rfl p27_0
    obtain ⟨_, _, ⟨T29, L29, k29, n29⟩, -, X29, ⟨Lc29, hQ29, l29, y29, z29⟩, st29⟩ := X27.virtualBack hx (y := (⟨"com/example/plain_bastion/plainbastion/ssh/TypedText", "append", "(B)V"⟩ : MethodName)) (z := (⟨"com/example/plain_bastion/plainbastion/ssh/TypedText", "append", "(B)V"⟩ : MethodName)) hown7 (mvT hZ7 (hw _ (List.mem_of_getElem? (i := 29) rfl))) (mvT hZ7 (hw _ (List.mem_of_getElem? (i := 30) rfl))) (notFace_of_selects (args := #[]) (mvT hZ7 (hw _ (List.mem_of_getElem? (i := 32) rfl)))) (mvT hZ7 (hw _ (List.mem_of_getElem? (i := 32) rfl))) (mvT hZ7 (hw _ (List.mem_of_getElem? (i := 31) rfl))) (by decide) (backOf (W := 0) (rm3 l Z a0 hw [] ob1 b_9 kb_9 ((((((List.replicate 256 (Value.int (0 : Int32))).set 0 (Value.int b0)).set 1 (Value.int b1))).take (254 : Int32).toNatClampNeg ++ ((List.range (2 : Int32).toNatClampNeg).map fun i => ((((List.replicate 256 (Value.int (0 : Int32))).set 0 (Value.int b0)).set 1 (Value.int b1))).getD ((0 : Int32).toNatClampNeg + i) (Value.int (0 : Int32))) ++ ((((List.replicate 256 (Value.int (0 : Int32))).set 0 (Value.int b0)).set 1 (Value.int b1))).drop ((254 : Int32).toNatClampNeg + (2 : Int32).toNatClampNeg)).set 0 (Value.int b2)) (1 : Int32) (2 : Int32) b3 br2_27 (0 : Int32) 1 T27.heap n0 O28 p27_0 p27_1 p27_2 p27_3 p27_6 p27_4 p27_5 g3 g20 (Nat.ne_of_lt (Nat.lt_of_lt_of_le A1.lt (Nat.le_trans E5.1 (Nat.le_trans E7.1 p9_0)))) (by decide : ((1 : Int32) + (2 : Int32)) < (65536 : Int32)) (by decide : ¬ (((1 : Int32) + (2 : Int32)) = (256 : Int32))) (by decide : ¬ ((1 : Int32) < (0 : Int32)) ∧ (1 : Int32) < (256 : Int32)) (rfl : (1 : Int32).toNatClampNeg = 1) (Nat.le_of_ble_eq_true rfl : 1 < ((((((List.replicate 256 (Value.int (0 : Int32))).set 0 (Value.int b0)).set 1 (Value.int b1))).take (254 : Int32).toNatClampNeg ++ ((List.range (2 : Int32).toNatClampNeg).map fun i => ((((List.replicate 256 (Value.int (0 : Int32))).set 0 (Value.int b0)).set 1 (Value.int b1))).getD ((0 : Int32).toNatClampNeg + i) (Value.int (0 : Int32))) ++ ((((List.replicate 256 (Value.int (0 : Int32))).set 0 (Value.int b0)).set 1 (Value.int b1))).drop ((254 : Int32).toNatClampNeg + (2 : Int32).toNatClampNeg)).set 0 (Value.int b2)).length) (own_b8 hv_b3 : b3.toInt8.toInt32 = b3)) hZ7 (hw _ (List.mem_of_getElem? (i := 33) rfl)) (hw _ (List.mem_of_getElem? (i := 3) rfl)) (by decide) (by decide)) q29a q29c (g := (mkF m 73 #[.val (Value.int p1), .val (Value.int p2), .val (Value.int p3), .val (Value.int p4), .val (Value.int p5), .val (Value.int b0), .val (Value.int b1), .val (Value.int b2), .val (Value.int b3), .val (Value.int (0 : Int32)), .val (Value.ref ob1), .unset, .unset, .unset, .unset] [(Value.int b3), (Value.ref ob1)])) rfl (by rw [hml]; rfl) (Steps.refl _) (argsL := [(Value.int b3)]) (rest := []) (lenOf own_pd2 rfl) rfl (by show 2 * 0 + _ ≤ _; exact Nat.le_of_eq rfl) (hb hby at_73) (fun _ _ => ⟨rfl, rfl, (by decide : 6 + 0 ≤ _), (by decide : 276 + 0 ≤ _)⟩)
    dsimp only [Pt.U, Pt.locs, Pt.cells, Pt.slots] at X29 l29 y29 z29 st29 hQ29
    subst l29 y29 z29
    refine own_Go.by (fun tq kq => st29.trans kq) ?_
    obtain ⟨br2_29, rfl, N29q, K29q, p29_0, p29_1, p29_2, p29_3, p29_4, p29_5, p29_6⟩ := hQ29
    have N29 := Fr.app N27 N29q
    have O30 := O28.keep K29q (allS g3 (allS g20 all0))
    have K30 := K28.trans K29q (allS (Or.inr z3) (allS (Or.inr z20) all0))
    have hk_30 := Nat.le_trans hk_28 K29q.1
    show own_Go p.tables e below _ (T29.setTop (mkF m 76 #[.val (Value.int p1), .val (Value.int p2), .val (Value.int p3), .val (Value.int p4), .val (Value.int p5), .val (Value.int b0), .val (Value.int b1), .val (Value.int b2), .val (Value.int b3), .val (Value.int (0 : Int32)), .val (Value.ref ob1), .unset, .unset, .unset, .unset] []))
    refine own_Go.by (fun tq kq => XS.iload X29.here hx rfl (hb hby at_76) rfl kq) ?_
    show own_Go p.tables e below _ (T29.setTop (mkF m 78 #[.val (Value.int p1), .val (Value.int p2), .val (Value.int p3), .val (Value.int p4), .val (Value.int p5), .val (Value.int b0), .val (Value.int b1), .val (Value.int b2), .val (Value.int b3), .val (Value.int (0 : Int32)), .val (Value.ref ob1), .unset, .unset, .unset, .unset] [(Value.int (0 : Int32))]))
    refine own_Go.by (fun tq kq => XS.ifNo X29.here hx rfl (hb hby at_78) rfl ((if0 _ _).trans (teq (by decide : (0 : Int32) = (0 : Int32))).2) kq) ?_
    show own_Go p.tables e below _ (T29.setTop (mkF m 81 #[.val (Value.int p1), .val (Value.int p2), .val (Value.int p3), .val (Value.int p4), .val (Value.int p5), .val (Value.int b0), .val (Value.int b1), .val (Value.int b2), .val (Value.int b3), .val (Value.int (0 : Int32)), .val (Value.ref ob1), .unset, .unset, .unset, .unset] []))
    refine own_Go.by (fun tq kq => XS.iload X29.here hx rfl (hb hby at_81) rfl kq) ?_
    show own_Go p.tables e below _ (T29.setTop (mkF m 83 #[.val (Value.int p1), .val (Value.int p2), .val (Value.int p3), .val (Value.int p4), .val (Value.int p5), .val (Value.int b0), .val (Value.int b1), .val (Value.int b2), .val (Value.int b3), .val (Value.int (0 : Int32)), .val (Value.ref ob1), .unset, .unset, .unset, .unset] [(Value.int b2)]))
    refine own_Go.by (fun tq kq => XS.goto X29.here hx rfl (pc0 := 83) (pc' := 88) rfl (hb hby at_83) (by decide) (by decide) kq) ?_
    show own_Go p.tables e below _ (T29.setTop (mkF m 88 #[.val (Value.int p1), .val (Value.int p2), .val (Value.int p3), .val (Value.int p4), .val (Value.int p5), .val (Value.int b0), .val (Value.int b1), .val (Value.int b2), .val (Value.int b3), .val (Value.int (0 : Int32)), .val (Value.ref ob1), .unset, .unset, .unset, .unset] [(Value.int b2)]))
    refine own_Go.by (fun tq kq => XS.istore X29.here hx rfl (hb hby at_88) rfl (l' := #[.val (Value.int p1), .val (Value.int p2), .val (Value.int p3), .val (Value.int p4), .val (Value.int p5), .val (Value.int b0), .val (Value.int b1), .val (Value.int b2), .val (Value.int b3), .val (Value.int (0 : Int32)), .val (Value.ref ob1), .val (Value.int b2), .unset, .unset, .unset]) rfl kq) ?_
    show own_Go p.tables e below _ (T29.setTop (mkF m 90 #[.val (Value.int p1), .val (Value.int p2), .val (Value.int p3), .val (Value.int p4), .val (Value.int p5), .val (Value.int b0), .val (Value.int b1), .val (Value.int b2), .val (Value.int b3), .val (Value.int (0 : Int32)), .val (Value.ref ob1), .val (Value.int b2), .unset, .unset, .unset] []))
    refine own_Go.by (fun tq kq => XS.iload X29.here hx rfl (hb hby at_90) rfl kq) ?_
    show own_Go p.tables e below _ (T29.setTop (mkF m 92 #[.val (Value.int p1), .val (Value.int p2), .val (Value.int p3), .val (Value.int p4), .val (Value.int p5), .val (Value.int b0), .val (Value.int b1), .val (Value.int b2), .val (Value.int b3), .val (Value.int (0 : Int32)), .val (Value.ref ob1), .val (Value.int b2), .unset, .unset, .unset] [(Value.int (0 : Int32))]))
    refine own_Go.by (fun tq kq => XS.ifNo X29.here hx rfl (hb hby at_92) rfl ((if0 _ _).trans (teq (by decide : (0 : Int32) = (0 : Int32))).2) kq) ?_
    show own_Go p.tables e below _ (T29.setTop (mkF m 95 #[.val (Value.int p1), .val (Value.int p2), .val (Value.int p3), .val (Value.int p4), .val (Value.int p5), .val (Value.int b0), .val (Value.int b1), .val (Value.int b2), .val (Value.int b3), .val (Value.int (0 : Int32)), .val (Value.ref ob1), .val (Value.int b2), .unset, .unset, .unset] []))
    refine own_Go.by (fun tq kq => XS.iload X29.here hx rfl (hb hby at_95) rfl kq) ?_
    show own_Go p.tables e below _ (T29.setTop (mkF m 97 #[.val (Value.int p1), .val (Value.int p2), .val (Value.int p3), .val (Value.int p4), .val (Value.int p5), .val (Value.int b0), .val (Value.int b1), .val (Value.int b2), .val (Value.int b3), .val (Value.int (0 : Int32)), .val (Value.ref ob1), .val (Value.int b2), .unset, .unset, .unset] [(Value.int b3)]))
    refine own_Go.by (fun tq kq => XS.goto X29.here hx rfl (pc0 := 97) (pc' := 113) rfl (hb hby at_97) (by decide) (by decide) kq) ?_
    show own_Go p.tables e below _ (T29.setTop (mkF m 113 #[.val (Value.int p1), .val (Value.int p2), .val (Value.int p3), .val (Value.int p4), .val (Value.int p5), .val (Value.int b0), .val (Value.int b1), .val (Value.int b2), .val (Value.int b3), .val (Value.int (0 : Int32)), .val (Value.ref ob1), .val (Value.int b2), .unset, .unset, .unset] [(Value.int b3)]))
    refine own_Go.by (fun tq kq => XS.istore X29.here hx rfl (hb hby at_113) rfl (l' := #[.val (Value.int p1), .val (Value.int p2), .val (Value.int p3), .val (Value.int p4), .val (Value.int p5), .val (Value.int b0), .val (Value.int b1), .val (Value.int b2), .val (Value.int b3), .val (Value.int (0 : Int32)), .val (Value.ref ob1), .val (Value.int b2), .val (Value.int b3), .unset, .unset]) rfl kq) ?_
    show own_Go p.tables e below _ (T29.setTop (mkF m 115 #[.val (Value.int p1), .val (Value.int p2), .val (Value.int p3), .val (Value.int p4), .val (Value.int p5), .val (Value.int b0), .val (Value.int b1), .val (Value.int b2), .val (Value.int b3), .val (Value.int (0 : Int32)), .val (Value.ref ob1), .val (Value.int b2), .val (Value.int b3), .unset, .unset] []))
    refine own_Go.by (fun tq kq => XS.iload X29.here hx rfl (hb hby at_115) rfl kq) ?_
    show own_Go p.tables e below _ (T29.setTop (mkF m 117 #[.val (Value.int p1), .val (Value.int p2), .val (Value.int p3), .val (Value.int p4), .val (Value.int p5), .val (Value.int b0), .val (Value.int b1), .val (Value.int b2), .val (Value.int b3), .val (Value.int (0 : Int32)), .val (Value.ref ob1), .val (Value.int b2), .val (Value.int b3), .unset, .unset] [(Value.int (0 : Int32))]))
    refine own_Go.by (fun tq kq => XS.ifNo X29.here hx rfl (hb hby at_117) rfl ((if0 _ _).trans (teq (by decide : (0 : Int32) = (0 : Int32))).2) kq) ?_
    show own_Go p.tables e below _ (T29.setTop (mkF m 120 #[.val (Value.int p1), .val (Value.int p2), .val (Value.int p3), .val (Value.int p4), .val (Value.int p5), .val (Value.int b0), .val (Value.int b1), .val (Value.int b2), .val (Value.int b3), .val (Value.int (0 : Int32)), .val (Value.ref ob1), .val (Value.int b2), .val (Value.int b3), .unset, .unset] []))
    refine own_Go.by (fun tq kq => XS.iload X29.here hx rfl (hb hby at_120) rfl kq) ?_
    show own_Go p.tables e below _ (T29.setTop (mkF m 122 #[.val (Value.int p1), .val (Value.int p2), .val (Value.int p3), .val (Value.int p4), .val (Value.int p5), .val (Value.int b0), .val (Value.int b1), .val (Value.int b2), .val (Value.int b3), .val (Value.int (0 : Int32)), .val (Value.ref ob1), .val (Value.int b2), .val (Value.int b3), .unset, .unset] [(Value.int b0)]))
    refine own_Go.by (fun tq kq => XS.goto X29.here hx rfl (pc0 := 122) (pc' := 138) rfl (hb hby at_122) (by decide) (by decide) kq) ?_
    show own_Go p.tables e below _ (T29.setTop (mkF m 138 #[.val (Value.int p1), .val (Value.int p2), .val (Value.int p3), .val (Value.int p4), .val (Value.int p5), .val (Value.int b0), .val (Value.int b1), .val (Value.int b2), .val (Value.int b3), .val (Value.int (0 : Int32)), .val (Value.ref ob1), .val (Value.int b2), .val (Value.int b3), .unset, .unset] [(Value.int b0)]))
    refine own_Go.by (fun tq kq => XS.istore X29.here hx rfl (hb hby at_138) rfl (l' := #[.val (Value.int p1), .val (Value.int p2), .val (Value.int p3), .val (Value.int p4), .val (Value.int p5), .val (Value.int b0), .val (Value.int b1), .val (Value.int b2), .val (Value.int b3), .val (Value.int (0 : Int32)), .val (Value.ref ob1), .val (Value.int b2), .val (Value.int b3), .val (Value.int b0), .unset]) rfl kq) ?_
    show own_Go p.tables e below _ (T29.setTop (mkF m 140 #[.val (Value.int p1), .val (Value.int p2), .val (Value.int p3), .val (Value.int p4), .val (Value.int p5), .val (Value.int b0), .val (Value.int b1), .val (Value.int b2), .val (Value.int b3), .val (Value.int (0 : Int32)), .val (Value.ref ob1), .val (Value.int b2), .val (Value.int b3), .val (Value.int b0), .unset] []))
    refine own_Go.by (fun tq kq => XS.iload X29.here hx rfl (hb hby at_140) rfl kq) ?_
    show own_Go p.tables e below _ (T29.setTop (mkF m 142 #[.val (Value.int p1), .val (Value.int p2), .val (Value.int p3), .val (Value.int p4), .val (Value.int p5), .val (Value.int b0), .val (Value.int b1), .val (Value.int b2), .val (Value.int b3), .val (Value.int (0 : Int32)), .val (Value.ref ob1), .val (Value.int b2), .val (Value.int b3), .val (Value.int b0), .unset] [(Value.int (0 : Int32))]))
    refine own_Go.by (fun tq kq => XS.iconst X29.here hx rfl (hb hby at_142) kq) ?_
    show own_Go p.tables e below _ (T29.setTop (mkF m 143 #[.val (Value.int p1), .val (Value.int p2), .val (Value.int p3), .val (Value.int p4), .val (Value.int p5), .val (Value.int b0), .val (Value.int b1), .val (Value.int b2), .val (Value.int b3), .val (Value.int (0 : Int32)), .val (Value.ref ob1), .val (Value.int b2), .val (Value.int b3), .val (Value.int b0), .unset] [(Value.int (2 : Int32)), (Value.int (0 : Int32))]))
    refine own_Go.by (fun tq kq => XS.icmpYes X29.here hx rfl (pc0 := 143) (pc' := 151) rfl (hb hby at_143) rfl (feq (by decide : ¬ ((0 : Int32) = (2 : Int32)))).2 (by decide) (by decide) kq) ?_
    show own_Go p.tables e below _ (T29.setTop (mkF m 151 #[.val (Value.int p1), .val (Value.int p2), .val (Value.int p3), .val (Value.int p4), .val (Value.int p5), .val (Value.int b0), .val (Value.int b1), .val (Value.int b2), .val (Value.int b3), .val (Value.int (0 : Int32)), .val (Value.ref ob1), .val (Value.int b2), .val (Value.int b3), .val (Value.int b0), .unset] []))
    refine own_Go.by (fun tq kq => XS.iload X29.here hx rfl (hb hby at_151) rfl kq) ?_
    show own_Go p.tables e below _ (T29.setTop (mkF m 153 #[.val (Value.int p1), .val (Value.int p2), .val (Value.int p3), .val (Value.int p4), .val (Value.int p5), .val (Value.int b0), .val (Value.int b1), .val (Value.int b2), .val (Value.int b3), .val (Value.int (0 : Int32)), .val (Value.ref ob1), .val (Value.int b2), .val (Value.int b3), .val (Value.int b0), .unset] [(Value.int b1)]))
    refine own_Go.by (fun tq kq => XS.istore X29.here hx rfl (hb hby at_153) rfl (l' := #[.val (Value.int p1), .val (Value.int p2), .val (Value.int p3), .val (Value.int p4), .val (Value.int p5), .val (Value.int b0), .val (Value.int b1), .val (Value.int b2), .val (Value.int b3), .val (Value.int (0 : Int32)), .val (Value.ref ob1), .val (Value.int b2), .val (Value.int b3), .val (Value.int b0), .val (Value.int b1)]) rfl kq) ?_
    show own_Go p.tables e below _ (T29.setTop (mkF m 155 #[.val (Value.int p1), .val (Value.int p2), .val (Value.int p3), .val (Value.int p4), .val (Value.int p5), .val (Value.int b0), .val (Value.int b1), .val (Value.int b2), .val (Value.int b3), .val (Value.int (0 : Int32)), .val (Value.ref ob1), .val (Value.int b2), .val (Value.int b3), .val (Value.int b0), .val (Value.int b1)] []))
    refine own_Go.by (fun tq kq => XS.aload X29.here hx rfl (hb hby at_155) rfl rfl kq) ?_
    show own_Go p.tables e below _ (T29.setTop (mkF m 157 #[.val (Value.int p1), .val (Value.int p2), .val (Value.int p3), .val (Value.int p4), .val (Value.int p5), .val (Value.int b0), .val (Value.int b1), .val (Value.int b2), .val (Value.int b3), .val (Value.int (0 : Int32)), .val (Value.ref ob1), .val (Value.int b2), .val (Value.int b3), .val (Value.int b0), .val (Value.int b1)] [(Value.ref ob1)]))
    refine own_Go.by (fun tq kq => XS.iconst X29.here hx rfl (hb hby at_157) kq) ?_
    show own_Go p.tables e below _ (T29.setTop (mkF m 158 #[.val (Value.int p1), .val (Value.int p2), .val (Value.int p3), .val (Value.int p4), .val (Value.int p5), .val (Value.int b0), .val (Value.int b1), .val (Value.int b2), .val (Value.int b3), .val (Value.int (0 : Int32)), .val (Value.ref ob1), .val (Value.int b2), .val (Value.int b3), .val (Value.int b0), .val (Value.int b1)] [(Value.int (0 : Int32)), (Value.ref ob1)]))
    obtain ⟨cq31, kq31, q31a, q31b, q31c⟩ := isOf hZ7 rfl p29_0
    obtain ⟨_, _, ⟨T31, L31, k31, n31⟩, -, X31, ⟨Lc31, hQ31, l31, y31, z31⟩, st31⟩ := X29.virtualBack hx (y := (⟨"com/example/plain_bastion/plainbastion/ssh/TypedText", "at", "(I)B"⟩ : MethodName)) (z := (⟨"com/example/plain_bastion/plainbastion/ssh/TypedText", "at", "(I)B"⟩ : MethodName)) hown7 (mvT hZ7 (hw _ (List.mem_of_getElem? (i := 57) rfl))) (mvT hZ7 (hw _ (List.mem_of_getElem? (i := 58) rfl))) (notFace_of_selects (args := #[]) (mvT hZ7 (hw _ (List.mem_of_getElem? (i := 60) rfl)))) (mvT hZ7 (hw _ (List.mem_of_getElem? (i := 60) rfl))) (mvT hZ7 (hw _ (List.mem_of_getElem? (i := 59) rfl))) (by decide) (backOf (W := 0) (rm6_lo l Z a0 hw [] ob1 b_9 kb_9 (((((((List.replicate 256 (Value.int (0 : Int32))).set 0 (Value.int b0)).set 1 (Value.int b1))).take (254 : Int32).toNatClampNeg ++ ((List.range (2 : Int32).toNatClampNeg).map fun i => ((((List.replicate 256 (Value.int (0 : Int32))).set 0 (Value.int b0)).set 1 (Value.int b1))).getD ((0 : Int32).toNatClampNeg + i) (Value.int (0 : Int32))) ++ ((((List.replicate 256 (Value.int (0 : Int32))).set 0 (Value.int b0)).set 1 (Value.int b1))).drop ((254 : Int32).toNatClampNeg + (2 : Int32).toNatClampNeg)).set 0 (Value.int b2)).set 1 (Value.int b3)) (2 : Int32) (2 : Int32) (0 : Int32) b2 T29.heap n0 O30 p29_0 p29_1 p29_2 p29_3 p29_6 (by decide : (0 : Int32) < (2 : Int32)) (by decide : ¬ ((0 : Int32) < (0 : Int32)) ∧ (0 : Int32) < (256 : Int32)) (rfl : (((((((List.replicate 256 (Value.int (0 : Int32))).set 0 (Value.int b0)).set 1 (Value.int b1))).take (254 : Int32).toNatClampNeg ++ ((List.range (2 : Int32).toNatClampNeg).map fun i => ((((List.replicate 256 (Value.int (0 : Int32))).set 0 (Value.int b0)).set 1 (Value.int b1))).getD ((0 : Int32).toNatClampNeg + i) (Value.int (0 : Int32))) ++ ((((List.replicate 256 (Value.int (0 : Int32))).set 0 (Value.int b0)).set 1 (Value.int b1))).drop ((254 : Int32).toNatClampNeg + (2 : Int32).toNatClampNeg)).set 0 (Value.int b2)).set 1 (Value.int b3)).getD (0 : Int32).toNatClampNeg (Value.int (0 : Int32)) = (Value.int b2)) (own_b8 hv_b2 : b2.toInt8.toInt32 = b2)) hZ7 (hw _ (List.mem_of_getElem? (i := 61) rfl)) (hw _ (List.mem_of_getElem? (i := 3) rfl)) (by decide) (by decide)) q31a q31c (g := (mkF m 158 #[.val (Value.int p1), .val (Value.int p2), .val (Value.int p3), .val (Value.int p4), .val (Value.int p5), .val (Value.int b0), .val (Value.int b1), .val (Value.int b2), .val (Value.int b3), .val (Value.int (0 : Int32)), .val (Value.ref ob1), .val (Value.int b2), .val (Value.int b3), .val (Value.int b0), .val (Value.int b1)] [(Value.int (0 : Int32)), (Value.ref ob1)])) rfl (by rw [hml]; rfl) (Steps.refl _) (argsL := [(Value.int (0 : Int32))]) (rest := []) (lenOf own_pd4 rfl) rfl (by show 2 * 0 + _ ≤ _; exact Nat.le_of_eq rfl) (hb hby at_158) (fun _ _ => ⟨rfl, rfl, (by decide : 6 + 0 ≤ _), (by decide : 276 + 0 ≤ _)⟩)
    dsimp only [Pt.U, Pt.locs, Pt.cells, Pt.slots] at X31 l31 y31 z31 st31 hQ31
    subst l31 y31 z31
    refine own_Go.by (fun tq kq => st31.trans kq) ?_
    obtain ⟨rfl, N31q, e31⟩ := hQ31
    have N31 := Fr.app N29 N31q
    show own_Go p.tables e below _ (T31.setTop (mkF m 161 #[.val (Value.int p1), .val (Value.int p2), .val (Value.int p3), .val (Value.int p4), .val (Value.int p5), .val (Value.int b0), .val (Value.int b1), .val (Value.int b2), .val (Value.int b3), .val (Value.int (0 : Int32)), .val (Value.ref ob1), .val (Value.int b2), .val (Value.int b3), .val (Value.int b0), .val (Value.int b1)] [(Value.int b2)]))
    refine own_Go.by (fun tq kq => XS.iload X31.here hx rfl (hb hby at_161) rfl kq) ?_
    show own_Go p.tables e below _ (T31.setTop (mkF m 163 #[.val (Value.int p1), .val (Value.int p2), .val (Value.int p3), .val (Value.int p4), .val (Value.int p5), .val (Value.int b0), .val (Value.int b1), .val (Value.int b2), .val (Value.int b3), .val (Value.int (0 : Int32)), .val (Value.ref ob1), .val (Value.int b2), .val (Value.int b3), .val (Value.int b0), .val (Value.int b1)] [(Value.int b2), (Value.int b2)]))
    refine own_Go.by (fun tq kq => XS.icmpNo X31.here hx rfl (hb hby at_163) rfl (teq (rfl : b2 = b2)).2 kq) ?_
    show own_Go p.tables e below _ (T31.setTop (mkF m 166 #[.val (Value.int p1), .val (Value.int p2), .val (Value.int p3), .val (Value.int p4), .val (Value.int p5), .val (Value.int b0), .val (Value.int b1), .val (Value.int b2), .val (Value.int b3), .val (Value.int (0 : Int32)), .val (Value.ref ob1), .val (Value.int b2), .val (Value.int b3), .val (Value.int b0), .val (Value.int b1)] []))
    refine own_Go.by (fun tq kq => XS.aload X31.here hx rfl (hb hby at_166) rfl rfl kq) ?_
    show own_Go p.tables e below _ (T31.setTop (mkF m 168 #[.val (Value.int p1), .val (Value.int p2), .val (Value.int p3), .val (Value.int p4), .val (Value.int p5), .val (Value.int b0), .val (Value.int b1), .val (Value.int b2), .val (Value.int b3), .val (Value.int (0 : Int32)), .val (Value.ref ob1), .val (Value.int b2), .val (Value.int b3), .val (Value.int b0), .val (Value.int b1)] [(Value.ref ob1)]))
    refine own_Go.by (fun tq kq => XS.iconst X31.here hx rfl (hb hby at_168) kq) ?_
    show own_Go p.tables e below _ (T31.setTop (mkF m 169 #[.val (Value.int p1), .val (Value.int p2), .val (Value.int p3), .val (Value.int p4), .val (Value.int p5), .val (Value.int b0), .val (Value.int b1), .val (Value.int b2), .val (Value.int b3), .val (Value.int (0 : Int32)), .val (Value.ref ob1), .val (Value.int b2), .val (Value.int b3), .val (Value.int b0), .val (Value.int b1)] [(Value.int (1 : Int32)), (Value.ref ob1)]))
    obtain ⟨cq32, kq32, q32a, q32b, q32c⟩ := isOf hZ7 e31 p29_0
    obtain ⟨_, _, ⟨T32, L32, k32, n32⟩, -, X32, ⟨Lc32, hQ32, l32, y32, z32⟩, st32⟩ := X31.virtualBack hx (y := (⟨"com/example/plain_bastion/plainbastion/ssh/TypedText", "at", "(I)B"⟩ : MethodName)) (z := (⟨"com/example/plain_bastion/plainbastion/ssh/TypedText", "at", "(I)B"⟩ : MethodName)) hown7 (mvT hZ7 (hw _ (List.mem_of_getElem? (i := 57) rfl))) (mvT hZ7 (hw _ (List.mem_of_getElem? (i := 58) rfl))) (notFace_of_selects (args := #[]) (mvT hZ7 (hw _ (List.mem_of_getElem? (i := 60) rfl)))) (mvT hZ7 (hw _ (List.mem_of_getElem? (i := 60) rfl))) (mvT hZ7 (hw _ (List.mem_of_getElem? (i := 59) rfl))) (by decide) (backOf (W := 0) (rm6_lo l Z a0 hw [] ob1 b_9 kb_9 (((((((List.replicate 256 (Value.int (0 : Int32))).set 0 (Value.int b0)).set 1 (Value.int b1))).take (254 : Int32).toNatClampNeg ++ ((List.range (2 : Int32).toNatClampNeg).map fun i => ((((List.replicate 256 (Value.int (0 : Int32))).set 0 (Value.int b0)).set 1 (Value.int b1))).getD ((0 : Int32).toNatClampNeg + i) (Value.int (0 : Int32))) ++ ((((List.replicate 256 (Value.int (0 : Int32))).set 0 (Value.int b0)).set 1 (Value.int b1))).drop ((254 : Int32).toNatClampNeg + (2 : Int32).toNatClampNeg)).set 0 (Value.int b2)).set 1 (Value.int b3)) (2 : Int32) (2 : Int32) (1 : Int32) b3 T29.heap n0 O30 p29_0 p29_1 p29_2 p29_3 p29_6 (by decide : (1 : Int32) < (2 : Int32)) (by decide : ¬ ((1 : Int32) < (0 : Int32)) ∧ (1 : Int32) < (256 : Int32)) (rfl : (((((((List.replicate 256 (Value.int (0 : Int32))).set 0 (Value.int b0)).set 1 (Value.int b1))).take (254 : Int32).toNatClampNeg ++ ((List.range (2 : Int32).toNatClampNeg).map fun i => ((((List.replicate 256 (Value.int (0 : Int32))).set 0 (Value.int b0)).set 1 (Value.int b1))).getD ((0 : Int32).toNatClampNeg + i) (Value.int (0 : Int32))) ++ ((((List.replicate 256 (Value.int (0 : Int32))).set 0 (Value.int b0)).set 1 (Value.int b1))).drop ((254 : Int32).toNatClampNeg + (2 : Int32).toNatClampNeg)).set 0 (Value.int b2)).set 1 (Value.int b3)).getD (1 : Int32).toNatClampNeg (Value.int (0 : Int32)) = (Value.int b3)) (own_b8 hv_b3 : b3.toInt8.toInt32 = b3)) hZ7 (hw _ (List.mem_of_getElem? (i := 61) rfl)) (hw _ (List.mem_of_getElem? (i := 3) rfl)) (by decide) (by decide)) q32a q32c (g := (mkF m 169 #[.val (Value.int p1), .val (Value.int p2), .val (Value.int p3), .val (Value.int p4), .val (Value.int p5), .val (Value.int b0), .val (Value.int b1), .val (Value.int b2), .val (Value.int b3), .val (Value.int (0 : Int32)), .val (Value.ref ob1), .val (Value.int b2), .val (Value.int b3), .val (Value.int b0), .val (Value.int b1)] [(Value.int (1 : Int32)), (Value.ref ob1)])) rfl (by rw [hml]; rfl) (Steps.refl _) (argsL := [(Value.int (1 : Int32))]) (rest := []) (lenOf own_pd4 rfl) rfl (by show 2 * 0 + _ ≤ _; exact Nat.le_of_eq rfl) (hb hby at_169) (fun _ _ => ⟨rfl, e31, (by decide : 6 + 0 ≤ _), (by decide : 276 + 0 ≤ _)⟩)
    dsimp only [Pt.U, Pt.locs, Pt.cells, Pt.slots] at X32 l32 y32 z32 st32 hQ32
    subst l32 y32 z32
    refine own_Go.by (fun tq kq => st32.trans kq) ?_
    obtain ⟨rfl, N32q, e32⟩ := hQ32
    have N32 := Fr.app N31 N32q
    show own_Go p.tables e below _ (T32.setTop (mkF m 172 #[.val (Value.int p1), .val (Value.int p2), .val (Value.int p3), .val (Value.int p4), .val (Value.int p5), .val (Value.int b0), .val (Value.int b1), .val (Value.int b2), .val (Value.int b3), .val (Value.int (0 : Int32)), .val (Value.ref ob1), .val (Value.int b2), .val (Value.int b3), .val (Value.int b0), .val (Value.int b1)] [(Value.int b3)]))
    refine own_Go.by (fun tq kq => XS.iload X32.here hx rfl (hb hby at_172) rfl kq) ?_
    show own_Go p.tables e below _ (T32.setTop (mkF m 174 #[.val (Value.int p1), .val (Value.int p2), .val (Value.int p3), .val (Value.int p4), .val (Value.int p5), .val (Value.int b0), .val (Value.int b1), .val (Value.int b2), .val (Value.int b3), .val (Value.int (0 : Int32)), .val (Value.ref ob1), .val (Value.int b2), .val (Value.int b3), .val (Value.int b0), .val (Value.int b1)] [(Value.int b3), (Value.int b3)]))
    refine own_Go.by (fun tq kq => XS.icmpNo X32.here hx rfl (hb hby at_174) rfl (teq (rfl : b3 = b3)).2 kq) ?_
    show own_Go p.tables e below _ (T32.setTop (mkF m 177 #[.val (Value.int p1), .val (Value.int p2), .val (Value.int p3), .val (Value.int p4), .val (Value.int p5), .val (Value.int b0), .val (Value.int b1), .val (Value.int b2), .val (Value.int b3), .val (Value.int (0 : Int32)), .val (Value.ref ob1), .val (Value.int b2), .val (Value.int b3), .val (Value.int b0), .val (Value.int b1)] []))
    refine own_Go.by (fun tq kq => XS.aload X32.here hx rfl (hb hby at_177) rfl rfl kq) ?_
    show own_Go p.tables e below _ (T32.setTop (mkF m 179 #[.val (Value.int p1), .val (Value.int p2), .val (Value.int p3), .val (Value.int p4), .val (Value.int p5), .val (Value.int b0), .val (Value.int b1), .val (Value.int b2), .val (Value.int b3), .val (Value.int (0 : Int32)), .val (Value.ref ob1), .val (Value.int b2), .val (Value.int b3), .val (Value.int b0), .val (Value.int b1)] [(Value.ref ob1)]))
    refine own_Go.by (fun tq kq => XS.iconst X32.here hx rfl (hb hby at_179) kq) ?_
    show own_Go p.tables e below _ (T32.setTop (mkF m 180 #[.val (Value.int p1), .val (Value.int p2), .val (Value.int p3), .val (Value.int p4), .val (Value.int p5), .val (Value.int b0), .val (Value.int b1), .val (Value.int b2), .val (Value.int b3), .val (Value.int (0 : Int32)), .val (Value.ref ob1), .val (Value.int b2), .val (Value.int b3), .val (Value.int b0), .val (Value.int b1)] [(Value.int (2 : Int32)), (Value.ref ob1)]))
    obtain ⟨cq33, kq33, q33a, q33b, q33c⟩ := isOf hZ7 e32 p29_0
    obtain ⟨_, _, ⟨T33, L33, k33, n33⟩, -, X33, ⟨Lc33, hQ33, l33, y33, z33⟩, st33⟩ := X32.virtualBack hx (y := (⟨"com/example/plain_bastion/plainbastion/ssh/TypedText", "at", "(I)B"⟩ : MethodName)) (z := (⟨"com/example/plain_bastion/plainbastion/ssh/TypedText", "at", "(I)B"⟩ : MethodName)) hown7 (mvT hZ7 (hw _ (List.mem_of_getElem? (i := 57) rfl))) (mvT hZ7 (hw _ (List.mem_of_getElem? (i := 58) rfl))) (notFace_of_selects (args := #[]) (mvT hZ7 (hw _ (List.mem_of_getElem? (i := 60) rfl)))) (mvT hZ7 (hw _ (List.mem_of_getElem? (i := 60) rfl))) (mvT hZ7 (hw _ (List.mem_of_getElem? (i := 59) rfl))) (by decide) (backOf (W := 0) (rm6_hi l Z a0 hw [] ob1 b_9 kb_9 (((((((List.replicate 256 (Value.int (0 : Int32))).set 0 (Value.int b0)).set 1 (Value.int b1))).take (254 : Int32).toNatClampNeg ++ ((List.range (2 : Int32).toNatClampNeg).map fun i => ((((List.replicate 256 (Value.int (0 : Int32))).set 0 (Value.int b0)).set 1 (Value.int b1))).getD ((0 : Int32).toNatClampNeg + i) (Value.int (0 : Int32))) ++ ((((List.replicate 256 (Value.int (0 : Int32))).set 0 (Value.int b0)).set 1 (Value.int b1))).drop ((254 : Int32).toNatClampNeg + (2 : Int32).toNatClampNeg)).set 0 (Value.int b2)).set 1 (Value.int b3)) (2 : Int32) (2 : Int32) (2 : Int32) b0 T29.heap n0 O30 p29_0 p29_1 p29_2 p29_3 p29_6 (by decide : ¬ ((2 : Int32) < (2 : Int32))) (by decide : ¬ (((((256 : Int32) - (2 : Int32)) + (2 : Int32)) - (2 : Int32)) < (0 : Int32)) ∧ ((((256 : Int32) - (2 : Int32)) + (2 : Int32)) - (2 : Int32)) < (256 : Int32)) (rfl : (((((((List.replicate 256 (Value.int (0 : Int32))).set 0 (Value.int b0)).set 1 (Value.int b1))).take (254 : Int32).toNatClampNeg ++ ((List.range (2 : Int32).toNatClampNeg).map fun i => ((((List.replicate 256 (Value.int (0 : Int32))).set 0 (Value.int b0)).set 1 (Value.int b1))).getD ((0 : Int32).toNatClampNeg + i) (Value.int (0 : Int32))) ++ ((((List.replicate 256 (Value.int (0 : Int32))).set 0 (Value.int b0)).set 1 (Value.int b1))).drop ((254 : Int32).toNatClampNeg + (2 : Int32).toNatClampNeg)).set 0 (Value.int b2)).set 1 (Value.int b3)).getD ((((256 : Int32) - (2 : Int32)) + (2 : Int32)) - (2 : Int32)).toNatClampNeg (Value.int (0 : Int32)) = (Value.int b0)) (own_b8 hv_b0 : b0.toInt8.toInt32 = b0)) hZ7 (hw _ (List.mem_of_getElem? (i := 61) rfl)) (hw _ (List.mem_of_getElem? (i := 3) rfl)) (by decide) (by decide)) q33a q33c (g := (mkF m 180 #[.val (Value.int p1), .val (Value.int p2), .val (Value.int p3), .val (Value.int p4), .val (Value.int p5), .val (Value.int b0), .val (Value.int b1), .val (Value.int b2), .val (Value.int b3), .val (Value.int (0 : Int32)), .val (Value.ref ob1), .val (Value.int b2), .val (Value.int b3), .val (Value.int b0), .val (Value.int b1)] [(Value.int (2 : Int32)), (Value.ref ob1)])) rfl (by rw [hml]; rfl) (Steps.refl _) (argsL := [(Value.int (2 : Int32))]) (rest := []) (lenOf own_pd4 rfl) rfl (by show 2 * 0 + _ ≤ _; exact Nat.le_of_eq rfl) (hb hby at_180) (fun _ _ => ⟨rfl, e32, (by decide : 6 + 0 ≤ _), (by decide : 276 + 0 ≤ _)⟩)
    dsimp only [Pt.U, Pt.locs, Pt.cells, Pt.slots] at X33 l33 y33 z33 st33 hQ33
    subst l33 y33 z33
    refine own_Go.by (fun tq kq => st33.trans kq) ?_
    obtain ⟨rfl, N33q, e33⟩ := hQ33
    have N33 := Fr.app N32 N33q
    show own_Go p.tables e below _ (T33.setTop (mkF m 183 #[.val (Value.int p1), .val (Value.int p2), .val (Value.int p3), .val (Value.int p4), .val (Value.int p5), .val (Value.int b0), .val (Value.int b1), .val (Value.int b2), .val (Value.int b3), .val (Value.int (0 : Int32)), .val (Value.ref ob1), .val (Value.int b2), .val (Value.int b3), .val (Value.int b0), .val (Value.int b1)] [(Value.int b0)]))
    refine own_Go.by (fun tq kq => XS.iload X33.here hx rfl (hb hby at_183) rfl kq) ?_
    show own_Go p.tables e below _ (T33.setTop (mkF m 185 #[.val (Value.int p1), .val (Value.int p2), .val (Value.int p3), .val (Value.int p4), .val (Value.int p5), .val (Value.int b0), .val (Value.int b1), .val (Value.int b2), .val (Value.int b3), .val (Value.int (0 : Int32)), .val (Value.ref ob1), .val (Value.int b2), .val (Value.int b3), .val (Value.int b0), .val (Value.int b1)] [(Value.int b0), (Value.int b0)]))
    refine own_Go.by (fun tq kq => XS.icmpNo X33.here hx rfl (hb hby at_185) rfl (teq (rfl : b0 = b0)).2 kq) ?_
    show own_Go p.tables e below _ (T33.setTop (mkF m 188 #[.val (Value.int p1), .val (Value.int p2), .val (Value.int p3), .val (Value.int p4), .val (Value.int p5), .val (Value.int b0), .val (Value.int b1), .val (Value.int b2), .val (Value.int b3), .val (Value.int (0 : Int32)), .val (Value.ref ob1), .val (Value.int b2), .val (Value.int b3), .val (Value.int b0), .val (Value.int b1)] []))
    refine own_Go.by (fun tq kq => XS.aload X33.here hx rfl (hb hby at_188) rfl rfl kq) ?_
    show own_Go p.tables e below _ (T33.setTop (mkF m 190 #[.val (Value.int p1), .val (Value.int p2), .val (Value.int p3), .val (Value.int p4), .val (Value.int p5), .val (Value.int b0), .val (Value.int b1), .val (Value.int b2), .val (Value.int b3), .val (Value.int (0 : Int32)), .val (Value.ref ob1), .val (Value.int b2), .val (Value.int b3), .val (Value.int b0), .val (Value.int b1)] [(Value.ref ob1)]))
    refine own_Go.by (fun tq kq => XS.iconst X33.here hx rfl (hb hby at_190) kq) ?_
    show own_Go p.tables e below _ (T33.setTop (mkF m 191 #[.val (Value.int p1), .val (Value.int p2), .val (Value.int p3), .val (Value.int p4), .val (Value.int p5), .val (Value.int b0), .val (Value.int b1), .val (Value.int b2), .val (Value.int b3), .val (Value.int (0 : Int32)), .val (Value.ref ob1), .val (Value.int b2), .val (Value.int b3), .val (Value.int b0), .val (Value.int b1)] [(Value.int (3 : Int32)), (Value.ref ob1)]))
    obtain ⟨cq34, kq34, q34a, q34b, q34c⟩ := isOf hZ7 e33 p29_0
    obtain ⟨_, _, ⟨T34, L34, k34, n34⟩, -, X34, ⟨Lc34, hQ34, l34, y34, z34⟩, st34⟩ := X33.virtualBack hx (y := (⟨"com/example/plain_bastion/plainbastion/ssh/TypedText", "at", "(I)B"⟩ : MethodName)) (z := (⟨"com/example/plain_bastion/plainbastion/ssh/TypedText", "at", "(I)B"⟩ : MethodName)) hown7 (mvT hZ7 (hw _ (List.mem_of_getElem? (i := 57) rfl))) (mvT hZ7 (hw _ (List.mem_of_getElem? (i := 58) rfl))) (notFace_of_selects (args := #[]) (mvT hZ7 (hw _ (List.mem_of_getElem? (i := 60) rfl)))) (mvT hZ7 (hw _ (List.mem_of_getElem? (i := 60) rfl))) (mvT hZ7 (hw _ (List.mem_of_getElem? (i := 59) rfl))) (by decide) (backOf (W := 0) (rm6_hi l Z a0 hw [] ob1 b_9 kb_9 (((((((List.replicate 256 (Value.int (0 : Int32))).set 0 (Value.int b0)).set 1 (Value.int b1))).take (254 : Int32).toNatClampNeg ++ ((List.range (2 : Int32).toNatClampNeg).map fun i => ((((List.replicate 256 (Value.int (0 : Int32))).set 0 (Value.int b0)).set 1 (Value.int b1))).getD ((0 : Int32).toNatClampNeg + i) (Value.int (0 : Int32))) ++ ((((List.replicate 256 (Value.int (0 : Int32))).set 0 (Value.int b0)).set 1 (Value.int b1))).drop ((254 : Int32).toNatClampNeg + (2 : Int32).toNatClampNeg)).set 0 (Value.int b2)).set 1 (Value.int b3)) (2 : Int32) (2 : Int32) (3 : Int32) b1 T29.heap n0 O30 p29_0 p29_1 p29_2 p29_3 p29_6 (by decide : ¬ ((3 : Int32) < (2 : Int32))) (by decide : ¬ (((((256 : Int32) - (2 : Int32)) + (3 : Int32)) - (2 : Int32)) < (0 : Int32)) ∧ ((((256 : Int32) - (2 : Int32)) + (3 : Int32)) - (2 : Int32)) < (256 : Int32)) (rfl : (((((((List.replicate 256 (Value.int (0 : Int32))).set 0 (Value.int b0)).set 1 (Value.int b1))).take (254 : Int32).toNatClampNeg ++ ((List.range (2 : Int32).toNatClampNeg).map fun i => ((((List.replicate 256 (Value.int (0 : Int32))).set 0 (Value.int b0)).set 1 (Value.int b1))).getD ((0 : Int32).toNatClampNeg + i) (Value.int (0 : Int32))) ++ ((((List.replicate 256 (Value.int (0 : Int32))).set 0 (Value.int b0)).set 1 (Value.int b1))).drop ((254 : Int32).toNatClampNeg + (2 : Int32).toNatClampNeg)).set 0 (Value.int b2)).set 1 (Value.int b3)).getD ((((256 : Int32) - (2 : Int32)) + (3 : Int32)) - (2 : Int32)).toNatClampNeg (Value.int (0 : Int32)) = (Value.int b1)) (own_b8 hv_b1 : b1.toInt8.toInt32 = b1)) hZ7 (hw _ (List.mem_of_getElem? (i := 61) rfl)) (hw _ (List.mem_of_getElem? (i := 3) rfl)) (by decide) (by decide)) q34a q34c (g := (mkF m 191 #[.val (Value.int p1), .val (Value.int p2), .val (Value.int p3), .val (Value.int p4), .val (Value.int p5), .val (Value.int b0), .val (Value.int b1), .val (Value.int b2), .val (Value.int b3), .val (Value.int (0 : Int32)), .val (Value.ref ob1), .val (Value.int b2), .val (Value.int b3), .val (Value.int b0), .val (Value.int b1)] [(Value.int (3 : Int32)), (Value.ref ob1)])) rfl (by rw [hml]; rfl) (Steps.refl _) (argsL := [(Value.int (3 : Int32))]) (rest := []) (lenOf own_pd4 rfl) rfl (by show 2 * 0 + _ ≤ _; exact Nat.le_of_eq rfl) (hb hby at_191) (fun _ _ => ⟨rfl, e33, (by decide : 6 + 0 ≤ _), (by decide : 276 + 0 ≤ _)⟩)
    dsimp only [Pt.U, Pt.locs, Pt.cells, Pt.slots] at X34 l34 y34 z34 st34 hQ34
    subst l34 y34 z34
    refine own_Go.by (fun tq kq => st34.trans kq) ?_
    obtain ⟨rfl, N34q, e34⟩ := hQ34
    have N34 := Fr.app N33 N34q
    show own_Go p.tables e below _ (T34.setTop (mkF m 194 #[.val (Value.int p1), .val (Value.int p2), .val (Value.int p3), .val (Value.int p4), .val (Value.int p5), .val (Value.int b0), .val (Value.int b1), .val (Value.int b2), .val (Value.int b3), .val (Value.int (0 : Int32)), .val (Value.ref ob1), .val (Value.int b2), .val (Value.int b3), .val (Value.int b0), .val (Value.int b1)] [(Value.int b1)]))
    refine own_Go.by (fun tq kq => XS.iload X34.here hx rfl (hb hby at_194) rfl kq) ?_
    show own_Go p.tables e below _ (T34.setTop (mkF m 196 #[.val (Value.int p1), .val (Value.int p2), .val (Value.int p3), .val (Value.int p4), .val (Value.int p5), .val (Value.int b0), .val (Value.int b1), .val (Value.int b2), .val (Value.int b3), .val (Value.int (0 : Int32)), .val (Value.ref ob1), .val (Value.int b2), .val (Value.int b3), .val (Value.int b0), .val (Value.int b1)] [(Value.int b1), (Value.int b1)]))
    refine own_Go.by (fun tq kq => XS.icmpNo X34.here hx rfl (hb hby at_196) rfl (teq (rfl : b1 = b1)).2 kq) ?_
    show own_Go p.tables e below _ (T34.setTop (mkF m 199 #[.val (Value.int p1), .val (Value.int p2), .val (Value.int p3), .val (Value.int p4), .val (Value.int p5), .val (Value.int b0), .val (Value.int b1), .val (Value.int b2), .val (Value.int b3), .val (Value.int (0 : Int32)), .val (Value.ref ob1), .val (Value.int b2), .val (Value.int b3), .val (Value.int b0), .val (Value.int b1)] []))
    refine own_Go.by (fun tq kq => XS.iconst X34.here hx rfl (hb hby at_199) kq) ?_
    show own_Go p.tables e below _ (T34.setTop (mkF m 200 #[.val (Value.int p1), .val (Value.int p2), .val (Value.int p3), .val (Value.int p4), .val (Value.int p5), .val (Value.int b0), .val (Value.int b1), .val (Value.int b2), .val (Value.int b3), .val (Value.int (0 : Int32)), .val (Value.ref ob1), .val (Value.int b2), .val (Value.int b3), .val (Value.int b0), .val (Value.int b1)] [(Value.int (1 : Int32))]))
    refine own_Go.by (fun tq kq => XS.goto X34.here hx rfl (pc0 := 200) (pc' := 204) rfl (hb hby at_200) (by decide) (by decide) kq) ?_
    show own_Go p.tables e below _ (T34.setTop (mkF m 204 #[.val (Value.int p1), .val (Value.int p2), .val (Value.int p3), .val (Value.int p4), .val (Value.int p5), .val (Value.int b0), .val (Value.int b1), .val (Value.int b2), .val (Value.int b3), .val (Value.int (0 : Int32)), .val (Value.ref ob1), .val (Value.int b2), .val (Value.int b3), .val (Value.int b0), .val (Value.int b1)] [(Value.int (1 : Int32))]))
    obtain ⟨fs, hr, hrun, hended, hRE⟩ := Stand.leaveW (s := s) (vm₁ := T7.vm) X34 hS7 (by rw [e34]; exact hk_30) (v := some (Value.int (nar .boolean (1 : Int32)))) (fun h => by rw [Bd.returns] at h; cases h)
    refine own_Go.fin (retN X34 hx (t := .boolean) Bd.returns (by simp) (hb hby at_204) hr) ⟨hrun, hended, _, _, rfl, ?_, own_rew hRE (by decide) (by decide)⟩
    show Q0 Z p1 p2 p3 p4 p5 aW h0 n0 _ T34.heap _
    rw [e34]
    exact ⟨rfl, N34, K30⟩
  ·
    subst hq_mm
    show own_Go p.tables e below _ (s₁.setTop (mkF m 25 #[.val (Value.int p1), .val (Value.int p2), .val (Value.int p3), .val (Value.int p4), .val (Value.int p5), .val (Value.int b0), .val (Value.int b1), .val (Value.int b2), .val (Value.int b3), .val (Value.int (1 : Int32)), .unset, .unset, .unset, .unset, .unset] []))
    obtain ⟨T35, h35, X35, e35, E35, A35, D35, -, st35⟩ := newO X0 hx hZ hown (hw _ (List.mem_of_getElem? (i := 1) rfl)) (hw _ (List.mem_of_getElem? (i := 2) rfl)) (hw _ (List.mem_of_getElem? (i := 3) rfl)) e0 (g := (mkF m 25 #[.val (Value.int p1), .val (Value.int p2), .val (Value.int p3), .val (Value.int p4), .val (Value.int p5), .val (Value.int b0), .val (Value.int b1), .val (Value.int b2), .val (Value.int b3), .val (Value.int (1 : Int32)), .unset, .unset, .unset, .unset, .unset] [])) rfl (hb hby at_25) (by decide) (by decide)
    obtain ⟨ob35, y35⟩ : ∃ z, z = h0.size := ⟨_, rfl⟩
    rw [← y35] at A35 D35 st35
    refine own_Go.by st35 ?_
    have O36 := O0.ext E35
    have K36 := K0.ext E35
    have g37 : n0 ≤ ob35 := Nat.le_trans (own_old_le O0) (Nat.le_of_eq y35.symm)
    have z37 : h0.size ≤ ob35 := Nat.le_trans K0.1 (Nat.le_of_eq y35.symm)
    have F35_bytes : Fld Z h35 ob35 "com/example/plain_bastion/plainbastion/ssh/TypedText" "bytes" "[B" .null := D35 (Or.inl (hw _ (List.mem_of_getElem? (i := 22) rfl))) (ty := (.array .byte)) (by decide)
    have F35_words : Fld Z h35 ob35 "com/example/plain_bastion/plainbastion/ssh/TypedText" "words" "Lcom/example/plain_bastion/plainbastion/ssh/TypedText$WordErase;" .null := D35 (Or.inr (hw _ (List.mem_of_getElem? (i := 24) rfl))) (ty := (.object "com/example/plain_bastion/plainbastion/ssh/TypedText$WordErase")) (by decide)
    have F35_erases : Fld Z h35 ob35 "com/example/plain_bastion/plainbastion/ssh/TypedText" "erases" "Ljava/lang/String;" .null := D35 (Or.inr (hw _ (List.mem_of_getElem? (i := 26) rfl))) (ty := (.object "java/lang/String")) (by decide)
    have F35_characters : Fld Z h35 ob35 "com/example/plain_bastion/plainbastion/ssh/TypedText" "characters" "Ljava/lang/String;" .null := D35 (Or.inr (hw _ (List.mem_of_getElem? (i := 28) rfl))) (ty := (.object "java/lang/String")) (by decide)
    have F35_length : Fld Z h35 ob35 "com/example/plain_bastion/plainbastion/ssh/TypedText" "length" "I" (Value.int (0 : Int32)) := D35 (Or.inl (hw _ (List.mem_of_getElem? (i := 40) rfl))) (ty := .int) (by decide)
    have F35_afterLength : Fld Z h35 ob35 "com/example/plain_bastion/plainbastion/ssh/TypedText" "afterLength" "I" (Value.int (0 : Int32)) := D35 (Or.inl (hw _ (List.mem_of_getElem? (i := 42) rfl))) (ty := .int) (by decide)
    have F35_breaks : Fld Z h35 ob35 "com/example/plain_bastion/plainbastion/ssh/TypedText" "breaks" "I" (Value.int (0 : Int32)) := D35 (Or.inl (hw _ (List.mem_of_getElem? (i := 45) rfl))) (ty := .int) (by decide)
    have F35_told : Fld Z h35 ob35 "com/example/plain_bastion/plainbastion/ssh/TypedText" "told" "I" (Value.int (0 : Int32)) := D35 (Or.inl (hw _ (List.mem_of_getElem? (i := 56) rfl))) (ty := .int) (by decide)
    have F35_cut : Fld Z h35 ob35 "com/example/plain_bastion/plainbastion/ssh/TypedText" "cut" "Z" (Value.int (0 : Int32)) := D35 (Or.inl (hw _ (List.mem_of_getElem? (i := 63) rfl))) (ty := .boolean) (by decide)
    show own_Go p.tables e below _ (T35.setTop (mkF m 28 #[.val (Value.int p1), .val (Value.int p2), .val (Value.int p3), .val (Value.int p4), .val (Value.int p5), .val (Value.int b0), .val (Value.int b1), .val (Value.int b2), .val (Value.int b3), .val (Value.int (1 : Int32)), .unset, .unset, .unset, .unset, .unset] [(Value.ref ob35)]))
    refine own_Go.by (fun tq kq => XS.dup X35.here hx rfl (hb hby at_28) rfl rfl kq) ?_
    show own_Go p.tables e below _ (T35.setTop (mkF m 29 #[.val (Value.int p1), .val (Value.int p2), .val (Value.int p3), .val (Value.int p4), .val (Value.int p5), .val (Value.int b0), .val (Value.int b1), .val (Value.int b2), .val (Value.int b3), .val (Value.int (1 : Int32)), .unset, .unset, .unset, .unset, .unset] [(Value.ref ob35), (Value.ref ob35)]))
    obtain ⟨T38, X38, e38, st38⟩ := getS2 X35 hx hZ hown (host := "") (Or.inl (hw _ (List.mem_of_getElem? (i := 4) rfl))) Via.refl e35 (H0.ext O36.2) (g := (mkF m 29 #[.val (Value.int p1), .val (Value.int p2), .val (Value.int p3), .val (Value.int p4), .val (Value.int p5), .val (Value.int b0), .val (Value.int b1), .val (Value.int b2), .val (Value.int b3), .val (Value.int (1 : Int32)), .unset, .unset, .unset, .unset, .unset] [(Value.ref ob35), (Value.ref ob35)])) rfl (hb hby at_29)
    refine own_Go.by st38 ?_
    show own_Go p.tables e below _ (T38.setTop (mkF m 32 #[.val (Value.int p1), .val (Value.int p2), .val (Value.int p3), .val (Value.int p4), .val (Value.int p5), .val (Value.int b0), .val (Value.int b1), .val (Value.int b2), .val (Value.int b3), .val (Value.int (1 : Int32)), .unset, .unset, .unset, .unset, .unset] [(Value.ref aW), (Value.ref ob35), (Value.ref ob35)]))
    obtain ⟨sa39, T39, h39, k39, X39, e39, E39, hS39, hk39, hZ39, hown39, st39⟩ := ldcS (s := s) (vm0 := s.vm) X38 hx hZ hown (hw _ (List.mem_of_getElem? (i := 7) rfl)) (fun d hd => hw d (own_wS d hd)) e38 hS0 (Nat.zero_le _) (g := (mkF m 32 #[.val (Value.int p1), .val (Value.int p2), .val (Value.int p3), .val (Value.int p4), .val (Value.int p5), .val (Value.int b0), .val (Value.int b1), .val (Value.int b2), .val (Value.int b3), .val (Value.int (1 : Int32)), .unset, .unset, .unset, .unset, .unset] [(Value.ref aW), (Value.ref ob35), (Value.ref ob35)])) rfl (hb hby at_32) (n := 0) (by decide) (by decide) (by decide) (by decide)
    refine own_Go.by st39 ?_
    have O40 := O36.ext E39
    have K40 := K36.ext E39
    show own_Go p.tables e below _ (T39.setTop (mkF m 34 #[.val (Value.int p1), .val (Value.int p2), .val (Value.int p3), .val (Value.int p4), .val (Value.int p5), .val (Value.int b0), .val (Value.int b1), .val (Value.int b2), .val (Value.int b3), .val (Value.int (1 : Int32)), .unset, .unset, .unset, .unset, .unset] [(Value.ref sa39), (Value.ref aW), (Value.ref ob35), (Value.ref ob35)]))
    obtain ⟨sa41, T41, h41, k41, X41, e41, E41, hS41, hk41, hZ41, hown41, st41⟩ := ldcS (s := s) (vm0 := T39.vm) X39 hx hZ39 hown39 (hw _ (List.mem_of_getElem? (i := 7) rfl)) (fun d hd => hw d (own_wS d hd)) e39 hS39 hk39 (g := (mkF m 34 #[.val (Value.int p1), .val (Value.int p2), .val (Value.int p3), .val (Value.int p4), .val (Value.int p5), .val (Value.int b0), .val (Value.int b1), .val (Value.int b2), .val (Value.int b3), .val (Value.int (1 : Int32)), .unset, .unset, .unset, .unset, .unset] [(Value.ref sa39), (Value.ref aW), (Value.ref ob35), (Value.ref ob35)])) rfl (hb hby at_34) (n := 0) (by decide) (by decide) (by decide) (by decide)
    refine own_Go.by st41 ?_
    have O42 := O40.ext E41
    have K42 := K40.ext E41
    show own_Go p.tables e below _ (T41.setTop (mkF m 36 #[.val (Value.int p1), .val (Value.int p2), .val (Value.int p3), .val (Value.int p4), .val (Value.int p5), .val (Value.int b0), .val (Value.int b1), .val (Value.int b2), .val (Value.int b3), .val (Value.int (1 : Int32)), .unset, .unset, .unset, .unset, .unset] [(Value.ref sa41), (Value.ref sa39), (Value.ref aW), (Value.ref ob35), (Value.ref ob35)]))
    have c44 := ((A35.ext E39).ext E41)
    have c45 := ((F35_bytes.ext E39).ext E41)
    have c46 := ((F35_words.ext E39).ext E41)
    have c47 := ((F35_erases.ext E39).ext E41)
    have c48 := ((F35_characters.ext E39).ext E41)
    have c49 := ((F35_length.ext E39).ext E41)
    have c50 := ((F35_afterLength.ext E39).ext E41)
    have c51 := ((F35_breaks.ext E39).ext E41)
    have c52 := ((F35_told.ext E39).ext E41)
    obtain ⟨_, _, ⟨T43, L43, k43, n43⟩, -, X43, ⟨Lc43, hQ43, l43, y43, z43⟩, st43⟩ := X41.specialBack hx (y := (⟨"com/example/plain_bastion/plainbastion/ssh/TypedText", "<init>", "(Lcom/example/plain_bastion/plainbastion/ssh/TypedText$WordErase;Ljava/lang/String;Ljava/lang/String;)V"⟩ : MethodName)) rfl hown41 (mvT hZ41 (hw _ (List.mem_of_getElem? (i := 15) rfl))) (mvT hZ41 (hw _ (List.mem_of_getElem? (i := 16) rfl))) (mvT hZ41 (hw _ (List.mem_of_getElem? (i := 17) rfl))) (by decide) (backOf (W := 1) (rm1 l Z a0 hw [] ob35 aW sa39 sa41 h41 n0 O42 c44 g37 c45 c46 c47 c48 c49 c50 c51 c52) hZ41 (hw _ (List.mem_of_getElem? (i := 17) rfl)) (hw _ (List.mem_of_getElem? (i := 3) rfl)) (by decide) (by decide)) (g := (mkF m 36 #[.val (Value.int p1), .val (Value.int p2), .val (Value.int p3), .val (Value.int p4), .val (Value.int p5), .val (Value.int b0), .val (Value.int b1), .val (Value.int b2), .val (Value.int b3), .val (Value.int (1 : Int32)), .unset, .unset, .unset, .unset, .unset] [(Value.ref sa41), (Value.ref sa39), (Value.ref aW), (Value.ref ob35), (Value.ref ob35)])) rfl (by rw [hml]; rfl) (Steps.refl _) (a := ob35) (argsL := [(Value.ref aW), (Value.ref sa39), (Value.ref sa41)]) (rest := [(Value.ref ob35)]) (lenOf own_pd1 rfl) rfl (by show 2 * 0 + _ ≤ _; exact Nat.le_of_eq rfl) (hb hby at_36) (fun _ _ => ⟨rfl, e41, (by decide : 5 + 1 ≤ _), (by decide : 20 + 256 ≤ _)⟩)
    dsimp only [Pt.U, Pt.locs, Pt.cells, Pt.slots] at X43 l43 y43 z43 st43 hQ43
    subst l43 y43 z43
    refine own_Go.by (fun tq kq => st43.trans kq) ?_
    obtain ⟨b_43, kb_43, rfl, N43q, K43q, p43_0, p43_1, p43_2, p43_3, p43_4, p43_5, p43_6, p43_7⟩ := hQ43
    have N43 := Fr.app N0 N43q
    have O53 := O42.keep K43q (allS g37 all0)
    have K53 := K42.trans K43q (allS (Or.inr z37) all0)
    have hk_53 := Nat.le_trans hk41 K43q.1
    have g54 : n0 ≤ b_43 := Nat.le_trans (own_old_le O42) p43_0
    have z54 : h0.size ≤ b_43 := Nat.le_trans K42.1 p43_0
    show own_Go p.tables e below _ (T43.setTop (mkF m 39 #[.val (Value.int p1), .val (Value.int p2), .val (Value.int p3), .val (Value.int p4), .val (Value.int p5), .val (Value.int b0), .val (Value.int b1), .val (Value.int b2), .val (Value.int b3), .val (Value.int (1 : Int32)), .unset, .unset, .unset, .unset, .unset] [(Value.ref ob35)]))
    refine own_Go.by (fun tq kq => XS.astore X43.here hx rfl (hb hby at_39) rfl rfl (l' := #[.val (Value.int p1), .val (Value.int p2), .val (Value.int p3), .val (Value.int p4), .val (Value.int p5), .val (Value.int b0), .val (Value.int b1), .val (Value.int b2), .val (Value.int b3), .val (Value.int (1 : Int32)), .val (Value.ref ob35), .unset, .unset, .unset, .unset]) rfl kq) ?_
    show own_Go p.tables e below _ (T43.setTop (mkF m 41 #[.val (Value.int p1), .val (Value.int p2), .val (Value.int p3), .val (Value.int p4), .val (Value.int p5), .val (Value.int b0), .val (Value.int b1), .val (Value.int b2), .val (Value.int b3), .val (Value.int (1 : Int32)), .val (Value.ref ob35), .unset, .unset, .unset, .unset] []))
    refine own_Go.by (fun tq kq => XS.aload X43.here hx rfl (hb hby at_41) rfl rfl kq) ?_
    show own_Go p.tables e below _ (T43.setTop (mkF m 43 #[.val (Value.int p1), .val (Value.int p2), .val (Value.int p3), .val (Value.int p4), .val (Value.int p5), .val (Value.int b0), .val (Value.int b1), .val (Value.int b2), .val (Value.int b3), .val (Value.int (1 : Int32)), .val (Value.ref ob35), .unset, .unset, .unset, .unset] [(Value.ref ob35)]))
    refine own_Go.by (fun tq kq => XS.iload X43.here hx rfl (hb hby at_43) rfl kq) ?_
    show own_Go p.tables e below _ (T43.setTop (mkF m 45 #[.val (Value.int p1), .val (Value.int p2), .val (Value.int p3), .val (Value.int p4), .val (Value.int p5), .val (Value.int b0), .val (Value.int b1), .val (Value.int b2), .val (Value.int b3), .val (Value.int (1 : Int32)), .val (Value.ref ob35), .unset, .unset, .unset, .unset] [(Value.int b0), (Value.ref ob35)]))
    obtain ⟨cq55, kq55, q55a, q55b, q55c⟩ := isOf hZ41 rfl p43_1
    obtain ⟨_, _, ⟨T55, L55, k55, n55⟩, -, X55, ⟨Lc55, hQ55, l55, y55, z55⟩, st55⟩ := X43.virtualBack hx (y := (⟨"com/example/plain_bastion/plainbastion/ssh/TypedText", "append", "(B)V"⟩ : MethodName)) (z := (⟨"com/example/plain_bastion/plainbastion/ssh/TypedText", "append", "(B)V"⟩ : MethodName)) hown41 (mvT hZ41 (hw _ (List.mem_of_getElem? (i := 29) rfl))) (mvT hZ41 (hw _ (List.mem_of_getElem? (i := 30) rfl))) (notFace_of_selects (args := #[]) (mvT hZ41 (hw _ (List.mem_of_getElem? (i := 32) rfl)))) (mvT hZ41 (hw _ (List.mem_of_getElem? (i := 32) rfl))) (mvT hZ41 (hw _ (List.mem_of_getElem? (i := 31) rfl))) (by decide) (backOf (W := 0) (rm3 l Z a0 hw [] ob35 b_43 kb_43 (List.replicate 256 (Value.int (0 : Int32))) (0 : Int32) (0 : Int32) b0 (0 : Int32) (0 : Int32) 0 T43.heap n0 O53 p43_1 p43_2 p43_4 p43_5 p43_3 p43_6 p43_7 g37 g54 (Nat.ne_of_lt (Nat.lt_of_lt_of_le A35.lt (Nat.le_trans E39.1 (Nat.le_trans E41.1 p43_0)))) (by decide : ((0 : Int32) + (0 : Int32)) < (65536 : Int32)) (by decide : ¬ (((0 : Int32) + (0 : Int32)) = (256 : Int32))) (by decide : ¬ ((0 : Int32) < (0 : Int32)) ∧ (0 : Int32) < (256 : Int32)) (rfl : (0 : Int32).toNatClampNeg = 0) (Nat.le_of_ble_eq_true rfl : 0 < (List.replicate 256 (Value.int (0 : Int32))).length) (own_b8 hv_b0 : b0.toInt8.toInt32 = b0)) hZ41 (hw _ (List.mem_of_getElem? (i := 33) rfl)) (hw _ (List.mem_of_getElem? (i := 3) rfl)) (by decide) (by decide)) q55a q55c (g := (mkF m 45 #[.val (Value.int p1), .val (Value.int p2), .val (Value.int p3), .val (Value.int p4), .val (Value.int p5), .val (Value.int b0), .val (Value.int b1), .val (Value.int b2), .val (Value.int b3), .val (Value.int (1 : Int32)), .val (Value.ref ob35), .unset, .unset, .unset, .unset] [(Value.int b0), (Value.ref ob35)])) rfl (by rw [hml]; rfl) (Steps.refl _) (argsL := [(Value.int b0)]) (rest := []) (lenOf own_pd2 rfl) rfl (by show 2 * 0 + _ ≤ _; exact Nat.le_of_eq rfl) (hb hby at_45) (fun _ _ => ⟨rfl, rfl, (by decide : 6 + 0 ≤ _), (by decide : 276 + 0 ≤ _)⟩)
    dsimp only [Pt.U, Pt.locs, Pt.cells, Pt.slots] at X55 l55 y55 z55 st55 hQ55
    subst l55 y55 z55
    refine own_Go.by (fun tq kq => st55.trans kq) ?_
    obtain ⟨br2_55, rfl, N55q, K55q, p55_0, p55_1, p55_2, p55_3, p55_4, p55_5, p55_6⟩ := hQ55
    have N55 := Fr.app N43 N55q
    have O56 := O53.keep K55q (allS g37 (allS g54 all0))
    have K56 := K53.trans K55q (allS (Or.inr z37) (allS (Or.inr z54) all0))
    have hk_56 := Nat.le_trans hk_53 K55q.1
    show own_Go p.tables e below _ (T55.setTop (mkF m 48 #[.val (Value.int p1), .val (Value.int p2), .val (Value.int p3), .val (Value.int p4), .val (Value.int p5), .val (Value.int b0), .val (Value.int b1), .val (Value.int b2), .val (Value.int b3), .val (Value.int (1 : Int32)), .val (Value.ref ob35), .unset, .unset, .unset, .unset] []))
    refine own_Go.by (fun tq kq => XS.aload X55.here hx rfl (hb hby at_48) rfl rfl kq) ?_
    show own_Go p.tables e below _ (T55.setTop (mkF m 50 #[.val (Value.int p1), .val (Value.int p2), .val (Value.int p3), .val (Value.int p4), .val (Value.int p5), .val (Value.int b0), .val (Value.int b1), .val (Value.int b2), .val (Value.int b3), .val (Value.int (1 : Int32)), .val (Value.ref ob35), .unset, .unset, .unset, .unset] [(Value.ref ob35)]))
    refine own_Go.by (fun tq kq => XS.iload X55.here hx rfl (hb hby at_50) rfl kq) ?_
    show own_Go p.tables e below _ (T55.setTop (mkF m 52 #[.val (Value.int p1), .val (Value.int p2), .val (Value.int p3), .val (Value.int p4), .val (Value.int p5), .val (Value.int b0), .val (Value.int b1), .val (Value.int b2), .val (Value.int b3), .val (Value.int (1 : Int32)), .val (Value.ref ob35), .unset, .unset, .unset, .unset] [(Value.int b1), (Value.ref ob35)]))
    obtain ⟨cq57, kq57, q57a, q57b, q57c⟩ := isOf hZ41 rfl p55_0
    obtain ⟨_, _, ⟨T57, L57, k57, n57⟩, -, X57, ⟨Lc57, hQ57, l57, y57, z57⟩, st57⟩ := X55.virtualBack hx (y := (⟨"com/example/plain_bastion/plainbastion/ssh/TypedText", "append", "(B)V"⟩ : MethodName)) (z := (⟨"com/example/plain_bastion/plainbastion/ssh/TypedText", "append", "(B)V"⟩ : MethodName)) hown41 (mvT hZ41 (hw _ (List.mem_of_getElem? (i := 29) rfl))) (mvT hZ41 (hw _ (List.mem_of_getElem? (i := 30) rfl))) (notFace_of_selects (args := #[]) (mvT hZ41 (hw _ (List.mem_of_getElem? (i := 32) rfl)))) (mvT hZ41 (hw _ (List.mem_of_getElem? (i := 32) rfl))) (mvT hZ41 (hw _ (List.mem_of_getElem? (i := 31) rfl))) (by decide) (backOf (W := 0) (rm3 l Z a0 hw [] ob35 b_43 kb_43 ((List.replicate 256 (Value.int (0 : Int32))).set 0 (Value.int b0)) (1 : Int32) (0 : Int32) b1 br2_55 (0 : Int32) 1 T55.heap n0 O56 p55_0 p55_1 p55_2 p55_3 p55_6 p55_4 p55_5 g37 g54 (Nat.ne_of_lt (Nat.lt_of_lt_of_le A35.lt (Nat.le_trans E39.1 (Nat.le_trans E41.1 p43_0)))) (by decide : ((1 : Int32) + (0 : Int32)) < (65536 : Int32)) (by decide : ¬ (((1 : Int32) + (0 : Int32)) = (256 : Int32))) (by decide : ¬ ((1 : Int32) < (0 : Int32)) ∧ (1 : Int32) < (256 : Int32)) (rfl : (1 : Int32).toNatClampNeg = 1) (Nat.le_of_ble_eq_true rfl : 1 < ((List.replicate 256 (Value.int (0 : Int32))).set 0 (Value.int b0)).length) (own_b8 hv_b1 : b1.toInt8.toInt32 = b1)) hZ41 (hw _ (List.mem_of_getElem? (i := 33) rfl)) (hw _ (List.mem_of_getElem? (i := 3) rfl)) (by decide) (by decide)) q57a q57c (g := (mkF m 52 #[.val (Value.int p1), .val (Value.int p2), .val (Value.int p3), .val (Value.int p4), .val (Value.int p5), .val (Value.int b0), .val (Value.int b1), .val (Value.int b2), .val (Value.int b3), .val (Value.int (1 : Int32)), .val (Value.ref ob35), .unset, .unset, .unset, .unset] [(Value.int b1), (Value.ref ob35)])) rfl (by rw [hml]; rfl) (Steps.refl _) (argsL := [(Value.int b1)]) (rest := []) (lenOf own_pd2 rfl) rfl (by show 2 * 0 + _ ≤ _; exact Nat.le_of_eq rfl) (hb hby at_52) (fun _ _ => ⟨rfl, rfl, (by decide : 6 + 0 ≤ _), (by decide : 276 + 0 ≤ _)⟩)
    dsimp only [Pt.U, Pt.locs, Pt.cells, Pt.slots] at X57 l57 y57 z57 st57 hQ57
    subst l57 y57 z57
    refine own_Go.by (fun tq kq => st57.trans kq) ?_
    obtain ⟨br2_57, rfl, N57q, K57q, p57_0, p57_1, p57_2, p57_3, p57_4, p57_5, p57_6⟩ := hQ57
    have N57 := Fr.app N55 N57q
    have O58 := O56.keep K57q (allS g37 (allS g54 all0))
    have K58 := K56.trans K57q (allS (Or.inr z37) (allS (Or.inr z54) all0))
    have hk_58 := Nat.le_trans hk_56 K57q.1
    show own_Go p.tables e below _ (T57.setTop (mkF m 55 #[.val (Value.int p1), .val (Value.int p2), .val (Value.int p3), .val (Value.int p4), .val (Value.int p5), .val (Value.int b0), .val (Value.int b1), .val (Value.int b2), .val (Value.int b3), .val (Value.int (1 : Int32)), .val (Value.ref ob35), .unset, .unset, .unset, .unset] []))
    refine own_Go.by (fun tq kq => XS.aload X57.here hx rfl (hb hby at_55) rfl rfl kq) ?_
    show own_Go p.tables e below _ (T57.setTop (mkF m 57 #[.val (Value.int p1), .val (Value.int p2), .val (Value.int p3), .val (Value.int p4), .val (Value.int p5), .val (Value.int b0), .val (Value.int b1), .val (Value.int b2), .val (Value.int b3), .val (Value.int (1 : Int32)), .val (Value.ref ob35), .unset, .unset, .unset, .unset] [(Value.ref ob35)]))
    refine own_Go.by (fun tq kq => XS.iload X57.here hx rfl (hb hby at_57) rfl kq) ?_
    show own_Go p.tables e below _ (T57.setTop (mkF m 59 #[.val (Value.int p1), .val (Value.int p2), .val (Value.int p3), .val (Value.int p4), .val (Value.int p5), .val (Value.int b0), .val (Value.int b1), .val (Value.int b2), .val (Value.int b3), .val (Value.int (1 : Int32)), .val (Value.ref ob35), .unset, .unset, .unset, .unset] [(Value.int (1 : Int32)), (Value.ref ob35)]))
    obtain ⟨cq59, kq59, q59a, q59b, q59c⟩ := isOf hZ41 rfl p57_0
    obtain ⟨_, _, ⟨T59, L59, k59, n59⟩, -, X59, ⟨Lc59, hQ59, l59, y59, z59⟩, st59⟩ := X57.virtualBack hx (y := (⟨"com/example/plain_bastion/plainbastion/ssh/TypedText", "moveTo", "(I)V"⟩ : MethodName)) (z := (⟨"com/example/plain_bastion/plainbastion/ssh/TypedText", "moveTo", "(I)V"⟩ : MethodName)) hown41 (mvT hZ41 (hw _ (List.mem_of_getElem? (i := 46) rfl))) (mvT hZ41 (hw _ (List.mem_of_getElem? (i := 47) rfl))) (notFace_of_selects (args := #[]) (mvT hZ41 (hw _ (List.mem_of_getElem? (i := 49) rfl)))) (mvT hZ41 (hw _ (List.mem_of_getElem? (i := 49) rfl))) (mvT hZ41 (hw _ (List.mem_of_getElem? (i := 48) rfl))) (by decide) (backOf (W := 0) (rm5_1 l Z a0 hw [] ob35 b_43 kb_43 (((List.replicate 256 (Value.int (0 : Int32))).set 0 (Value.int b0)).set 1 (Value.int b1)) br2_57 T57.heap n0 O58 p57_0 p57_1 p57_2 p57_3 p57_6 p57_5 p57_4 g37 g54 (Nat.ne_of_lt (Nat.lt_of_lt_of_le A35.lt (Nat.le_trans E39.1 (Nat.le_trans E41.1 p43_0)))) (rfl : (((List.replicate 256 (Value.int (0 : Int32))).set 0 (Value.int b0)).set 1 (Value.int b1)).length = 256)) hZ41 (hw _ (List.mem_of_getElem? (i := 50) rfl)) (hw _ (List.mem_of_getElem? (i := 3) rfl)) (by decide) (by decide)) q59a q59c (g := (mkF m 59 #[.val (Value.int p1), .val (Value.int p2), .val (Value.int p3), .val (Value.int p4), .val (Value.int p5), .val (Value.int b0), .val (Value.int b1), .val (Value.int b2), .val (Value.int b3), .val (Value.int (1 : Int32)), .val (Value.ref ob35), .unset, .unset, .unset, .unset] [(Value.int (1 : Int32)), (Value.ref ob35)])) rfl (by rw [hml]; rfl) (Steps.refl _) (argsL := [(Value.int (1 : Int32))]) (rest := []) (lenOf own_pd3 rfl) rfl (by show 2 * 0 + _ ≤ _; exact Nat.le_of_eq rfl) (hb hby at_59) (fun _ _ => ⟨rfl, rfl, (by decide : 6 + 0 ≤ _), (by decide : 276 + 0 ≤ _)⟩)
    dsimp only [Pt.U, Pt.locs, Pt.cells, Pt.slots] at X59 l59 y59 z59 st59 hQ59
    subst l59 y59 z59
    refine own_Go.by (fun tq kq => st59.trans kq) ?_
    obtain ⟨rfl, N59q, K59q, p59_0, p59_1, p59_2, p59_3, p59_4, p59_5, p59_6⟩ := hQ59
    have N59 := Fr.app N57 N59q
    have O60 := O58.keep K59q (allS g37 (allS g54 all0))
    have K60 := K58.trans K59q (allS (Or.inr z37) (allS (Or.inr z54) all0))
    have hk_60 := Nat.le_trans hk_58 K59q.1
    show own_Go p.tables e below _ (T59.setTop (mkF m 62 #[.val (Value.int p1), .val (Value.int p2), .val (Value.int p3), .val (Value.int p4), .val (Value.int p5), .val (Value.int b0), .val (Value.int b1), .val (Value.int b2), .val (Value.int b3), .val (Value.int (1 : Int32)), .val (Value.ref ob35), .unset, .unset, .unset, .unset] []))
    refine own_Go.by (fun tq kq => XS.aload X59.here hx rfl (hb hby at_62) rfl rfl kq) ?_
    show own_Go p.tables e below _ (T59.setTop (mkF m 64 #[.val (Value.int p1), .val (Value.int p2), .val (Value.int p3), .val (Value.int p4), .val (Value.int p5), .val (Value.int b0), .val (Value.int b1), .val (Value.int b2), .val (Value.int b3), .val (Value.int (1 : Int32)), .val (Value.ref ob35), .unset, .unset, .unset, .unset] [(Value.ref ob35)]))
    refine own_Go.by (fun tq kq => XS.iload X59.here hx rfl (hb hby at_64) rfl kq) ?_
    show own_Go p.tables e below _ (T59.setTop (mkF m 66 #[.val (Value.int p1), .val (Value.int p2), .val (Value.int p3), .val (Value.int p4), .val (Value.int p5), .val (Value.int b0), .val (Value.int b1), .val (Value.int b2), .val (Value.int b3), .val (Value.int (1 : Int32)), .val (Value.ref ob35), .unset, .unset, .unset, .unset] [(Value.int b2), (Value.ref ob35)]))
    obtain ⟨cq61, kq61, q61a, q61b, q61c⟩ := isOf hZ41 rfl p59_0
    obtain ⟨_, _, ⟨T61, L61, k61, n61⟩, -, X61, ⟨Lc61, hQ61, l61, y61, z61⟩, st61⟩ := X59.virtualBack hx (y := (⟨"com/example/plain_bastion/plainbastion/ssh/TypedText", "append", "(B)V"⟩ : MethodName)) (z := (⟨"com/example/plain_bastion/plainbastion/ssh/TypedText", "append", "(B)V"⟩ : MethodName)) hown41 (mvT hZ41 (hw _ (List.mem_of_getElem? (i := 29) rfl))) (mvT hZ41 (hw _ (List.mem_of_getElem? (i := 30) rfl))) (notFace_of_selects (args := #[]) (mvT hZ41 (hw _ (List.mem_of_getElem? (i := 32) rfl)))) (mvT hZ41 (hw _ (List.mem_of_getElem? (i := 32) rfl))) (mvT hZ41 (hw _ (List.mem_of_getElem? (i := 31) rfl))) (by decide) (backOf (W := 0) (rm3 l Z a0 hw [] ob35 b_43 kb_43 (((((List.replicate 256 (Value.int (0 : Int32))).set 0 (Value.int b0)).set 1 (Value.int b1))).take (255 : Int32).toNatClampNeg ++ ((List.range (1 : Int32).toNatClampNeg).map fun i => ((((List.replicate 256 (Value.int (0 : Int32))).set 0 (Value.int b0)).set 1 (Value.int b1))).getD ((1 : Int32).toNatClampNeg + i) (Value.int (0 : Int32))) ++ ((((List.replicate 256 (Value.int (0 : Int32))).set 0 (Value.int b0)).set 1 (Value.int b1))).drop ((255 : Int32).toNatClampNeg + (1 : Int32).toNatClampNeg)) (1 : Int32) (1 : Int32) b2 br2_57 (0 : Int32) 1 T59.heap n0 O60 p59_0 p59_1 p59_2 p59_3 p59_6 p59_4 p59_5 g37 g54 (Nat.ne_of_lt (Nat.lt_of_lt_of_le A35.lt (Nat.le_trans E39.1 (Nat.le_trans E41.1 p43_0)))) (by decide : ((1 : Int32) + (1 : Int32)) < (65536 : Int32)) (by decide : ¬ (((1 : Int32) + (1 : Int32)) = (256 : Int32))) (by decide : ¬ ((1 : Int32) < (0 : Int32)) ∧ (1 : Int32) < (256 : Int32)) (rfl : (1 : Int32).toNatClampNeg = 1) (Nat.le_of_ble_eq_true rfl : 1 < (((((List.replicate 256 (Value.int (0 : Int32))).set 0 (Value.int b0)).set 1 (Value.int b1))).take (255 : Int32).toNatClampNeg ++ ((List.range (1 : Int32).toNatClampNeg).map fun i => ((((List.replicate 256 (Value.int (0 : Int32))).set 0 (Value.int b0)).set 1 (Value.int b1))).getD ((1 : Int32).toNatClampNeg + i) (Value.int (0 : Int32))) ++ ((((List.replicate 256 (Value.int (0 : Int32))).set 0 (Value.int b0)).set 1 (Value.int b1))).drop ((255 : Int32).toNatClampNeg + (1 : Int32).toNatClampNeg)).length) (own_b8 hv_b2 : b2.toInt8.toInt32 = b2)) hZ41 (hw _ (List.mem_of_getElem? (i := 33) rfl)) (hw _ (List.mem_of_getElem? (i := 3) rfl)) (by decide) (by decide)) q61a q61c (g := (mkF m 66 #[.val (Value.int p1), .val (Value.int p2), .val (Value.int p3), .val (Value.int p4), .val (Value.int p5), .val (Value.int b0), .val (Value.int b1), .val (Value.int b2), .val (Value.int b3), .val (Value.int (1 : Int32)), .val (Value.ref ob35), .unset, .unset, .unset, .unset] [(Value.int b2), (Value.ref ob35)])) rfl (by rw [hml]; rfl) (Steps.refl _) (argsL := [(Value.int b2)]) (rest := []) (lenOf own_pd2 rfl) rfl (by show 2 * 0 + _ ≤ _; exact Nat.le_of_eq rfl) (hb hby at_66) (fun _ _ => ⟨rfl, rfl, (by decide : 6 + 0 ≤ _), (by decide : 276 + 0 ≤ _)⟩)
    dsimp only [Pt.U, Pt.locs, Pt.cells, Pt.slots] at X61 l61 y61 z61 st61 hQ61
    subst l61 y61 z61
    refine own_Go.by (fun tq kq => st61.trans kq) ?_
    obtain ⟨br2_61, rfl, N61q, K61q, p61_0, p61_1, p61_2, p61_3, p61_4, p61_5, p61_6⟩ := hQ61
    have N61 := Fr.app N59 N61q
    have O62 := O60.keep K61q (allS g37 (allS g54 all0))
    have K62 := K60.trans K61q (allS (Or.inr z37) (allS (Or.inr z54) all0))
    have hk_62 := Nat.le_trans hk_60 K61q.1
    show own_Go p.tables e below _ (T61.setTop (mkF m 69 #[.val (Value.int p1), .val (Value.int p2), .val (Value.int p3), .val (Value.int p4), .val (Value.int p5), .val (Value.int b0), .val (Value.int b1), .val (Value.int b2), .val (Value.int b3), .val (Value.int (1 : Int32)), .val (Value.ref ob35), .unset, .unset, .unset, .unset] []))
    refine own_Go.by (fun tq kq => XS.aload X61.here hx rfl (hb hby at_69) rfl rfl kq) ?_
    show own_Go p.tables e below _ (T61.setTop (mkF m 71 #[.val (Value.int p1), .val (Value.int p2), .val (Value.int p3), .val (Value.int p4), .val (Value.int p5), .val (Value.int b0), .val (Value.int b1), .val (Value.int b2), .val (Value.int b3), .val (Value.int (1 : Int32)), .val (Value.ref ob35), .unset, .unset, .unset, .unset] [(Value.ref ob35)]))
    refine own_Go.by (fun tq kq => XS.iload X61.here hx rfl (hb hby at_71) rfl kq) ?_
    show own_Go p.tables e below _ (T61.setTop (mkF m 73 #[.val (Value.int p1), .val (Value.int p2), .val (Value.int p3), .val (Value.int p4), .val (Value.int p5), .val (Value.int b0), .val (Value.int b1), .val (Value.int b2), .val (Value.int b3), .val (Value.int (1 : Int32)), .val (Value.ref ob35), .unset, .unset, .unset, .unset] [(Value.int b3), (Value.ref ob35)]))
    obtain ⟨cq63, kq63, q63a, q63b, q63c⟩ := isOf hZ41 rfl p61_0
    obtain ⟨_, _, ⟨T63, L63, k63, n63⟩, -, X63, ⟨Lc63, hQ63, l63, y63, z63⟩, st63⟩ := X61.virtualBack hx (y := (⟨"com/example/plain_bastion/plainbastion/ssh/TypedText", "append", "(B)V"⟩ : MethodName)) (z := (⟨"com/example/plain_bastion/plainbastion/ssh/TypedText", "append", "(B)V"⟩ : MethodName)) hown41 (mvT hZ41 (hw _ (List.mem_of_getElem? (i := 29) rfl))) (mvT hZ41 (hw _ (List.mem_of_getElem? (i := 30) rfl))) (notFace_of_selects (args := #[]) (mvT hZ41 (hw _ (List.mem_of_getElem? (i := 32) rfl)))) (mvT hZ41 (hw _ (List.mem_of_getElem? (i := 32) rfl))) (mvT hZ41 (hw _ (List.mem_of_getElem? (i := 31) rfl))) (by decide) (backOf (W := 0) (rm3 l Z a0 hw [] ob35 b_43 kb_43 ((((((List.replicate 256 (Value.int (0 : Int32))).set 0 (Value.int b0)).set 1 (Value.int b1))).take (255 : Int32).toNatClampNeg ++ ((List.range (1 : Int32).toNatClampNeg).map fun i => ((((List.replicate 256 (Value.int (0 : Int32))).set 0 (Value.int b0)).set 1 (Value.int b1))).getD ((1 : Int32).toNatClampNeg + i) (Value.int (0 : Int32))) ++ ((((List.replicate 256 (Value.int (0 : Int32))).set 0 (Value.int b0)).set 1 (Value.int b1))).drop ((255 : Int32).toNatClampNeg + (1 : Int32).toNatClampNeg)).set 1 (Value.int b2)) (2 : Int32) (1 : Int32) b3 br2_61 (0 : Int32) 2 T61.heap n0 O62 p61_0 p61_1 p61_2 p61_3 p61_6 p61_4 p61_5 g37 g54 (Nat.ne_of_lt (Nat.lt_of_lt_of_le A35.lt (Nat.le_trans E39.1 (Nat.le_trans E41.1 p43_0)))) (by decide : ((2 : Int32) + (1 : Int32)) < (65536 : Int32)) (by decide : ¬ (((2 : Int32) + (1 : Int32)) = (256 : Int32))) (by decide : ¬ ((2 : Int32) < (0 : Int32)) ∧ (2 : Int32) < (256 : Int32)) (rfl : (2 : Int32).toNatClampNeg = 2) (Nat.le_of_ble_eq_true rfl : 2 < ((((((List.replicate 256 (Value.int (0 : Int32))).set 0 (Value.int b0)).set 1 (Value.int b1))).take (255 : Int32).toNatClampNeg ++ ((List.range (1 : Int32).toNatClampNeg).map fun i => ((((List.replicate 256 (Value.int (0 : Int32))).set 0 (Value.int b0)).set 1 (Value.int b1))).getD ((1 : Int32).toNatClampNeg + i) (Value.int (0 : Int32))) ++ ((((List.replicate 256 (Value.int (0 : Int32))).set 0 (Value.int b0)).set 1 (Value.int b1))).drop ((255 : Int32).toNatClampNeg + (1 : Int32).toNatClampNeg)).set 1 (Value.int b2)).length) (own_b8 hv_b3 : b3.toInt8.toInt32 = b3)) hZ41 (hw _ (List.mem_of_getElem? (i := 33) rfl)) (hw _ (List.mem_of_getElem? (i := 3) rfl)) (by decide) (by decide)) q63a q63c (g := (mkF m 73 #[.val (Value.int p1), .val (Value.int p2), .val (Value.int p3), .val (Value.int p4), .val (Value.int p5), .val (Value.int b0), .val (Value.int b1), .val (Value.int b2), .val (Value.int b3), .val (Value.int (1 : Int32)), .val (Value.ref ob35), .unset, .unset, .unset, .unset] [(Value.int b3), (Value.ref ob35)])) rfl (by rw [hml]; rfl) (Steps.refl _) (argsL := [(Value.int b3)]) (rest := []) (lenOf own_pd2 rfl) rfl (by show 2 * 0 + _ ≤ _; exact Nat.le_of_eq rfl) (hb hby at_73) (fun _ _ => ⟨rfl, rfl, (by decide : 6 + 0 ≤ _), (by decide : 276 + 0 ≤ _)⟩)
    dsimp only [Pt.U, Pt.locs, Pt.cells, Pt.slots] at X63 l63 y63 z63 st63 hQ63
    subst l63 y63 z63
    refine own_Go.by (fun tq kq => st63.trans kq) ?_
    obtain ⟨br2_63, rfl, N63q, K63q, p63_0, p63_1, p63_2, p63_3, p63_4, p63_5, p63_6⟩ := hQ63
    have N63 := Fr.app N61 N63q
    have O64 := O62.keep K63q (allS g37 (allS g54 all0))
    have K64 := K62.trans K63q (allS (Or.inr z37) (allS (Or.inr z54) all0))
    have hk_64 := Nat.le_trans hk_62 K63q.1
    show own_Go p.tables e below _ (T63.setTop (mkF m 76 #[.val (Value.int p1), .val (Value.int p2), .val (Value.int p3), .val (Value.int p4), .val (Value.int p5), .val (Value.int b0), .val (Value.int b1), .val (Value.int b2), .val (Value.int b3), .val (Value.int (1 : Int32)), .val (Value.ref ob35), .unset, .unset, .unset, .unset] []))
    refine own_Go.by (fun tq kq => XS.iload X63.here hx rfl (hb hby at_76) rfl kq) ?_
    show own_Go p.tables e below _ (T63.setTop (mkF m 78 #[.val (Value.int p1), .val (Value.int p2), .val (Value.int p3), .val (Value.int p4), .val (Value.int p5), .val (Value.int b0), .val (Value.int b1), .val (Value.int b2), .val (Value.int b3), .val (Value.int (1 : Int32)), .val (Value.ref ob35), .unset, .unset, .unset, .unset] [(Value.int (1 : Int32))]))
    refine own_Go.by (fun tq kq => XS.ifYes X63.here hx rfl (pc0 := 78) (pc' := 86) rfl (hb hby at_78) rfl ((if0 _ _).trans (feq (by decide : ¬ ((1 : Int32) = (0 : Int32)))).2) (by decide) (by decide) kq) ?_
    show own_Go p.tables e below _ (T63.setTop (mkF m 86 #[.val (Value.int p1), .val (Value.int p2), .val (Value.int p3), .val (Value.int p4), .val (Value.int p5), .val (Value.int b0), .val (Value.int b1), .val (Value.int b2), .val (Value.int b3), .val (Value.int (1 : Int32)), .val (Value.ref ob35), .unset, .unset, .unset, .unset] []))
    refine own_Go.by (fun tq kq => XS.iload X63.here hx rfl (hb hby at_86) rfl kq) ?_
    show own_Go p.tables e below _ (T63.setTop (mkF m 88 #[.val (Value.int p1), .val (Value.int p2), .val (Value.int p3), .val (Value.int p4), .val (Value.int p5), .val (Value.int b0), .val (Value.int b1), .val (Value.int b2), .val (Value.int b3), .val (Value.int (1 : Int32)), .val (Value.ref ob35), .unset, .unset, .unset, .unset] [(Value.int b0)]))
    refine own_Go.by (fun tq kq => XS.istore X63.here hx rfl (hb hby at_88) rfl (l' := #[.val (Value.int p1), .val (Value.int p2), .val (Value.int p3), .val (Value.int p4), .val (Value.int p5), .val (Value.int b0), .val (Value.int b1), .val (Value.int b2), .val (Value.int b3), .val (Value.int (1 : Int32)), .val (Value.ref ob35), .val (Value.int b0), .unset, .unset, .unset]) rfl kq) ?_
    show own_Go p.tables e below _ (T63.setTop (mkF m 90 #[.val (Value.int p1), .val (Value.int p2), .val (Value.int p3), .val (Value.int p4), .val (Value.int p5), .val (Value.int b0), .val (Value.int b1), .val (Value.int b2), .val (Value.int b3), .val (Value.int (1 : Int32)), .val (Value.ref ob35), .val (Value.int b0), .unset, .unset, .unset] []))
    refine own_Go.by (fun tq kq => XS.iload X63.here hx rfl (hb hby at_90) rfl kq) ?_
    show own_Go p.tables e below _ (T63.setTop (mkF m 92 #[.val (Value.int p1), .val (Value.int p2), .val (Value.int p3), .val (Value.int p4), .val (Value.int p5), .val (Value.int b0), .val (Value.int b1), .val (Value.int b2), .val (Value.int b3), .val (Value.int (1 : Int32)), .val (Value.ref ob35), .val (Value.int b0), .unset, .unset, .unset] [(Value.int (1 : Int32))]))
    refine own_Go.by (fun tq kq => XS.ifYes X63.here hx rfl (pc0 := 92) (pc' := 100) rfl (hb hby at_92) rfl ((if0 _ _).trans (feq (by decide : ¬ ((1 : Int32) = (0 : Int32)))).2) (by decide) (by decide) kq) ?_
    show own_Go p.tables e below _ (T63.setTop (mkF m 100 #[.val (Value.int p1), .val (Value.int p2), .val (Value.int p3), .val (Value.int p4), .val (Value.int p5), .val (Value.int b0), .val (Value.int b1), .val (Value.int b2), .val (Value.int b3), .val (Value.int (1 : Int32)), .val (Value.ref ob35), .val (Value.int b0), .unset, .unset, .unset] []))
    refine own_Go.by (fun tq kq => XS.iload X63.here hx rfl (hb hby at_100) rfl kq) ?_
    show own_Go p.tables e below _ (T63.setTop (mkF m 102 #[.val (Value.int p1), .val (Value.int p2), .val (Value.int p3), .val (Value.int p4), .val (Value.int p5), .val (Value.int b0), .val (Value.int b1), .val (Value.int b2), .val (Value.int b3), .val (Value.int (1 : Int32)), .val (Value.ref ob35), .val (Value.int b0), .unset, .unset, .unset] [(Value.int (1 : Int32))]))
    refine own_Go.by (fun tq kq => XS.iconst X63.here hx rfl (hb hby at_102) kq) ?_
    show own_Go p.tables e below _ (T63.setTop (mkF m 103 #[.val (Value.int p1), .val (Value.int p2), .val (Value.int p3), .val (Value.int p4), .val (Value.int p5), .val (Value.int b0), .val (Value.int b1), .val (Value.int b2), .val (Value.int b3), .val (Value.int (1 : Int32)), .val (Value.ref ob35), .val (Value.int b0), .unset, .unset, .unset] [(Value.int (1 : Int32)), (Value.int (1 : Int32))]))
    refine own_Go.by (fun tq kq => XS.icmpNo X63.here hx rfl (hb hby at_103) rfl (teq (by decide : (1 : Int32) = (1 : Int32))).2 kq) ?_
    show own_Go p.tables e below _ (T63.setTop (mkF m 106 #[.val (Value.int p1), .val (Value.int p2), .val (Value.int p3), .val (Value.int p4), .val (Value.int p5), .val (Value.int b0), .val (Value.int b1), .val (Value.int b2), .val (Value.int b3), .val (Value.int (1 : Int32)), .val (Value.ref ob35), .val (Value.int b0), .unset, .unset, .unset] []))
    refine own_Go.by (fun tq kq => XS.iload X63.here hx rfl (hb hby at_106) rfl kq) ?_
    show own_Go p.tables e below _ (T63.setTop (mkF m 108 #[.val (Value.int p1), .val (Value.int p2), .val (Value.int p3), .val (Value.int p4), .val (Value.int p5), .val (Value.int b0), .val (Value.int b1), .val (Value.int b2), .val (Value.int b3), .val (Value.int (1 : Int32)), .val (Value.ref ob35), .val (Value.int b0), .unset, .unset, .unset] [(Value.int b2)]))
    refine own_Go.by (fun tq kq => XS.goto X63.here hx rfl (pc0 := 108) (pc' := 113) rfl (hb hby at_108) (by decide) (by decide) kq) ?_
    show own_Go p.tables e below _ (T63.setTop (mkF m 113 #[.val (Value.int p1), .val (Value.int p2), .val (Value.int p3), .val (Value.int p4), .val (Value.int p5), .val (Value.int b0), .val (Value.int b1), .val (Value.int b2), .val (Value.int b3), .val (Value.int (1 : Int32)), .val (Value.ref ob35), .val (Value.int b0), .unset, .unset, .unset] [(Value.int b2)]))
    refine own_Go.by (fun tq kq => XS.istore X63.here hx rfl (hb hby at_113) rfl (l' := #[.val (Value.int p1), .val (Value.int p2), .val (Value.int p3), .val (Value.int p4), .val (Value.int p5), .val (Value.int b0), .val (Value.int b1), .val (Value.int b2), .val (Value.int b3), .val (Value.int (1 : Int32)), .val (Value.ref ob35), .val (Value.int b0), .val (Value.int b2), .unset, .unset]) rfl kq) ?_
    show own_Go p.tables e below _ (T63.setTop (mkF m 115 #[.val (Value.int p1), .val (Value.int p2), .val (Value.int p3), .val (Value.int p4), .val (Value.int p5), .val (Value.int b0), .val (Value.int b1), .val (Value.int b2), .val (Value.int b3), .val (Value.int (1 : Int32)), .val (Value.ref ob35), .val (Value.int b0), .val (Value.int b2), .unset, .unset] []))
    refine own_Go.by (fun tq kq => XS.iload X63.here hx rfl (hb hby at_115) rfl kq) ?_
    show own_Go p.tables e below _ (T63.setTop (mkF m 117 #[.val (Value.int p1), .val (Value.int p2), .val (Value.int p3), .val (Value.int p4), .val (Value.int p5), .val (Value.int b0), .val (Value.int b1), .val (Value.int b2), .val (Value.int b3), .val (Value.int (1 : Int32)), .val (Value.ref ob35), .val (Value.int b0), .val (Value.int b2), .unset, .unset] [(Value.int (1 : Int32))]))
    refine own_Go.by (fun tq kq => XS.ifYes X63.here hx rfl (pc0 := 117) (pc' := 125) rfl (hb hby at_117) rfl ((if0 _ _).trans (feq (by decide : ¬ ((1 : Int32) = (0 : Int32)))).2) (by decide) (by decide) kq) ?_
    show own_Go p.tables e below _ (T63.setTop (mkF m 125 #[.val (Value.int p1), .val (Value.int p2), .val (Value.int p3), .val (Value.int p4), .val (Value.int p5), .val (Value.int b0), .val (Value.int b1), .val (Value.int b2), .val (Value.int b3), .val (Value.int (1 : Int32)), .val (Value.ref ob35), .val (Value.int b0), .val (Value.int b2), .unset, .unset] []))
    refine own_Go.by (fun tq kq => XS.iload X63.here hx rfl (hb hby at_125) rfl kq) ?_
    show own_Go p.tables e below _ (T63.setTop (mkF m 127 #[.val (Value.int p1), .val (Value.int p2), .val (Value.int p3), .val (Value.int p4), .val (Value.int p5), .val (Value.int b0), .val (Value.int b1), .val (Value.int b2), .val (Value.int b3), .val (Value.int (1 : Int32)), .val (Value.ref ob35), .val (Value.int b0), .val (Value.int b2), .unset, .unset] [(Value.int (1 : Int32))]))
    refine own_Go.by (fun tq kq => XS.iconst X63.here hx rfl (hb hby at_127) kq) ?_
    show own_Go p.tables e below _ (T63.setTop (mkF m 128 #[.val (Value.int p1), .val (Value.int p2), .val (Value.int p3), .val (Value.int p4), .val (Value.int p5), .val (Value.int b0), .val (Value.int b1), .val (Value.int b2), .val (Value.int b3), .val (Value.int (1 : Int32)), .val (Value.ref ob35), .val (Value.int b0), .val (Value.int b2), .unset, .unset] [(Value.int (1 : Int32)), (Value.int (1 : Int32))]))
    refine own_Go.by (fun tq kq => XS.icmpNo X63.here hx rfl (hb hby at_128) rfl (teq (by decide : (1 : Int32) = (1 : Int32))).2 kq) ?_
    show own_Go p.tables e below _ (T63.setTop (mkF m 131 #[.val (Value.int p1), .val (Value.int p2), .val (Value.int p3), .val (Value.int p4), .val (Value.int p5), .val (Value.int b0), .val (Value.int b1), .val (Value.int b2), .val (Value.int b3), .val (Value.int (1 : Int32)), .val (Value.ref ob35), .val (Value.int b0), .val (Value.int b2), .unset, .unset] []))
    refine own_Go.by (fun tq kq => XS.iload X63.here hx rfl (hb hby at_131) rfl kq) ?_
    show own_Go p.tables e below _ (T63.setTop (mkF m 133 #[.val (Value.int p1), .val (Value.int p2), .val (Value.int p3), .val (Value.int p4), .val (Value.int p5), .val (Value.int b0), .val (Value.int b1), .val (Value.int b2), .val (Value.int b3), .val (Value.int (1 : Int32)), .val (Value.ref ob35), .val (Value.int b0), .val (Value.int b2), .unset, .unset] [(Value.int b3)]))
    refine own_Go.by (fun tq kq => XS.goto X63.here hx rfl (pc0 := 133) (pc' := 138) rfl (hb hby at_133) (by decide) (by decide) kq) ?_
    show own_Go p.tables e below _ (T63.setTop (mkF m 138 #[.val (Value.int p1), .val (Value.int p2), .val (Value.int p3), .val (Value.int p4), .val (Value.int p5), .val (Value.int b0), .val (Value.int b1), .val (Value.int b2), .val (Value.int b3), .val (Value.int (1 : Int32)), .val (Value.ref ob35), .val (Value.int b0), .val (Value.int b2), .unset, .unset] [(Value.int b3)]))
    refine own_Go.by (fun tq kq => XS.istore X63.here hx rfl (hb hby at_138) rfl (l' := #[.val (Value.int p1), .val (Value.int p2), .val (Value.int p3), .val (Value.int p4), .val (Value.int p5), .val (Value.int b0), .val (Value.int b1), .val (Value.int b2), .val (Value.int b3), .val (Value.int (1 : Int32)), .val (Value.ref ob35), .val (Value.int b0), .val (Value.int b2), .val (Value.int b3), .unset]) rfl kq) ?_
    show own_Go p.tables e below _ (T63.setTop (mkF m 140 #[.val (Value.int p1), .val (Value.int p2), .val (Value.int p3), .val (Value.int p4), .val (Value.int p5), .val (Value.int b0), .val (Value.int b1), .val (Value.int b2), .val (Value.int b3), .val (Value.int (1 : Int32)), .val (Value.ref ob35), .val (Value.int b0), .val (Value.int b2), .val (Value.int b3), .unset] []))
    refine own_Go.by (fun tq kq => XS.iload X63.here hx rfl (hb hby at_140) rfl kq) ?_
    show own_Go p.tables e below _ (T63.setTop (mkF m 142 #[.val (Value.int p1), .val (Value.int p2), .val (Value.int p3), .val (Value.int p4), .val (Value.int p5), .val (Value.int b0), .val (Value.int b1), .val (Value.int b2), .val (Value.int b3), .val (Value.int (1 : Int32)), .val (Value.ref ob35), .val (Value.int b0), .val (Value.int b2), .val (Value.int b3), .unset] [(Value.int (1 : Int32))]))
    refine own_Go.by (fun tq kq => XS.iconst X63.here hx rfl (hb hby at_142) kq) ?_
    show own_Go p.tables e below _ (T63.setTop (mkF m 143 #[.val (Value.int p1), .val (Value.int p2), .val (Value.int p3), .val (Value.int p4), .val (Value.int p5), .val (Value.int b0), .val (Value.int b1), .val (Value.int b2), .val (Value.int b3), .val (Value.int (1 : Int32)), .val (Value.ref ob35), .val (Value.int b0), .val (Value.int b2), .val (Value.int b3), .unset] [(Value.int (2 : Int32)), (Value.int (1 : Int32))]))
    refine own_Go.by (fun tq kq => XS.icmpYes X63.here hx rfl (pc0 := 143) (pc' := 151) rfl (hb hby at_143) rfl (feq (by decide : ¬ ((1 : Int32) = (2 : Int32)))).2 (by decide) (by decide) kq) ?_
    show own_Go p.tables e below _ (T63.setTop (mkF m 151 #[.val (Value.int p1), .val (Value.int p2), .val (Value.int p3), .val (Value.int p4), .val (Value.int p5), .val (Value.int b0), .val (Value.int b1), .val (Value.int b2), .val (Value.int b3), .val (Value.int (1 : Int32)), .val (Value.ref ob35), .val (Value.int b0), .val (Value.int b2), .val (Value.int b3), .unset] []))
    refine own_Go.by (fun tq kq => XS.iload X63.here hx rfl (hb hby at_151) rfl kq) ?_
    show own_Go p.tables e below _ (T63.setTop (mkF m 153 #[.val (Value.int p1), .val (Value.int p2), .val (Value.int p3), .val (Value.int p4), .val (Value.int p5), .val (Value.int b0), .val (Value.int b1), .val (Value.int b2), .val (Value.int b3), .val (Value.int (1 : Int32)), .val (Value.ref ob35), .val (Value.int b0), .val (Value.int b2), .val (Value.int b3), .unset] [(Value.int b1)]))
    refine own_Go.by (fun tq kq => XS.istore X63.here hx rfl (hb hby at_153) rfl (l' := #[.val (Value.int p1), .val (Value.int p2), .val (Value.int p3), .val (Value.int p4), .val (Value.int p5), .val (Value.int b0), .val (Value.int b1), .val (Value.int b2), .val (Value.int b3), .val (Value.int (1 : Int32)), .val (Value.ref ob35), .val (Value.int b0), .val (Value.int b2), .val (Value.int b3), .val (Value.int b1)]) rfl kq) ?_
    show own_Go p.tables e below _ (T63.setTop (mkF m 155 #[.val (Value.int p1), .val (Value.int p2), .val (Value.int p3), .val (Value.int p4), .val (Value.int p5), .val (Value.int b0), .val (Value.int b1), .val (Value.int b2), .val (Value.int b3), .val (Value.int (1 : Int32)), .val (Value.ref ob35), .val (Value.int b0), .val (Value.int b2), .val (Value.int b3), .val (Value.int b1)] []))
    refine own_Go.by (fun tq kq => XS.aload X63.here hx rfl (hb hby at_155) rfl rfl kq) ?_
    show own_Go p.tables e below _ (T63.setTop (mkF m 157 #[.val (Value.int p1), .val (Value.int p2), .val (Value.int p3), .val (Value.int p4), .val (Value.int p5), .val (Value.int b0), .val (Value.int b1), .val (Value.int b2), .val (Value.int b3), .val (Value.int (1 : Int32)), .val (Value.ref ob35), .val (Value.int b0), .val (Value.int b2), .val (Value.int b3), .val (Value.int b1)] [(Value.ref ob35)]))
    refine own_Go.by (fun tq kq => XS.iconst X63.here hx rfl (hb hby at_157) kq) ?_
    show own_Go p.tables e below _ (T63.setTop (mkF m 158 #[.val (Value.int p1), .val (Value.int p2), .val (Value.int p3), .val (Value.int p4), .val (Value.int p5), .val (Value.int b0), .val (Value.int b1), .val (Value.int b2), .val (Value.int b3), .val (Value.int (1 : Int32)), .val (Value.ref ob35), .val (Value.int b0), .val (Value.int b2), .val (Value.int b3), .val (Value.int b1)] [(Value.int (0 : Int32)), (Value.ref ob35)]))
    obtain ⟨cq65, kq65, q65a, q65b, q65c⟩ := isOf hZ41 rfl p63_0
    obtain ⟨_, _, ⟨T65, L65, k65, n65⟩, -, X65, ⟨Lc65, hQ65, l65, y65, z65⟩, st65⟩ := X63.virtualBack hx (y := (⟨"com/example/plain_bastion/plainbastion/ssh/TypedText", "at", "(I)B"⟩ : MethodName)) (z := (⟨"com/example/plain_bastion/plainbastion/ssh/TypedText", "at", "(I)B"⟩ : MethodName)) hown41 (mvT hZ41 (hw _ (List.mem_of_getElem? (i := 57) rfl))) (mvT hZ41 (hw _ (List.mem_of_getElem? (i := 58) rfl))) (notFace_of_selects (args := #[]) (mvT hZ41 (hw _ (List.mem_of_getElem? (i := 60) rfl)))) (mvT hZ41 (hw _ (List.mem_of_getElem? (i := 60) rfl))) (mvT hZ41 (hw _ (List.mem_of_getElem? (i := 59) rfl))) (by decide) (backOf (W := 0) (rm6_lo l Z a0 hw [] ob35 b_43 kb_43 (((((((List.replicate 256 (Value.int (0 : Int32))).set 0 (Value.int b0)).set 1 (Value.int b1))).take (255 : Int32).toNatClampNeg ++ ((List.range (1 : Int32).toNatClampNeg).map fun i => ((((List.replicate 256 (Value.int (0 : Int32))).set 0 (Value.int b0)).set 1 (Value.int b1))).getD ((1 : Int32).toNatClampNeg + i) (Value.int (0 : Int32))) ++ ((((List.replicate 256 (Value.int (0 : Int32))).set 0 (Value.int b0)).set 1 (Value.int b1))).drop ((255 : Int32).toNatClampNeg + (1 : Int32).toNatClampNeg)).set 1 (Value.int b2)).set 2 (Value.int b3)) (3 : Int32) (1 : Int32) (0 : Int32) b0 T63.heap n0 O64 p63_0 p63_1 p63_2 p63_3 p63_6 (by decide : (0 : Int32) < (3 : Int32)) (by decide : ¬ ((0 : Int32) < (0 : Int32)) ∧ (0 : Int32) < (256 : Int32)) (rfl : (((((((List.replicate 256 (Value.int (0 : Int32))).set 0 (Value.int b0)).set 1 (Value.int b1))).take (255 : Int32).toNatClampNeg ++ ((List.range (1 : Int32).toNatClampNeg).map fun i => ((((List.replicate 256 (Value.int (0 : Int32))).set 0 (Value.int b0)).set 1 (Value.int b1))).getD ((1 : Int32).toNatClampNeg + i) (Value.int (0 : Int32))) ++ ((((List.replicate 256 (Value.int (0 : Int32))).set 0 (Value.int b0)).set 1 (Value.int b1))).drop ((255 : Int32).toNatClampNeg + (1 : Int32).toNatClampNeg)).set 1 (Value.int b2)).set 2 (Value.int b3)).getD (0 : Int32).toNatClampNeg (Value.int (0 : Int32)) = (Value.int b0)) (own_b8 hv_b0 : b0.toInt8.toInt32 = b0)) hZ41 (hw _ (List.mem_of_getElem? (i := 61) rfl)) (hw _ (List.mem_of_getElem? (i := 3) rfl)) (by decide) (by decide)) q65a q65c (g := (mkF m 158 #[.val (Value.int p1), .val (Value.int p2), .val (Value.int p3), .val (Value.int p4), .val (Value.int p5), .val (Value.int b0), .val (Value.int b1), .val (Value.int b2), .val (Value.int b3), .val (Value.int (1 : Int32)), .val (Value.ref ob35), .val (Value.int b0), .val (Value.int b2), .val (Value.int b3), .val (Value.int b1)] [(Value.int (0 : Int32)), (Value.ref ob35)])) rfl (by rw [hml]; rfl) (Steps.refl _) (argsL := [(Value.int (0 : Int32))]) (rest := []) (lenOf own_pd4 rfl) rfl (by show 2 * 0 + _ ≤ _; exact Nat.le_of_eq rfl) (hb hby at_158) (fun _ _ => ⟨rfl, rfl, (by decide : 6 + 0 ≤ _), (by decide : 276 + 0 ≤ _)⟩)
    dsimp only [Pt.U, Pt.locs, Pt.cells, Pt.slots] at X65 l65 y65 z65 st65 hQ65
    subst l65 y65 z65
    refine own_Go.by (fun tq kq => st65.trans kq) ?_
    obtain ⟨rfl, N65q, e65⟩ := hQ65
    have N65 := Fr.app N63 N65q
    show own_Go p.tables e below _ (T65.setTop (mkF m 161 #[.val (Value.int p1), .val (Value.int p2), .val (Value.int p3), .val (Value.int p4), .val (Value.int p5), .val (Value.int b0), .val (Value.int b1), .val (Value.int b2), .val (Value.int b3), .val (Value.int (1 : Int32)), .val (Value.ref ob35), .val (Value.int b0), .val (Value.int b2), .val (Value.int b3), .val (Value.int b1)] [(Value.int b0)]))
    refine own_Go.by (fun tq kq => XS.iload X65.here hx rfl (hb hby at_161) rfl kq) ?_
    show own_Go p.tables e below _ (T65.setTop (mkF m 163 #[.val (Value.int p1), .val (Value.int p2), .val (Value.int p3), .val (Value.int p4), .val (Value.int p5), .val (Value.int b0), .val (Value.int b1), .val (Value.int b2), .val (Value.int b3), .val (Value.int (1 : Int32)), .val (Value.ref ob35), .val (Value.int b0), .val (Value.int b2), .val (Value.int b3), .val (Value.int b1)] [(Value.int b0), (Value.int b0)]))
    refine own_Go.by (fun tq kq => XS.icmpNo X65.here hx rfl (hb hby at_163) rfl (teq (rfl : b0 = b0)).2 kq) ?_
    show own_Go p.tables e below _ (T65.setTop (mkF m 166 #[.val (Value.int p1), .val (Value.int p2), .val (Value.int p3), .val (Value.int p4), .val (Value.int p5), .val (Value.int b0), .val (Value.int b1), .val (Value.int b2), .val (Value.int b3), .val (Value.int (1 : Int32)), .val (Value.ref ob35), .val (Value.int b0), .val (Value.int b2), .val (Value.int b3), .val (Value.int b1)] []))
    refine own_Go.by (fun tq kq => XS.aload X65.here hx rfl (hb hby at_166) rfl rfl kq) ?_
    show own_Go p.tables e below _ (T65.setTop (mkF m 168 #[.val (Value.int p1), .val (Value.int p2), .val (Value.int p3), .val (Value.int p4), .val (Value.int p5), .val (Value.int b0), .val (Value.int b1), .val (Value.int b2), .val (Value.int b3), .val (Value.int (1 : Int32)), .val (Value.ref ob35), .val (Value.int b0), .val (Value.int b2), .val (Value.int b3), .val (Value.int b1)] [(Value.ref ob35)]))
    refine own_Go.by (fun tq kq => XS.iconst X65.here hx rfl (hb hby at_168) kq) ?_
    show own_Go p.tables e below _ (T65.setTop (mkF m 169 #[.val (Value.int p1), .val (Value.int p2), .val (Value.int p3), .val (Value.int p4), .val (Value.int p5), .val (Value.int b0), .val (Value.int b1), .val (Value.int b2), .val (Value.int b3), .val (Value.int (1 : Int32)), .val (Value.ref ob35), .val (Value.int b0), .val (Value.int b2), .val (Value.int b3), .val (Value.int b1)] [(Value.int (1 : Int32)), (Value.ref ob35)]))
    obtain ⟨cq66, kq66, q66a, q66b, q66c⟩ := isOf hZ41 e65 p63_0
    obtain ⟨_, _, ⟨T66, L66, k66, n66⟩, -, X66, ⟨Lc66, hQ66, l66, y66, z66⟩, st66⟩ := X65.virtualBack hx (y := (⟨"com/example/plain_bastion/plainbastion/ssh/TypedText", "at", "(I)B"⟩ : MethodName)) (z := (⟨"com/example/plain_bastion/plainbastion/ssh/TypedText", "at", "(I)B"⟩ : MethodName)) hown41 (mvT hZ41 (hw _ (List.mem_of_getElem? (i := 57) rfl))) (mvT hZ41 (hw _ (List.mem_of_getElem? (i := 58) rfl))) (notFace_of_selects (args := #[]) (mvT hZ41 (hw _ (List.mem_of_getElem? (i := 60) rfl)))) (mvT hZ41 (hw _ (List.mem_of_getElem? (i := 60) rfl))) (mvT hZ41 (hw _ (List.mem_of_getElem? (i := 59) rfl))) (by decide) (backOf (W := 0) (rm6_lo l Z a0 hw [] ob35 b_43 kb_43 (((((((List.replicate 256 (Value.int (0 : Int32))).set 0 (Value.int b0)).set 1 (Value.int b1))).take (255 : Int32).toNatClampNeg ++ ((List.range (1 : Int32).toNatClampNeg).map fun i => ((((List.replicate 256 (Value.int (0 : Int32))).set 0 (Value.int b0)).set 1 (Value.int b1))).getD ((1 : Int32).toNatClampNeg + i) (Value.int (0 : Int32))) ++ ((((List.replicate 256 (Value.int (0 : Int32))).set 0 (Value.int b0)).set 1 (Value.int b1))).drop ((255 : Int32).toNatClampNeg + (1 : Int32).toNatClampNeg)).set 1 (Value.int b2)).set 2 (Value.int b3)) (3 : Int32) (1 : Int32) (1 : Int32) b2 T63.heap n0 O64 p63_0 p63_1 p63_2 p63_3 p63_6 (by decide : (1 : Int32) < (3 : Int32)) (by decide : ¬ ((1 : Int32) < (0 : Int32)) ∧ (1 : Int32) < (256 : Int32)) (rfl : (((((((List.replicate 256 (Value.int (0 : Int32))).set 0 (Value.int b0)).set 1 (Value.int b1))).take (255 : Int32).toNatClampNeg ++ ((List.range (1 : Int32).toNatClampNeg).map fun i => ((((List.replicate 256 (Value.int (0 : Int32))).set 0 (Value.int b0)).set 1 (Value.int b1))).getD ((1 : Int32).toNatClampNeg + i) (Value.int (0 : Int32))) ++ ((((List.replicate 256 (Value.int (0 : Int32))).set 0 (Value.int b0)).set 1 (Value.int b1))).drop ((255 : Int32).toNatClampNeg + (1 : Int32).toNatClampNeg)).set 1 (Value.int b2)).set 2 (Value.int b3)).getD (1 : Int32).toNatClampNeg (Value.int (0 : Int32)) = (Value.int b2)) (own_b8 hv_b2 : b2.toInt8.toInt32 = b2)) hZ41 (hw _ (List.mem_of_getElem? (i := 61) rfl)) (hw _ (List.mem_of_getElem? (i := 3) rfl)) (by decide) (by decide)) q66a q66c (g := (mkF m 169 #[.val (Value.int p1), .val (Value.int p2), .val (Value.int p3), .val (Value.int p4), .val (Value.int p5), .val (Value.int b0), .val (Value.int b1), .val (Value.int b2), .val (Value.int b3), .val (Value.int (1 : Int32)), .val (Value.ref ob35), .val (Value.int b0), .val (Value.int b2), .val (Value.int b3), .val (Value.int b1)] [(Value.int (1 : Int32)), (Value.ref ob35)])) rfl (by rw [hml]; rfl) (Steps.refl _) (argsL := [(Value.int (1 : Int32))]) (rest := []) (lenOf own_pd4 rfl) rfl (by show 2 * 0 + _ ≤ _; exact Nat.le_of_eq rfl) (hb hby at_169) (fun _ _ => ⟨rfl, e65, (by decide : 6 + 0 ≤ _), (by decide : 276 + 0 ≤ _)⟩)
    dsimp only [Pt.U, Pt.locs, Pt.cells, Pt.slots] at X66 l66 y66 z66 st66 hQ66
    subst l66 y66 z66
    refine own_Go.by (fun tq kq => st66.trans kq) ?_
    obtain ⟨rfl, N66q, e66⟩ := hQ66
    have N66 := Fr.app N65 N66q
    show own_Go p.tables e below _ (T66.setTop (mkF m 172 #[.val (Value.int p1), .val (Value.int p2), .val (Value.int p3), .val (Value.int p4), .val (Value.int p5), .val (Value.int b0), .val (Value.int b1), .val (Value.int b2), .val (Value.int b3), .val (Value.int (1 : Int32)), .val (Value.ref ob35), .val (Value.int b0), .val (Value.int b2), .val (Value.int b3), .val (Value.int b1)] [(Value.int b2)]))
    refine own_Go.by (fun tq kq => XS.iload X66.here hx rfl (hb hby at_172) rfl kq) ?_
    show own_Go p.tables e below _ (T66.setTop (mkF m 174 #[.val (Value.int p1), .val (Value.int p2), .val (Value.int p3), .val (Value.int p4), .val (Value.int p5), .val (Value.int b0), .val (Value.int b1), .val (Value.int b2), .val (Value.int b3), .val (Value.int (1 : Int32)), .val (Value.ref ob35), .val (Value.int b0), .val (Value.int b2), .val (Value.int b3), .val (Value.int b1)] [(Value.int b2), (Value.int b2)]))
    refine own_Go.by (fun tq kq => XS.icmpNo X66.here hx rfl (hb hby at_174) rfl (teq (rfl : b2 = b2)).2 kq) ?_
    show own_Go p.tables e below _ (T66.setTop (mkF m 177 #[.val (Value.int p1), .val (Value.int p2), .val (Value.int p3), .val (Value.int p4), .val (Value.int p5), .val (Value.int b0), .val (Value.int b1), .val (Value.int b2), .val (Value.int b3), .val (Value.int (1 : Int32)), .val (Value.ref ob35), .val (Value.int b0), .val (Value.int b2), .val (Value.int b3), .val (Value.int b1)] []))
    refine own_Go.by (fun tq kq => XS.aload X66.here hx rfl (hb hby at_177) rfl rfl kq) ?_
    show own_Go p.tables e below _ (T66.setTop (mkF m 179 #[.val (Value.int p1), .val (Value.int p2), .val (Value.int p3), .val (Value.int p4), .val (Value.int p5), .val (Value.int b0), .val (Value.int b1), .val (Value.int b2), .val (Value.int b3), .val (Value.int (1 : Int32)), .val (Value.ref ob35), .val (Value.int b0), .val (Value.int b2), .val (Value.int b3), .val (Value.int b1)] [(Value.ref ob35)]))
    refine own_Go.by (fun tq kq => XS.iconst X66.here hx rfl (hb hby at_179) kq) ?_
    show own_Go p.tables e below _ (T66.setTop (mkF m 180 #[.val (Value.int p1), .val (Value.int p2), .val (Value.int p3), .val (Value.int p4), .val (Value.int p5), .val (Value.int b0), .val (Value.int b1), .val (Value.int b2), .val (Value.int b3), .val (Value.int (1 : Int32)), .val (Value.ref ob35), .val (Value.int b0), .val (Value.int b2), .val (Value.int b3), .val (Value.int b1)] [(Value.int (2 : Int32)), (Value.ref ob35)]))
    obtain ⟨cq67, kq67, q67a, q67b, q67c⟩ := isOf hZ41 e66 p63_0
    obtain ⟨_, _, ⟨T67, L67, k67, n67⟩, -, X67, ⟨Lc67, hQ67, l67, y67, z67⟩, st67⟩ := X66.virtualBack hx (y := (⟨"com/example/plain_bastion/plainbastion/ssh/TypedText", "at", "(I)B"⟩ : MethodName)) (z := (⟨"com/example/plain_bastion/plainbastion/ssh/TypedText", "at", "(I)B"⟩ : MethodName)) hown41 (mvT hZ41 (hw _ (List.mem_of_getElem? (i := 57) rfl))) (mvT hZ41 (hw _ (List.mem_of_getElem? (i := 58) rfl))) (notFace_of_selects (args := #[]) (mvT hZ41 (hw _ (List.mem_of_getElem? (i := 60) rfl)))) (mvT hZ41 (hw _ (List.mem_of_getElem? (i := 60) rfl))) (mvT hZ41 (hw _ (List.mem_of_getElem? (i := 59) rfl))) (by decide) (backOf (W := 0) (rm6_lo l Z a0 hw [] ob35 b_43 kb_43 (((((((List.replicate 256 (Value.int (0 : Int32))).set 0 (Value.int b0)).set 1 (Value.int b1))).take (255 : Int32).toNatClampNeg ++ ((List.range (1 : Int32).toNatClampNeg).map fun i => ((((List.replicate 256 (Value.int (0 : Int32))).set 0 (Value.int b0)).set 1 (Value.int b1))).getD ((1 : Int32).toNatClampNeg + i) (Value.int (0 : Int32))) ++ ((((List.replicate 256 (Value.int (0 : Int32))).set 0 (Value.int b0)).set 1 (Value.int b1))).drop ((255 : Int32).toNatClampNeg + (1 : Int32).toNatClampNeg)).set 1 (Value.int b2)).set 2 (Value.int b3)) (3 : Int32) (1 : Int32) (2 : Int32) b3 T63.heap n0 O64 p63_0 p63_1 p63_2 p63_3 p63_6 (by decide : (2 : Int32) < (3 : Int32)) (by decide : ¬ ((2 : Int32) < (0 : Int32)) ∧ (2 : Int32) < (256 : Int32)) (rfl : (((((((List.replicate 256 (Value.int (0 : Int32))).set 0 (Value.int b0)).set 1 (Value.int b1))).take (255 : Int32).toNatClampNeg ++ ((List.range (1 : Int32).toNatClampNeg).map fun i => ((((List.replicate 256 (Value.int (0 : Int32))).set 0 (Value.int b0)).set 1 (Value.int b1))).getD ((1 : Int32).toNatClampNeg + i) (Value.int (0 : Int32))) ++ ((((List.replicate 256 (Value.int (0 : Int32))).set 0 (Value.int b0)).set 1 (Value.int b1))).drop ((255 : Int32).toNatClampNeg + (1 : Int32).toNatClampNeg)).set 1 (Value.int b2)).set 2 (Value.int b3)).getD (2 : Int32).toNatClampNeg (Value.int (0 : Int32)) = (Value.int b3)) (own_b8 hv_b3 : b3.toInt8.toInt32 = b3)) hZ41 (hw _ (List.mem_of_getElem? (i := 61) rfl)) (hw _ (List.mem_of_getElem? (i := 3) rfl)) (by decide) (by decide)) q67a q67c (g := (mkF m 180 #[.val (Value.int p1), .val (Value.int p2), .val (Value.int p3), .val (Value.int p4), .val (Value.int p5), .val (Value.int b0), .val (Value.int b1), .val (Value.int b2), .val (Value.int b3), .val (Value.int (1 : Int32)), .val (Value.ref ob35), .val (Value.int b0), .val (Value.int b2), .val (Value.int b3), .val (Value.int b1)] [(Value.int (2 : Int32)), (Value.ref ob35)])) rfl (by rw [hml]; rfl) (Steps.refl _) (argsL := [(Value.int (2 : Int32))]) (rest := []) (lenOf own_pd4 rfl) rfl (by show 2 * 0 + _ ≤ _; exact Nat.le_of_eq rfl) (hb hby at_180) (fun _ _ => ⟨rfl, e66, (by decide : 6 + 0 ≤ _), (by decide : 276 + 0 ≤ _)⟩)
    dsimp only [Pt.U, Pt.locs, Pt.cells, Pt.slots] at X67 l67 y67 z67 st67 hQ67
    subst l67 y67 z67
    refine own_Go.by (fun tq kq => st67.trans kq) ?_
    obtain ⟨rfl, N67q, e67⟩ := hQ67
    have N67 := Fr.app N66 N67q
    show own_Go p.tables e below _ (T67.setTop (mkF m 183 #[.val (Value.int p1), .val (Value.int p2), .val (Value.int p3), .val (Value.int p4), .val (Value.int p5), .val (Value.int b0), .val (Value.int b1), .val (Value.int b2), .val (Value.int b3), .val (Value.int (1 : Int32)), .val (Value.ref ob35), .val (Value.int b0), .val (Value.int b2), .val (Value.int b3), .val (Value.int b1)] [(Value.int b3)]))
    refine own_Go.by (fun tq kq => XS.iload X67.here hx rfl (hb hby at_183) rfl kq) ?_
    show own_Go p.tables e below _ (T67.setTop (mkF m 185 #[.val (Value.int p1), .val (Value.int p2), .val (Value.int p3), .val (Value.int p4), .val (Value.int p5), .val (Value.int b0), .val (Value.int b1), .val (Value.int b2), .val (Value.int b3), .val (Value.int (1 : Int32)), .val (Value.ref ob35), .val (Value.int b0), .val (Value.int b2), .val (Value.int b3), .val (Value.int b1)] [(Value.int b3), (Value.int b3)]))
    refine own_Go.by (fun tq kq => XS.icmpNo X67.here hx rfl (hb hby at_185) rfl (teq (rfl : b3 = b3)).2 kq) ?_
    show own_Go p.tables e below _ (T67.setTop (mkF m 188 #[.val (Value.int p1), .val (Value.int p2), .val (Value.int p3), .val (Value.int p4), .val (Value.int p5), .val (Value.int b0), .val (Value.int b1), .val (Value.int b2), .val (Value.int b3), .val (Value.int (1 : Int32)), .val (Value.ref ob35), .val (Value.int b0), .val (Value.int b2), .val (Value.int b3), .val (Value.int b1)] []))
    refine own_Go.by (fun tq kq => XS.aload X67.here hx rfl (hb hby at_188) rfl rfl kq) ?_
    show own_Go p.tables e below _ (T67.setTop (mkF m 190 #[.val (Value.int p1), .val (Value.int p2), .val (Value.int p3), .val (Value.int p4), .val (Value.int p5), .val (Value.int b0), .val (Value.int b1), .val (Value.int b2), .val (Value.int b3), .val (Value.int (1 : Int32)), .val (Value.ref ob35), .val (Value.int b0), .val (Value.int b2), .val (Value.int b3), .val (Value.int b1)] [(Value.ref ob35)]))
    refine own_Go.by (fun tq kq => XS.iconst X67.here hx rfl (hb hby at_190) kq) ?_
    show own_Go p.tables e below _ (T67.setTop (mkF m 191 #[.val (Value.int p1), .val (Value.int p2), .val (Value.int p3), .val (Value.int p4), .val (Value.int p5), .val (Value.int b0), .val (Value.int b1), .val (Value.int b2), .val (Value.int b3), .val (Value.int (1 : Int32)), .val (Value.ref ob35), .val (Value.int b0), .val (Value.int b2), .val (Value.int b3), .val (Value.int b1)] [(Value.int (3 : Int32)), (Value.ref ob35)]))
    obtain ⟨cq68, kq68, q68a, q68b, q68c⟩ := isOf hZ41 e67 p63_0
    obtain ⟨_, _, ⟨T68, L68, k68, n68⟩, -, X68, ⟨Lc68, hQ68, l68, y68, z68⟩, st68⟩ := X67.virtualBack hx (y := (⟨"com/example/plain_bastion/plainbastion/ssh/TypedText", "at", "(I)B"⟩ : MethodName)) (z := (⟨"com/example/plain_bastion/plainbastion/ssh/TypedText", "at", "(I)B"⟩ : MethodName)) hown41 (mvT hZ41 (hw _ (List.mem_of_getElem? (i := 57) rfl))) (mvT hZ41 (hw _ (List.mem_of_getElem? (i := 58) rfl))) (notFace_of_selects (args := #[]) (mvT hZ41 (hw _ (List.mem_of_getElem? (i := 60) rfl)))) (mvT hZ41 (hw _ (List.mem_of_getElem? (i := 60) rfl))) (mvT hZ41 (hw _ (List.mem_of_getElem? (i := 59) rfl))) (by decide) (backOf (W := 0) (rm6_hi l Z a0 hw [] ob35 b_43 kb_43 (((((((List.replicate 256 (Value.int (0 : Int32))).set 0 (Value.int b0)).set 1 (Value.int b1))).take (255 : Int32).toNatClampNeg ++ ((List.range (1 : Int32).toNatClampNeg).map fun i => ((((List.replicate 256 (Value.int (0 : Int32))).set 0 (Value.int b0)).set 1 (Value.int b1))).getD ((1 : Int32).toNatClampNeg + i) (Value.int (0 : Int32))) ++ ((((List.replicate 256 (Value.int (0 : Int32))).set 0 (Value.int b0)).set 1 (Value.int b1))).drop ((255 : Int32).toNatClampNeg + (1 : Int32).toNatClampNeg)).set 1 (Value.int b2)).set 2 (Value.int b3)) (3 : Int32) (1 : Int32) (3 : Int32) b1 T63.heap n0 O64 p63_0 p63_1 p63_2 p63_3 p63_6 (by decide : ¬ ((3 : Int32) < (3 : Int32))) (by decide : ¬ (((((256 : Int32) - (1 : Int32)) + (3 : Int32)) - (3 : Int32)) < (0 : Int32)) ∧ ((((256 : Int32) - (1 : Int32)) + (3 : Int32)) - (3 : Int32)) < (256 : Int32)) (rfl : (((((((List.replicate 256 (Value.int (0 : Int32))).set 0 (Value.int b0)).set 1 (Value.int b1))).take (255 : Int32).toNatClampNeg ++ ((List.range (1 : Int32).toNatClampNeg).map fun i => ((((List.replicate 256 (Value.int (0 : Int32))).set 0 (Value.int b0)).set 1 (Value.int b1))).getD ((1 : Int32).toNatClampNeg + i) (Value.int (0 : Int32))) ++ ((((List.replicate 256 (Value.int (0 : Int32))).set 0 (Value.int b0)).set 1 (Value.int b1))).drop ((255 : Int32).toNatClampNeg + (1 : Int32).toNatClampNeg)).set 1 (Value.int b2)).set 2 (Value.int b3)).getD ((((256 : Int32) - (1 : Int32)) + (3 : Int32)) - (3 : Int32)).toNatClampNeg (Value.int (0 : Int32)) = (Value.int b1)) (own_b8 hv_b1 : b1.toInt8.toInt32 = b1)) hZ41 (hw _ (List.mem_of_getElem? (i := 61) rfl)) (hw _ (List.mem_of_getElem? (i := 3) rfl)) (by decide) (by decide)) q68a q68c (g := (mkF m 191 #[.val (Value.int p1), .val (Value.int p2), .val (Value.int p3), .val (Value.int p4), .val (Value.int p5), .val (Value.int b0), .val (Value.int b1), .val (Value.int b2), .val (Value.int b3), .val (Value.int (1 : Int32)), .val (Value.ref ob35), .val (Value.int b0), .val (Value.int b2), .val (Value.int b3), .val (Value.int b1)] [(Value.int (3 : Int32)), (Value.ref ob35)])) rfl (by rw [hml]; rfl) (Steps.refl _) (argsL := [(Value.int (3 : Int32))]) (rest := []) (lenOf own_pd4 rfl) rfl (by show 2 * 0 + _ ≤ _; exact Nat.le_of_eq rfl) (hb hby at_191) (fun _ _ => ⟨rfl, e67, (by decide : 6 + 0 ≤ _), (by decide : 276 + 0 ≤ _)⟩)
    dsimp only [Pt.U, Pt.locs, Pt.cells, Pt.slots] at X68 l68 y68 z68 st68 hQ68
    subst l68 y68 z68
    refine own_Go.by (fun tq kq => st68.trans kq) ?_
    obtain ⟨rfl, N68q, e68⟩ := hQ68
    have N68 := Fr.app N67 N68q
    show own_Go p.tables e below _ (T68.setTop (mkF m 194 #[.val (Value.int p1), .val (Value.int p2), .val (Value.int p3), .val (Value.int p4), .val (Value.int p5), .val (Value.int b0), .val (Value.int b1), .val (Value.int b2), .val (Value.int b3), .val (Value.int (1 : Int32)), .val (Value.ref ob35), .val (Value.int b0), .val (Value.int b2), .val (Value.int b3), .val (Value.int b1)] [(Value.int b1)]))
    refine own_Go.by (fun tq kq => XS.iload X68.here hx rfl (hb hby at_194) rfl kq) ?_
    show own_Go p.tables e below _ (T68.setTop (mkF m 196 #[.val (Value.int p1), .val (Value.int p2), .val (Value.int p3), .val (Value.int p4), .val (Value.int p5), .val (Value.int b0), .val (Value.int b1), .val (Value.int b2), .val (Value.int b3), .val (Value.int (1 : Int32)), .val (Value.ref ob35), .val (Value.int b0), .val (Value.int b2), .val (Value.int b3), .val (Value.int b1)] [(Value.int b1), (Value.int b1)]))
    refine own_Go.by (fun tq kq => XS.icmpNo X68.here hx rfl (hb hby at_196) rfl (teq (rfl : b1 = b1)).2 kq) ?_
    show own_Go p.tables e below _ (T68.setTop (mkF m 199 #[.val (Value.int p1), .val (Value.int p2), .val (Value.int p3), .val (Value.int p4), .val (Value.int p5), .val (Value.int b0), .val (Value.int b1), .val (Value.int b2), .val (Value.int b3), .val (Value.int (1 : Int32)), .val (Value.ref ob35), .val (Value.int b0), .val (Value.int b2), .val (Value.int b3), .val (Value.int b1)] []))
    refine own_Go.by (fun tq kq => XS.iconst X68.here hx rfl (hb hby at_199) kq) ?_
    show own_Go p.tables e below _ (T68.setTop (mkF m 200 #[.val (Value.int p1), .val (Value.int p2), .val (Value.int p3), .val (Value.int p4), .val (Value.int p5), .val (Value.int b0), .val (Value.int b1), .val (Value.int b2), .val (Value.int b3), .val (Value.int (1 : Int32)), .val (Value.ref ob35), .val (Value.int b0), .val (Value.int b2), .val (Value.int b3), .val (Value.int b1)] [(Value.int (1 : Int32))]))
    refine own_Go.by (fun tq kq => XS.goto X68.here hx rfl (pc0 := 200) (pc' := 204) rfl (hb hby at_200) (by decide) (by decide) kq) ?_
    show own_Go p.tables e below _ (T68.setTop (mkF m 204 #[.val (Value.int p1), .val (Value.int p2), .val (Value.int p3), .val (Value.int p4), .val (Value.int p5), .val (Value.int b0), .val (Value.int b1), .val (Value.int b2), .val (Value.int b3), .val (Value.int (1 : Int32)), .val (Value.ref ob35), .val (Value.int b0), .val (Value.int b2), .val (Value.int b3), .val (Value.int b1)] [(Value.int (1 : Int32))]))
    obtain ⟨fs, hr, hrun, hended, hRE⟩ := Stand.leaveW (s := s) (vm₁ := T41.vm) X68 hS41 (by rw [e68]; exact hk_64) (v := some (Value.int (nar .boolean (1 : Int32)))) (fun h => by rw [Bd.returns] at h; cases h)
    refine own_Go.fin (retN X68 hx (t := .boolean) Bd.returns (by simp) (hb hby at_204) hr) ⟨hrun, hended, _, _, rfl, ?_, own_rew hRE (by decide) (by decide)⟩
    show Q0 Z p1 p2 p3 p4 p5 aW h0 n0 _ T68.heap _
    rw [e68]
    exact ⟨rfl, N68, K64⟩
  ·
    subst hq_mm
    show own_Go p.tables e below _ (s₁.setTop (mkF m 25 #[.val (Value.int p1), .val (Value.int p2), .val (Value.int p3), .val (Value.int p4), .val (Value.int p5), .val (Value.int b0), .val (Value.int b1), .val (Value.int b2), .val (Value.int b3), .val (Value.int (2 : Int32)), .unset, .unset, .unset, .unset, .unset] []))
    obtain ⟨T69, h69, X69, e69, E69, A69, D69, -, st69⟩ := newO X0 hx hZ hown (hw _ (List.mem_of_getElem? (i := 1) rfl)) (hw _ (List.mem_of_getElem? (i := 2) rfl)) (hw _ (List.mem_of_getElem? (i := 3) rfl)) e0 (g := (mkF m 25 #[.val (Value.int p1), .val (Value.int p2), .val (Value.int p3), .val (Value.int p4), .val (Value.int p5), .val (Value.int b0), .val (Value.int b1), .val (Value.int b2), .val (Value.int b3), .val (Value.int (2 : Int32)), .unset, .unset, .unset, .unset, .unset] [])) rfl (hb hby at_25) (by decide) (by decide)
    obtain ⟨ob69, y69⟩ : ∃ z, z = h0.size := ⟨_, rfl⟩
    rw [← y69] at A69 D69 st69
    refine own_Go.by st69 ?_
    have O70 := O0.ext E69
    have K70 := K0.ext E69
    have g71 : n0 ≤ ob69 := Nat.le_trans (own_old_le O0) (Nat.le_of_eq y69.symm)
    have z71 : h0.size ≤ ob69 := Nat.le_trans K0.1 (Nat.le_of_eq y69.symm)
    have F69_bytes : Fld Z h69 ob69 "com/example/plain_bastion/plainbastion/ssh/TypedText" "bytes" "[B" .null := D69 (Or.inl (hw _ (List.mem_of_getElem? (i := 22) rfl))) (ty := (.array .byte)) (by decide)
    have F69_words : Fld Z h69 ob69 "com/example/plain_bastion/plainbastion/ssh/TypedText" "words" "Lcom/example/plain_bastion/plainbastion/ssh/TypedText$WordErase;" .null := D69 (Or.inr (hw _ (List.mem_of_getElem? (i := 24) rfl))) (ty := (.object "com/example/plain_bastion/plainbastion/ssh/TypedText$WordErase")) (by decide)
    have F69_erases : Fld Z h69 ob69 "com/example/plain_bastion/plainbastion/ssh/TypedText" "erases" "Ljava/lang/String;" .null := D69 (Or.inr (hw _ (List.mem_of_getElem? (i := 26) rfl))) (ty := (.object "java/lang/String")) (by decide)
    have F69_characters : Fld Z h69 ob69 "com/example/plain_bastion/plainbastion/ssh/TypedText" "characters" "Ljava/lang/String;" .null := D69 (Or.inr (hw _ (List.mem_of_getElem? (i := 28) rfl))) (ty := (.object "java/lang/String")) (by decide)
    have F69_length : Fld Z h69 ob69 "com/example/plain_bastion/plainbastion/ssh/TypedText" "length" "I" (Value.int (0 : Int32)) := D69 (Or.inl (hw _ (List.mem_of_getElem? (i := 40) rfl))) (ty := .int) (by decide)
    have F69_afterLength : Fld Z h69 ob69 "com/example/plain_bastion/plainbastion/ssh/TypedText" "afterLength" "I" (Value.int (0 : Int32)) := D69 (Or.inl (hw _ (List.mem_of_getElem? (i := 42) rfl))) (ty := .int) (by decide)
    have F69_breaks : Fld Z h69 ob69 "com/example/plain_bastion/plainbastion/ssh/TypedText" "breaks" "I" (Value.int (0 : Int32)) := D69 (Or.inl (hw _ (List.mem_of_getElem? (i := 45) rfl))) (ty := .int) (by decide)
    have F69_told : Fld Z h69 ob69 "com/example/plain_bastion/plainbastion/ssh/TypedText" "told" "I" (Value.int (0 : Int32)) := D69 (Or.inl (hw _ (List.mem_of_getElem? (i := 56) rfl))) (ty := .int) (by decide)
    have F69_cut : Fld Z h69 ob69 "com/example/plain_bastion/plainbastion/ssh/TypedText" "cut" "Z" (Value.int (0 : Int32)) := D69 (Or.inl (hw _ (List.mem_of_getElem? (i := 63) rfl))) (ty := .boolean) (by decide)
    show own_Go p.tables e below _ (T69.setTop (mkF m 28 #[.val (Value.int p1), .val (Value.int p2), .val (Value.int p3), .val (Value.int p4), .val (Value.int p5), .val (Value.int b0), .val (Value.int b1), .val (Value.int b2), .val (Value.int b3), .val (Value.int (2 : Int32)), .unset, .unset, .unset, .unset, .unset] [(Value.ref ob69)]))
    refine own_Go.by (fun tq kq => XS.dup X69.here hx rfl (hb hby at_28) rfl rfl kq) ?_
    show own_Go p.tables e below _ (T69.setTop (mkF m 29 #[.val (Value.int p1), .val (Value.int p2), .val (Value.int p3), .val (Value.int p4), .val (Value.int p5), .val (Value.int b0), .val (Value.int b1), .val (Value.int b2), .val (Value.int b3), .val (Value.int (2 : Int32)), .unset, .unset, .unset, .unset, .unset] [(Value.ref ob69), (Value.ref ob69)]))
    obtain ⟨T72, X72, e72, st72⟩ := getS2 X69 hx hZ hown (host := "") (Or.inl (hw _ (List.mem_of_getElem? (i := 4) rfl))) Via.refl e69 (H0.ext O70.2) (g := (mkF m 29 #[.val (Value.int p1), .val (Value.int p2), .val (Value.int p3), .val (Value.int p4), .val (Value.int p5), .val (Value.int b0), .val (Value.int b1), .val (Value.int b2), .val (Value.int b3), .val (Value.int (2 : Int32)), .unset, .unset, .unset, .unset, .unset] [(Value.ref ob69), (Value.ref ob69)])) rfl (hb hby at_29)
    refine own_Go.by st72 ?_
    show own_Go p.tables e below _ (T72.setTop (mkF m 32 #[.val (Value.int p1), .val (Value.int p2), .val (Value.int p3), .val (Value.int p4), .val (Value.int p5), .val (Value.int b0), .val (Value.int b1), .val (Value.int b2), .val (Value.int b3), .val (Value.int (2 : Int32)), .unset, .unset, .unset, .unset, .unset] [(Value.ref aW), (Value.ref ob69), (Value.ref ob69)]))
    obtain ⟨sa73, T73, h73, k73, X73, e73, E73, hS73, hk73, hZ73, hown73, st73⟩ := ldcS (s := s) (vm0 := s.vm) X72 hx hZ hown (hw _ (List.mem_of_getElem? (i := 7) rfl)) (fun d hd => hw d (own_wS d hd)) e72 hS0 (Nat.zero_le _) (g := (mkF m 32 #[.val (Value.int p1), .val (Value.int p2), .val (Value.int p3), .val (Value.int p4), .val (Value.int p5), .val (Value.int b0), .val (Value.int b1), .val (Value.int b2), .val (Value.int b3), .val (Value.int (2 : Int32)), .unset, .unset, .unset, .unset, .unset] [(Value.ref aW), (Value.ref ob69), (Value.ref ob69)])) rfl (hb hby at_32) (n := 0) (by decide) (by decide) (by decide) (by decide)
    refine own_Go.by st73 ?_
    have O74 := O70.ext E73
    have K74 := K70.ext E73
    show own_Go p.tables e below _ (T73.setTop (mkF m 34 #[.val (Value.int p1), .val (Value.int p2), .val (Value.int p3), .val (Value.int p4), .val (Value.int p5), .val (Value.int b0), .val (Value.int b1), .val (Value.int b2), .val (Value.int b3), .val (Value.int (2 : Int32)), .unset, .unset, .unset, .unset, .unset] [(Value.ref sa73), (Value.ref aW), (Value.ref ob69), (Value.ref ob69)]))
    obtain ⟨sa75, T75, h75, k75, X75, e75, E75, hS75, hk75, hZ75, hown75, st75⟩ := ldcS (s := s) (vm0 := T73.vm) X73 hx hZ73 hown73 (hw _ (List.mem_of_getElem? (i := 7) rfl)) (fun d hd => hw d (own_wS d hd)) e73 hS73 hk73 (g := (mkF m 34 #[.val (Value.int p1), .val (Value.int p2), .val (Value.int p3), .val (Value.int p4), .val (Value.int p5), .val (Value.int b0), .val (Value.int b1), .val (Value.int b2), .val (Value.int b3), .val (Value.int (2 : Int32)), .unset, .unset, .unset, .unset, .unset] [(Value.ref sa73), (Value.ref aW), (Value.ref ob69), (Value.ref ob69)])) rfl (hb hby at_34) (n := 0) (by decide) (by decide) (by decide) (by decide)
    refine own_Go.by st75 ?_
    have O76 := O74.ext E75
    have K76 := K74.ext E75
    show own_Go p.tables e below _ (T75.setTop (mkF m 36 #[.val (Value.int p1), .val (Value.int p2), .val (Value.int p3), .val (Value.int p4), .val (Value.int p5), .val (Value.int b0), .val (Value.int b1), .val (Value.int b2), .val (Value.int b3), .val (Value.int (2 : Int32)), .unset, .unset, .unset, .unset, .unset] [(Value.ref sa75), (Value.ref sa73), (Value.ref aW), (Value.ref ob69), (Value.ref ob69)]))
    have c78 := ((A69.ext E73).ext E75)
    have c79 := ((F69_bytes.ext E73).ext E75)
    have c80 := ((F69_words.ext E73).ext E75)
    have c81 := ((F69_erases.ext E73).ext E75)
    have c82 := ((F69_characters.ext E73).ext E75)
    have c83 := ((F69_length.ext E73).ext E75)
    have c84 := ((F69_afterLength.ext E73).ext E75)
    have c85 := ((F69_breaks.ext E73).ext E75)
    have c86 := ((F69_told.ext E73).ext E75)
    obtain ⟨_, _, ⟨T77, L77, k77, n77⟩, -, X77, ⟨Lc77, hQ77, l77, y77, z77⟩, st77⟩ := X75.specialBack hx (y := (⟨"com/example/plain_bastion/plainbastion/ssh/TypedText", "<init>", "(Lcom/example/plain_bastion/plainbastion/ssh/TypedText$WordErase;Ljava/lang/String;Ljava/lang/String;)V"⟩ : MethodName)) rfl hown75 (mvT hZ75 (hw _ (List.mem_of_getElem? (i := 15) rfl))) (mvT hZ75 (hw _ (List.mem_of_getElem? (i := 16) rfl))) (mvT hZ75 (hw _ (List.mem_of_getElem? (i := 17) rfl))) (by decide) (backOf (W := 1) (rm1 l Z a0 hw [] ob69 aW sa73 sa75 h75 n0 O76 c78 g71 c79 c80 c81 c82 c83 c84 c85 c86) hZ75 (hw _ (List.mem_of_getElem? (i := 17) rfl)) (hw _ (List.mem_of_getElem? (i := 3) rfl)) (by decide) (by decide)) (g := (mkF m 36 #[.val (Value.int p1), .val (Value.int p2), .val (Value.int p3), .val (Value.int p4), .val (Value.int p5), .val (Value.int b0), .val (Value.int b1), .val (Value.int b2), .val (Value.int b3), .val (Value.int (2 : Int32)), .unset, .unset, .unset, .unset, .unset] [(Value.ref sa75), (Value.ref sa73), (Value.ref aW), (Value.ref ob69), (Value.ref ob69)])) rfl (by rw [hml]; rfl) (Steps.refl _) (a := ob69) (argsL := [(Value.ref aW), (Value.ref sa73), (Value.ref sa75)]) (rest := [(Value.ref ob69)]) (lenOf own_pd1 rfl) rfl (by show 2 * 0 + _ ≤ _; exact Nat.le_of_eq rfl) (hb hby at_36) (fun _ _ => ⟨rfl, e75, (by decide : 5 + 1 ≤ _), (by decide : 20 + 256 ≤ _)⟩)
    dsimp only [Pt.U, Pt.locs, Pt.cells, Pt.slots] at X77 l77 y77 z77 st77 hQ77
    subst l77 y77 z77
    refine own_Go.by (fun tq kq => st77.trans kq) ?_
    obtain ⟨b_77, kb_77, rfl, N77q, K77q, p77_0, p77_1, p77_2, p77_3, p77_4, p77_5, p77_6, p77_7⟩ := hQ77
    have N77 := Fr.app N0 N77q
    have O87 := O76.keep K77q (allS g71 all0)
    have K87 := K76.trans K77q (allS (Or.inr z71) all0)
    have hk_87 := Nat.le_trans hk75 K77q.1
    have g88 : n0 ≤ b_77 := Nat.le_trans (own_old_le O76) p77_0
    have z88 : h0.size ≤ b_77 := Nat.le_trans K76.1 p77_0
    show own_Go p.tables e below _ (T77.setTop (mkF m 39 #[.val (Value.int p1), .val (Value.int p2), .val (Value.int p3), .val (Value.int p4), .val (Value.int p5), .val (Value.int b0), .val (Value.int b1), .val (Value.int b2), .val (Value.int b3), .val (Value.int (2 : Int32)), .unset, .unset, .unset, .unset, .unset] [(Value.ref ob69)]))
    refine own_Go.by (fun tq kq => XS.astore X77.here hx rfl (hb hby at_39) rfl rfl (l' := #[.val (Value.int p1), .val (Value.int p2), .val (Value.int p3), .val (Value.int p4), .val (Value.int p5), .val (Value.int b0), .val (Value.int b1), .val (Value.int b2), .val (Value.int b3), .val (Value.int (2 : Int32)), .val (Value.ref ob69), .unset, .unset, .unset, .unset]) rfl kq) ?_
    show own_Go p.tables e below _ (T77.setTop (mkF m 41 #[.val (Value.int p1), .val (Value.int p2), .val (Value.int p3), .val (Value.int p4), .val (Value.int p5), .val (Value.int b0), .val (Value.int b1), .val (Value.int b2), .val (Value.int b3), .val (Value.int (2 : Int32)), .val (Value.ref ob69), .unset, .unset, .unset, .unset] []))
    refine own_Go.by (fun tq kq => XS.aload X77.here hx rfl (hb hby at_41) rfl rfl kq) ?_
    show own_Go p.tables e below _ (T77.setTop (mkF m 43 #[.val (Value.int p1), .val (Value.int p2), .val (Value.int p3), .val (Value.int p4), .val (Value.int p5), .val (Value.int b0), .val (Value.int b1), .val (Value.int b2), .val (Value.int b3), .val (Value.int (2 : Int32)), .val (Value.ref ob69), .unset, .unset, .unset, .unset] [(Value.ref ob69)]))
    refine own_Go.by (fun tq kq => XS.iload X77.here hx rfl (hb hby at_43) rfl kq) ?_
    show own_Go p.tables e below _ (T77.setTop (mkF m 45 #[.val (Value.int p1), .val (Value.int p2), .val (Value.int p3), .val (Value.int p4), .val (Value.int p5), .val (Value.int b0), .val (Value.int b1), .val (Value.int b2), .val (Value.int b3), .val (Value.int (2 : Int32)), .val (Value.ref ob69), .unset, .unset, .unset, .unset] [(Value.int b0), (Value.ref ob69)]))
    obtain ⟨cq89, kq89, q89a, q89b, q89c⟩ := isOf hZ75 rfl p77_1
    obtain ⟨_, _, ⟨T89, L89, k89, n89⟩, -, X89, ⟨Lc89, hQ89, l89, y89, z89⟩, st89⟩ := X77.virtualBack hx (y := (⟨"com/example/plain_bastion/plainbastion/ssh/TypedText", "append", "(B)V"⟩ : MethodName)) (z := (⟨"com/example/plain_bastion/plainbastion/ssh/TypedText", "append", "(B)V"⟩ : MethodName)) hown75 (mvT hZ75 (hw _ (List.mem_of_getElem? (i := 29) rfl))) (mvT hZ75 (hw _ (List.mem_of_getElem? (i := 30) rfl))) (notFace_of_selects (args := #[]) (mvT hZ75 (hw _ (List.mem_of_getElem? (i := 32) rfl)))) (mvT hZ75 (hw _ (List.mem_of_getElem? (i := 32) rfl))) (mvT hZ75 (hw _ (List.mem_of_getElem? (i := 31) rfl))) (by decide) (backOf (W := 0) (rm3 l Z a0 hw [] ob69 b_77 kb_77 (List.replicate 256 (Value.int (0 : Int32))) (0 : Int32) (0 : Int32) b0 (0 : Int32) (0 : Int32) 0 T77.heap n0 O87 p77_1 p77_2 p77_4 p77_5 p77_3 p77_6 p77_7 g71 g88 (Nat.ne_of_lt (Nat.lt_of_lt_of_le A69.lt (Nat.le_trans E73.1 (Nat.le_trans E75.1 p77_0)))) (by decide : ((0 : Int32) + (0 : Int32)) < (65536 : Int32)) (by decide : ¬ (((0 : Int32) + (0 : Int32)) = (256 : Int32))) (by decide : ¬ ((0 : Int32) < (0 : Int32)) ∧ (0 : Int32) < (256 : Int32)) (rfl : (0 : Int32).toNatClampNeg = 0) (Nat.le_of_ble_eq_true rfl : 0 < (List.replicate 256 (Value.int (0 : Int32))).length) (own_b8 hv_b0 : b0.toInt8.toInt32 = b0)) hZ75 (hw _ (List.mem_of_getElem? (i := 33) rfl)) (hw _ (List.mem_of_getElem? (i := 3) rfl)) (by decide) (by decide)) q89a q89c (g := (mkF m 45 #[.val (Value.int p1), .val (Value.int p2), .val (Value.int p3), .val (Value.int p4), .val (Value.int p5), .val (Value.int b0), .val (Value.int b1), .val (Value.int b2), .val (Value.int b3), .val (Value.int (2 : Int32)), .val (Value.ref ob69), .unset, .unset, .unset, .unset] [(Value.int b0), (Value.ref ob69)])) rfl (by rw [hml]; rfl) (Steps.refl _) (argsL := [(Value.int b0)]) (rest := []) (lenOf own_pd2 rfl) rfl (by show 2 * 0 + _ ≤ _; exact Nat.le_of_eq rfl) (hb hby at_45) (fun _ _ => ⟨rfl, rfl, (by decide : 6 + 0 ≤ _), (by decide : 276 + 0 ≤ _)⟩)
    dsimp only [Pt.U, Pt.locs, Pt.cells, Pt.slots] at X89 l89 y89 z89 st89 hQ89
    subst l89 y89 z89
    refine own_Go.by (fun tq kq => st89.trans kq) ?_
    obtain ⟨br2_89, rfl, N89q, K89q, p89_0, p89_1, p89_2, p89_3, p89_4, p89_5, p89_6⟩ := hQ89
    have N89 := Fr.app N77 N89q
    have O90 := O87.keep K89q (allS g71 (allS g88 all0))
    have K90 := K87.trans K89q (allS (Or.inr z71) (allS (Or.inr z88) all0))
    have hk_90 := Nat.le_trans hk_87 K89q.1
    show own_Go p.tables e below _ (T89.setTop (mkF m 48 #[.val (Value.int p1), .val (Value.int p2), .val (Value.int p3), .val (Value.int p4), .val (Value.int p5), .val (Value.int b0), .val (Value.int b1), .val (Value.int b2), .val (Value.int b3), .val (Value.int (2 : Int32)), .val (Value.ref ob69), .unset, .unset, .unset, .unset] []))
    refine own_Go.by (fun tq kq => XS.aload X89.here hx rfl (hb hby at_48) rfl rfl kq) ?_
    show own_Go p.tables e below _ (T89.setTop (mkF m 50 #[.val (Value.int p1), .val (Value.int p2), .val (Value.int p3), .val (Value.int p4), .val (Value.int p5), .val (Value.int b0), .val (Value.int b1), .val (Value.int b2), .val (Value.int b3), .val (Value.int (2 : Int32)), .val (Value.ref ob69), .unset, .unset, .unset, .unset] [(Value.ref ob69)]))
    refine own_Go.by (fun tq kq => XS.iload X89.here hx rfl (hb hby at_50) rfl kq) ?_
    show own_Go p.tables e below _ (T89.setTop (mkF m 52 #[.val (Value.int p1), .val (Value.int p2), .val (Value.int p3), .val (Value.int p4), .val (Value.int p5), .val (Value.int b0), .val (Value.int b1), .val (Value.int b2), .val (Value.int b3), .val (Value.int (2 : Int32)), .val (Value.ref ob69), .unset, .unset, .unset, .unset] [(Value.int b1), (Value.ref ob69)]))
    obtain ⟨cq91, kq91, q91a, q91b, q91c⟩ := isOf hZ75 rfl p89_0
    obtain ⟨_, _, ⟨T91, L91, k91, n91⟩, -, X91, ⟨Lc91, hQ91, l91, y91, z91⟩, st91⟩ := X89.virtualBack hx (y := (⟨"com/example/plain_bastion/plainbastion/ssh/TypedText", "append", "(B)V"⟩ : MethodName)) (z := (⟨"com/example/plain_bastion/plainbastion/ssh/TypedText", "append", "(B)V"⟩ : MethodName)) hown75 (mvT hZ75 (hw _ (List.mem_of_getElem? (i := 29) rfl))) (mvT hZ75 (hw _ (List.mem_of_getElem? (i := 30) rfl))) (notFace_of_selects (args := #[]) (mvT hZ75 (hw _ (List.mem_of_getElem? (i := 32) rfl)))) (mvT hZ75 (hw _ (List.mem_of_getElem? (i := 32) rfl))) (mvT hZ75 (hw _ (List.mem_of_getElem? (i := 31) rfl))) (by decide) (backOf (W := 0) (rm3 l Z a0 hw [] ob69 b_77 kb_77 ((List.replicate 256 (Value.int (0 : Int32))).set 0 (Value.int b0)) (1 : Int32) (0 : Int32) b1 br2_89 (0 : Int32) 1 T89.heap n0 O90 p89_0 p89_1 p89_2 p89_3 p89_6 p89_4 p89_5 g71 g88 (Nat.ne_of_lt (Nat.lt_of_lt_of_le A69.lt (Nat.le_trans E73.1 (Nat.le_trans E75.1 p77_0)))) (by decide : ((1 : Int32) + (0 : Int32)) < (65536 : Int32)) (by decide : ¬ (((1 : Int32) + (0 : Int32)) = (256 : Int32))) (by decide : ¬ ((1 : Int32) < (0 : Int32)) ∧ (1 : Int32) < (256 : Int32)) (rfl : (1 : Int32).toNatClampNeg = 1) (Nat.le_of_ble_eq_true rfl : 1 < ((List.replicate 256 (Value.int (0 : Int32))).set 0 (Value.int b0)).length) (own_b8 hv_b1 : b1.toInt8.toInt32 = b1)) hZ75 (hw _ (List.mem_of_getElem? (i := 33) rfl)) (hw _ (List.mem_of_getElem? (i := 3) rfl)) (by decide) (by decide)) q91a q91c (g := (mkF m 52 #[.val (Value.int p1), .val (Value.int p2), .val (Value.int p3), .val (Value.int p4), .val (Value.int p5), .val (Value.int b0), .val (Value.int b1), .val (Value.int b2), .val (Value.int b3), .val (Value.int (2 : Int32)), .val (Value.ref ob69), .unset, .unset, .unset, .unset] [(Value.int b1), (Value.ref ob69)])) rfl (by rw [hml]; rfl) (Steps.refl _) (argsL := [(Value.int b1)]) (rest := []) (lenOf own_pd2 rfl) rfl (by show 2 * 0 + _ ≤ _; exact Nat.le_of_eq rfl) (hb hby at_52) (fun _ _ => ⟨rfl, rfl, (by decide : 6 + 0 ≤ _), (by decide : 276 + 0 ≤ _)⟩)
    dsimp only [Pt.U, Pt.locs, Pt.cells, Pt.slots] at X91 l91 y91 z91 st91 hQ91
    subst l91 y91 z91
    refine own_Go.by (fun tq kq => st91.trans kq) ?_
    obtain ⟨br2_91, rfl, N91q, K91q, p91_0, p91_1, p91_2, p91_3, p91_4, p91_5, p91_6⟩ := hQ91
    have N91 := Fr.app N89 N91q
    have O92 := O90.keep K91q (allS g71 (allS g88 all0))
    have K92 := K90.trans K91q (allS (Or.inr z71) (allS (Or.inr z88) all0))
    have hk_92 := Nat.le_trans hk_90 K91q.1
    show own_Go p.tables e below _ (T91.setTop (mkF m 55 #[.val (Value.int p1), .val (Value.int p2), .val (Value.int p3), .val (Value.int p4), .val (Value.int p5), .val (Value.int b0), .val (Value.int b1), .val (Value.int b2), .val (Value.int b3), .val (Value.int (2 : Int32)), .val (Value.ref ob69), .unset, .unset, .unset, .unset] []))
    refine own_Go.by (fun tq kq => XS.aload X91.here hx rfl (hb hby at_55) rfl rfl kq) ?_
    show own_Go p.tables e below _ (T91.setTop (mkF m 57 #[.val (Value.int p1), .val (Value.int p2), .val (Value.int p3), .val (Value.int p4), .val (Value.int p5), .val (Value.int b0), .val (Value.int b1), .val (Value.int b2), .val (Value.int b3), .val (Value.int (2 : Int32)), .val (Value.ref ob69), .unset, .unset, .unset, .unset] [(Value.ref ob69)]))
    refine own_Go.by (fun tq kq => XS.iload X91.here hx rfl (hb hby at_57) rfl kq) ?_
    show own_Go p.tables e below _ (T91.setTop (mkF m 59 #[.val (Value.int p1), .val (Value.int p2), .val (Value.int p3), .val (Value.int p4), .val (Value.int p5), .val (Value.int b0), .val (Value.int b1), .val (Value.int b2), .val (Value.int b3), .val (Value.int (2 : Int32)), .val (Value.ref ob69), .unset, .unset, .unset, .unset] [(Value.int (2 : Int32)), (Value.ref ob69)]))
    obtain ⟨cq93, kq93, q93a, q93b, q93c⟩ := isOf hZ75 rfl p91_0
    obtain ⟨_, _, ⟨T93, L93, k93, n93⟩, -, X93, ⟨Lc93, hQ93, l93, y93, z93⟩, st93⟩ := X91.virtualBack hx (y := (⟨"com/example/plain_bastion/plainbastion/ssh/TypedText", "moveTo", "(I)V"⟩ : MethodName)) (z := (⟨"com/example/plain_bastion/plainbastion/ssh/TypedText", "moveTo", "(I)V"⟩ : MethodName)) hown75 (mvT hZ75 (hw _ (List.mem_of_getElem? (i := 46) rfl))) (mvT hZ75 (hw _ (List.mem_of_getElem? (i := 47) rfl))) (notFace_of_selects (args := #[]) (mvT hZ75 (hw _ (List.mem_of_getElem? (i := 49) rfl)))) (mvT hZ75 (hw _ (List.mem_of_getElem? (i := 49) rfl))) (mvT hZ75 (hw _ (List.mem_of_getElem? (i := 48) rfl))) (by decide) (backOf (W := 0) (rm5_2 l Z a0 hw [] ob69 b_77 kb_77 (((List.replicate 256 (Value.int (0 : Int32))).set 0 (Value.int b0)).set 1 (Value.int b1)) br2_91 T91.heap n0 O92 p91_0 p91_1 p91_2 p91_3 p91_6 p91_5 p91_4 g71 g88 (Nat.ne_of_lt (Nat.lt_of_lt_of_le A69.lt (Nat.le_trans E73.1 (Nat.le_trans E75.1 p77_0)))) (rfl : (((List.replicate 256 (Value.int (0 : Int32))).set 0 (Value.int b0)).set 1 (Value.int b1)).length = 256)) hZ75 (hw _ (List.mem_of_getElem? (i := 50) rfl)) (hw _ (List.mem_of_getElem? (i := 3) rfl)) (by decide) (by decide)) q93a q93c (g := (mkF m 59 #[.val (Value.int p1), .val (Value.int p2), .val (Value.int p3), .val (Value.int p4), .val (Value.int p5), .val (Value.int b0), .val (Value.int b1), .val (Value.int b2), .val (Value.int b3), .val (Value.int (2 : Int32)), .val (Value.ref ob69), .unset, .unset, .unset, .unset] [(Value.int (2 : Int32)), (Value.ref ob69)])) rfl (by rw [hml]; rfl) (Steps.refl _) (argsL := [(Value.int (2 : Int32))]) (rest := []) (lenOf own_pd3 rfl) rfl (by show 2 * 0 + _ ≤ _; exact Nat.le_of_eq rfl) (hb hby at_59) (fun _ _ => ⟨rfl, rfl, (by decide : 6 + 0 ≤ _), (by decide : 276 + 0 ≤ _)⟩)
    dsimp only [Pt.U, Pt.locs, Pt.cells, Pt.slots] at X93 l93 y93 z93 st93 hQ93
    subst l93 y93 z93
    refine own_Go.by (fun tq kq => st93.trans kq) ?_
    obtain ⟨rfl, N93q, e93⟩ := hQ93
    have N93 := Fr.app N91 N93q
    show own_Go p.tables e below _ (T93.setTop (mkF m 62 #[.val (Value.int p1), .val (Value.int p2), .val (Value.int p3), .val (Value.int p4), .val (Value.int p5), .val (Value.int b0), .val (Value.int b1), .val (Value.int b2), .val (Value.int b3), .val (Value.int (2 : Int32)), .val (Value.ref ob69), .unset, .unset, .unset, .unset] []))
    refine own_Go.by (fun tq kq => XS.aload X93.here hx rfl (hb hby at_62) rfl rfl kq) ?_
    show own_Go p.tables e below _ (T93.setTop (mkF m 64 #[.val (Value.int p1), .val (Value.int p2), .val (Value.int p3), .val (Value.int p4), .val (Value.int p5), .val (Value.int b0), .val (Value.int b1), .val (Value.int b2), .val (Value.int b3), .val (Value.int (2 : Int32)), .val (Value.ref ob69), .unset, .unset, .unset, .unset] [(Value.ref ob69)]))
    refine own_Go.by (fun tq kq => XS.iload X93.here hx rfl (hb hby at_64) rfl kq) ?_
    show own_Go p.tables e below _ (T93.setTop (mkF m 66 #[.val (Value.int p1), .val (Value.int p2), .val (Value.int p3), .val (Value.int p4), .val (Value.int p5), .val (Value.int b0), .val (Value.int b1), .val (Value.int b2), .val (Value.int b3), .val (Value.int (2 : Int32)), .val (Value.ref ob69), .unset, .unset, .unset, .unset] [(Value.int b2), (Value.ref ob69)]))
    obtain ⟨cq94, kq94, q94a, q94b, q94c⟩ := isOf hZ75 e93 p91_0
    obtain ⟨_, _, ⟨T94, L94, k94, n94⟩, -, X94, ⟨Lc94, hQ94, l94, y94, z94⟩, st94⟩ := X93.virtualBack hx (y := (⟨"com/example/plain_bastion/plainbastion/ssh/TypedText", "append", "(B)V"⟩ : MethodName)) (z := (⟨"com/example/plain_bastion/plainbastion/ssh/TypedText", "append", "(B)V"⟩ : MethodName)) hown75 (mvT hZ75 (hw _ (List.mem_of_getElem? (i := 29) rfl))) (mvT hZ75 (hw _ (List.mem_of_getElem? (i := 30) rfl))) (notFace_of_selects (args := #[]) (mvT hZ75 (hw _ (List.mem_of_getElem? (i := 32) rfl)))) (mvT hZ75 (hw _ (List.mem_of_getElem? (i := 32) rfl))) (mvT hZ75 (hw _ (List.mem_of_getElem? (i := 31) rfl))) (by decide) (backOf (W := 0) (rm3 l Z a0 hw [] ob69 b_77 kb_77 (((List.replicate 256 (Value.int (0 : Int32))).set 0 (Value.int b0)).set 1 (Value.int b1)) (2 : Int32) (0 : Int32) b2 br2_91 (0 : Int32) 2 T91.heap n0 O92 p91_0 p91_1 p91_2 p91_3 p91_6 p91_4 p91_5 g71 g88 (Nat.ne_of_lt (Nat.lt_of_lt_of_le A69.lt (Nat.le_trans E73.1 (Nat.le_trans E75.1 p77_0)))) (by decide : ((2 : Int32) + (0 : Int32)) < (65536 : Int32)) (by decide : ¬ (((2 : Int32) + (0 : Int32)) = (256 : Int32))) (by decide : ¬ ((2 : Int32) < (0 : Int32)) ∧ (2 : Int32) < (256 : Int32)) (rfl : (2 : Int32).toNatClampNeg = 2) (Nat.le_of_ble_eq_true rfl : 2 < (((List.replicate 256 (Value.int (0 : Int32))).set 0 (Value.int b0)).set 1 (Value.int b1)).length) (own_b8 hv_b2 : b2.toInt8.toInt32 = b2)) hZ75 (hw _ (List.mem_of_getElem? (i := 33) rfl)) (hw _ (List.mem_of_getElem? (i := 3) rfl)) (by decide) (by decide)) q94a q94c (g := (mkF m 66 #[.val (Value.int p1), .val (Value.int p2), .val (Value.int p3), .val (Value.int p4), .val (Value.int p5), .val (Value.int b0), .val (Value.int b1), .val (Value.int b2), .val (Value.int b3), .val (Value.int (2 : Int32)), .val (Value.ref ob69), .unset, .unset, .unset, .unset] [(Value.int b2), (Value.ref ob69)])) rfl (by rw [hml]; rfl) (Steps.refl _) (argsL := [(Value.int b2)]) (rest := []) (lenOf own_pd2 rfl) rfl (by show 2 * 0 + _ ≤ _; exact Nat.le_of_eq rfl) (hb hby at_66) (fun _ _ => ⟨rfl, e93, (by decide : 6 + 0 ≤ _), (by decide : 276 + 0 ≤ _)⟩)
    dsimp only [Pt.U, Pt.locs, Pt.cells, Pt.slots] at X94 l94 y94 z94 st94 hQ94
    subst l94 y94 z94
    refine own_Go.by (fun tq kq => st94.trans kq) ?_
    obtain ⟨br2_94, rfl, N94q, K94q, p94_0, p94_1, p94_2, p94_3, p94_4, p94_5, p94_6⟩ := hQ94
    have N94 := Fr.app N93 N94q
    have O95 := O92.keep K94q (allS g71 (allS g88 all0))
    have K95 := K92.trans K94q (allS (Or.inr z71) (allS (Or.inr z88) all0))
    have hk_95 := Nat.le_trans hk_92 K94q.1
    show own_Go p.tables e below _ (T94.setTop (mkF m 69 #[.val (Value.int p1), .val (Value.int p2), .val (Value.int p3), .val (Value.int p4), .val (Value.int p5), .val (Value.int b0), .val (Value.int b1), .val (Value.int b2), .val (Value.int b3), .val (Value.int (2 : Int32)), .val (Value.ref ob69), .unset, .unset, .unset, .unset] []))
    refine own_Go.by (fun tq kq => XS.aload X94.here hx rfl (hb hby at_69) rfl rfl kq) ?_
    show own_Go p.tables e below _ (T94.setTop (mkF m 71 #[.val (Value.int p1), .val (Value.int p2), .val (Value.int p3), .val (Value.int p4), .val (Value.int p5), .val (Value.int b0), .val (Value.int b1), .val (Value.int b2), .val (Value.int b3), .val (Value.int (2 : Int32)), .val (Value.ref ob69), .unset, .unset, .unset, .unset] [(Value.ref ob69)]))
    refine own_Go.by (fun tq kq => XS.iload X94.here hx rfl (hb hby at_71) rfl kq) ?_
    show own_Go p.tables e below _ (T94.setTop (mkF m 73 #[.val (Value.int p1), .val (Value.int p2), .val (Value.int p3), .val (Value.int p4), .val (Value.int p5), .val (Value.int b0), .val (Value.int b1), .val (Value.int b2), .val (Value.int b3), .val (Value.int (2 : Int32)), .val (Value.ref ob69), .unset, .unset, .unset, .unset] [(Value.int b3), (Value.ref ob69)]))
    obtain ⟨cq96, kq96, q96a, q96b, q96c⟩ := isOf hZ75 rfl p94_0
    obtain ⟨_, _, ⟨T96, L96, k96, n96⟩, -, X96, ⟨Lc96, hQ96, l96, y96, z96⟩, st96⟩ := X94.virtualBack hx (y := (⟨"com/example/plain_bastion/plainbastion/ssh/TypedText", "append", "(B)V"⟩ : MethodName)) (z := (⟨"com/example/plain_bastion/plainbastion/ssh/TypedText", "append", "(B)V"⟩ : MethodName)) hown75 (mvT hZ75 (hw _ (List.mem_of_getElem? (i := 29) rfl))) (mvT hZ75 (hw _ (List.mem_of_getElem? (i := 30) rfl))) (notFace_of_selects (args := #[]) (mvT hZ75 (hw _ (List.mem_of_getElem? (i := 32) rfl)))) (mvT hZ75 (hw _ (List.mem_of_getElem? (i := 32) rfl))) (mvT hZ75 (hw _ (List.mem_of_getElem? (i := 31) rfl))) (by decide) (backOf (W := 0) (rm3 l Z a0 hw [] ob69 b_77 kb_77 ((((List.replicate 256 (Value.int (0 : Int32))).set 0 (Value.int b0)).set 1 (Value.int b1)).set 2 (Value.int b2)) (3 : Int32) (0 : Int32) b3 br2_94 (0 : Int32) 3 T94.heap n0 O95 p94_0 p94_1 p94_2 p94_3 p94_6 p94_4 p94_5 g71 g88 (Nat.ne_of_lt (Nat.lt_of_lt_of_le A69.lt (Nat.le_trans E73.1 (Nat.le_trans E75.1 p77_0)))) (by decide : ((3 : Int32) + (0 : Int32)) < (65536 : Int32)) (by decide : ¬ (((3 : Int32) + (0 : Int32)) = (256 : Int32))) (by decide : ¬ ((3 : Int32) < (0 : Int32)) ∧ (3 : Int32) < (256 : Int32)) (rfl : (3 : Int32).toNatClampNeg = 3) (Nat.le_of_ble_eq_true rfl : 3 < ((((List.replicate 256 (Value.int (0 : Int32))).set 0 (Value.int b0)).set 1 (Value.int b1)).set 2 (Value.int b2)).length) (own_b8 hv_b3 : b3.toInt8.toInt32 = b3)) hZ75 (hw _ (List.mem_of_getElem? (i := 33) rfl)) (hw _ (List.mem_of_getElem? (i := 3) rfl)) (by decide) (by decide)) q96a q96c (g := (mkF m 73 #[.val (Value.int p1), .val (Value.int p2), .val (Value.int p3), .val (Value.int p4), .val (Value.int p5), .val (Value.int b0), .val (Value.int b1), .val (Value.int b2), .val (Value.int b3), .val (Value.int (2 : Int32)), .val (Value.ref ob69), .unset, .unset, .unset, .unset] [(Value.int b3), (Value.ref ob69)])) rfl (by rw [hml]; rfl) (Steps.refl _) (argsL := [(Value.int b3)]) (rest := []) (lenOf own_pd2 rfl) rfl (by show 2 * 0 + _ ≤ _; exact Nat.le_of_eq rfl) (hb hby at_73) (fun _ _ => ⟨rfl, rfl, (by decide : 6 + 0 ≤ _), (by decide : 276 + 0 ≤ _)⟩)
    dsimp only [Pt.U, Pt.locs, Pt.cells, Pt.slots] at X96 l96 y96 z96 st96 hQ96
    subst l96 y96 z96
    refine own_Go.by (fun tq kq => st96.trans kq) ?_
    obtain ⟨br2_96, rfl, N96q, K96q, p96_0, p96_1, p96_2, p96_3, p96_4, p96_5, p96_6⟩ := hQ96
    have N96 := Fr.app N94 N96q
    have O97 := O95.keep K96q (allS g71 (allS g88 all0))
    have K97 := K95.trans K96q (allS (Or.inr z71) (allS (Or.inr z88) all0))
    have hk_97 := Nat.le_trans hk_95 K96q.1
    show own_Go p.tables e below _ (T96.setTop (mkF m 76 #[.val (Value.int p1), .val (Value.int p2), .val (Value.int p3), .val (Value.int p4), .val (Value.int p5), .val (Value.int b0), .val (Value.int b1), .val (Value.int b2), .val (Value.int b3), .val (Value.int (2 : Int32)), .val (Value.ref ob69), .unset, .unset, .unset, .unset] []))
    refine own_Go.by (fun tq kq => XS.iload X96.here hx rfl (hb hby at_76) rfl kq) ?_
    show own_Go p.tables e below _ (T96.setTop (mkF m 78 #[.val (Value.int p1), .val (Value.int p2), .val (Value.int p3), .val (Value.int p4), .val (Value.int p5), .val (Value.int b0), .val (Value.int b1), .val (Value.int b2), .val (Value.int b3), .val (Value.int (2 : Int32)), .val (Value.ref ob69), .unset, .unset, .unset, .unset] [(Value.int (2 : Int32))]))
    refine own_Go.by (fun tq kq => XS.ifYes X96.here hx rfl (pc0 := 78) (pc' := 86) rfl (hb hby at_78) rfl ((if0 _ _).trans (feq (by decide : ¬ ((2 : Int32) = (0 : Int32)))).2) (by decide) (by decide) kq) ?_
    show own_Go p.tables e below _ (T96.setTop (mkF m 86 #[.val (Value.int p1), .val (Value.int p2), .val (Value.int p3), .val (Value.int p4), .val (Value.int p5), .val (Value.int b0), .val (Value.int b1), .val (Value.int b2), .val (Value.int b3), .val (Value.int (2 : Int32)), .val (Value.ref ob69), .unset, .unset, .unset, .unset] []))
    refine own_Go.by (fun tq kq => XS.iload X96.here hx rfl (hb hby at_86) rfl kq) ?_
    show own_Go p.tables e below _ (T96.setTop (mkF m 88 #[.val (Value.int p1), .val (Value.int p2), .val (Value.int p3), .val (Value.int p4), .val (Value.int p5), .val (Value.int b0), .val (Value.int b1), .val (Value.int b2), .val (Value.int b3), .val (Value.int (2 : Int32)), .val (Value.ref ob69), .unset, .unset, .unset, .unset] [(Value.int b0)]))
    refine own_Go.by (fun tq kq => XS.istore X96.here hx rfl (hb hby at_88) rfl (l' := #[.val (Value.int p1), .val (Value.int p2), .val (Value.int p3), .val (Value.int p4), .val (Value.int p5), .val (Value.int b0), .val (Value.int b1), .val (Value.int b2), .val (Value.int b3), .val (Value.int (2 : Int32)), .val (Value.ref ob69), .val (Value.int b0), .unset, .unset, .unset]) rfl kq) ?_
    show own_Go p.tables e below _ (T96.setTop (mkF m 90 #[.val (Value.int p1), .val (Value.int p2), .val (Value.int p3), .val (Value.int p4), .val (Value.int p5), .val (Value.int b0), .val (Value.int b1), .val (Value.int b2), .val (Value.int b3), .val (Value.int (2 : Int32)), .val (Value.ref ob69), .val (Value.int b0), .unset, .unset, .unset] []))
    refine own_Go.by (fun tq kq => XS.iload X96.here hx rfl (hb hby at_90) rfl kq) ?_
    show own_Go p.tables e below _ (T96.setTop (mkF m 92 #[.val (Value.int p1), .val (Value.int p2), .val (Value.int p3), .val (Value.int p4), .val (Value.int p5), .val (Value.int b0), .val (Value.int b1), .val (Value.int b2), .val (Value.int b3), .val (Value.int (2 : Int32)), .val (Value.ref ob69), .val (Value.int b0), .unset, .unset, .unset] [(Value.int (2 : Int32))]))
    refine own_Go.by (fun tq kq => XS.ifYes X96.here hx rfl (pc0 := 92) (pc' := 100) rfl (hb hby at_92) rfl ((if0 _ _).trans (feq (by decide : ¬ ((2 : Int32) = (0 : Int32)))).2) (by decide) (by decide) kq) ?_
    show own_Go p.tables e below _ (T96.setTop (mkF m 100 #[.val (Value.int p1), .val (Value.int p2), .val (Value.int p3), .val (Value.int p4), .val (Value.int p5), .val (Value.int b0), .val (Value.int b1), .val (Value.int b2), .val (Value.int b3), .val (Value.int (2 : Int32)), .val (Value.ref ob69), .val (Value.int b0), .unset, .unset, .unset] []))
    refine own_Go.by (fun tq kq => XS.iload X96.here hx rfl (hb hby at_100) rfl kq) ?_
    show own_Go p.tables e below _ (T96.setTop (mkF m 102 #[.val (Value.int p1), .val (Value.int p2), .val (Value.int p3), .val (Value.int p4), .val (Value.int p5), .val (Value.int b0), .val (Value.int b1), .val (Value.int b2), .val (Value.int b3), .val (Value.int (2 : Int32)), .val (Value.ref ob69), .val (Value.int b0), .unset, .unset, .unset] [(Value.int (2 : Int32))]))
    refine own_Go.by (fun tq kq => XS.iconst X96.here hx rfl (hb hby at_102) kq) ?_
    show own_Go p.tables e below _ (T96.setTop (mkF m 103 #[.val (Value.int p1), .val (Value.int p2), .val (Value.int p3), .val (Value.int p4), .val (Value.int p5), .val (Value.int b0), .val (Value.int b1), .val (Value.int b2), .val (Value.int b3), .val (Value.int (2 : Int32)), .val (Value.ref ob69), .val (Value.int b0), .unset, .unset, .unset] [(Value.int (1 : Int32)), (Value.int (2 : Int32))]))
    refine own_Go.by (fun tq kq => XS.icmpYes X96.here hx rfl (pc0 := 103) (pc' := 111) rfl (hb hby at_103) rfl (feq (by decide : ¬ ((2 : Int32) = (1 : Int32)))).2 (by decide) (by decide) kq) ?_
    show own_Go p.tables e below _ (T96.setTop (mkF m 111 #[.val (Value.int p1), .val (Value.int p2), .val (Value.int p3), .val (Value.int p4), .val (Value.int p5), .val (Value.int b0), .val (Value.int b1), .val (Value.int b2), .val (Value.int b3), .val (Value.int (2 : Int32)), .val (Value.ref ob69), .val (Value.int b0), .unset, .unset, .unset] []))
    refine own_Go.by (fun tq kq => XS.iload X96.here hx rfl (hb hby at_111) rfl kq) ?_
    show own_Go p.tables e below _ (T96.setTop (mkF m 113 #[.val (Value.int p1), .val (Value.int p2), .val (Value.int p3), .val (Value.int p4), .val (Value.int p5), .val (Value.int b0), .val (Value.int b1), .val (Value.int b2), .val (Value.int b3), .val (Value.int (2 : Int32)), .val (Value.ref ob69), .val (Value.int b0), .unset, .unset, .unset] [(Value.int b1)]))
    refine own_Go.by (fun tq kq => XS.istore X96.here hx rfl (hb hby at_113) rfl (l' := #[.val (Value.int p1), .val (Value.int p2), .val (Value.int p3), .val (Value.int p4), .val (Value.int p5), .val (Value.int b0), .val (Value.int b1), .val (Value.int b2), .val (Value.int b3), .val (Value.int (2 : Int32)), .val (Value.ref ob69), .val (Value.int b0), .val (Value.int b1), .unset, .unset]) rfl kq) ?_
    show own_Go p.tables e below _ (T96.setTop (mkF m 115 #[.val (Value.int p1), .val (Value.int p2), .val (Value.int p3), .val (Value.int p4), .val (Value.int p5), .val (Value.int b0), .val (Value.int b1), .val (Value.int b2), .val (Value.int b3), .val (Value.int (2 : Int32)), .val (Value.ref ob69), .val (Value.int b0), .val (Value.int b1), .unset, .unset] []))
    refine own_Go.by (fun tq kq => XS.iload X96.here hx rfl (hb hby at_115) rfl kq) ?_
    show own_Go p.tables e below _ (T96.setTop (mkF m 117 #[.val (Value.int p1), .val (Value.int p2), .val (Value.int p3), .val (Value.int p4), .val (Value.int p5), .val (Value.int b0), .val (Value.int b1), .val (Value.int b2), .val (Value.int b3), .val (Value.int (2 : Int32)), .val (Value.ref ob69), .val (Value.int b0), .val (Value.int b1), .unset, .unset] [(Value.int (2 : Int32))]))
    refine own_Go.by (fun tq kq => XS.ifYes X96.here hx rfl (pc0 := 117) (pc' := 125) rfl (hb hby at_117) rfl ((if0 _ _).trans (feq (by decide : ¬ ((2 : Int32) = (0 : Int32)))).2) (by decide) (by decide) kq) ?_
    show own_Go p.tables e below _ (T96.setTop (mkF m 125 #[.val (Value.int p1), .val (Value.int p2), .val (Value.int p3), .val (Value.int p4), .val (Value.int p5), .val (Value.int b0), .val (Value.int b1), .val (Value.int b2), .val (Value.int b3), .val (Value.int (2 : Int32)), .val (Value.ref ob69), .val (Value.int b0), .val (Value.int b1), .unset, .unset] []))
    refine own_Go.by (fun tq kq => XS.iload X96.here hx rfl (hb hby at_125) rfl kq) ?_
    show own_Go p.tables e below _ (T96.setTop (mkF m 127 #[.val (Value.int p1), .val (Value.int p2), .val (Value.int p3), .val (Value.int p4), .val (Value.int p5), .val (Value.int b0), .val (Value.int b1), .val (Value.int b2), .val (Value.int b3), .val (Value.int (2 : Int32)), .val (Value.ref ob69), .val (Value.int b0), .val (Value.int b1), .unset, .unset] [(Value.int (2 : Int32))]))
    refine own_Go.by (fun tq kq => XS.iconst X96.here hx rfl (hb hby at_127) kq) ?_
    show own_Go p.tables e below _ (T96.setTop (mkF m 128 #[.val (Value.int p1), .val (Value.int p2), .val (Value.int p3), .val (Value.int p4), .val (Value.int p5), .val (Value.int b0), .val (Value.int b1), .val (Value.int b2), .val (Value.int b3), .val (Value.int (2 : Int32)), .val (Value.ref ob69), .val (Value.int b0), .val (Value.int b1), .unset, .unset] [(Value.int (1 : Int32)), (Value.int (2 : Int32))]))
    refine own_Go.by (fun tq kq => XS.icmpYes X96.here hx rfl (pc0 := 128) (pc' := 136) rfl (hb hby at_128) rfl (feq (by decide : ¬ ((2 : Int32) = (1 : Int32)))).2 (by decide) (by decide) kq) ?_
    show own_Go p.tables e below _ (T96.setTop (mkF m 136 #[.val (Value.int p1), .val (Value.int p2), .val (Value.int p3), .val (Value.int p4), .val (Value.int p5), .val (Value.int b0), .val (Value.int b1), .val (Value.int b2), .val (Value.int b3), .val (Value.int (2 : Int32)), .val (Value.ref ob69), .val (Value.int b0), .val (Value.int b1), .unset, .unset] []))
    refine own_Go.by (fun tq kq => XS.iload X96.here hx rfl (hb hby at_136) rfl kq) ?_
    show own_Go p.tables e below _ (T96.setTop (mkF m 138 #[.val (Value.int p1), .val (Value.int p2), .val (Value.int p3), .val (Value.int p4), .val (Value.int p5), .val (Value.int b0), .val (Value.int b1), .val (Value.int b2), .val (Value.int b3), .val (Value.int (2 : Int32)), .val (Value.ref ob69), .val (Value.int b0), .val (Value.int b1), .unset, .unset] [(Value.int b2)]))
    refine own_Go.by (fun tq kq => XS.istore X96.here hx rfl (hb hby at_138) rfl (l' := #[.val (Value.int p1), .val (Value.int p2), .val (Value.int p3), .val (Value.int p4), .val (Value.int p5), .val (Value.int b0), .val (Value.int b1), .val (Value.int b2), .val (Value.int b3), .val (Value.int (2 : Int32)), .val (Value.ref ob69), .val (Value.int b0), .val (Value.int b1), .val (Value.int b2), .unset]) rfl kq) ?_
    show own_Go p.tables e below _ (T96.setTop (mkF m 140 #[.val (Value.int p1), .val (Value.int p2), .val (Value.int p3), .val (Value.int p4), .val (Value.int p5), .val (Value.int b0), .val (Value.int b1), .val (Value.int b2), .val (Value.int b3), .val (Value.int (2 : Int32)), .val (Value.ref ob69), .val (Value.int b0), .val (Value.int b1), .val (Value.int b2), .unset] []))
    refine own_Go.by (fun tq kq => XS.iload X96.here hx rfl (hb hby at_140) rfl kq) ?_
    show own_Go p.tables e below _ (T96.setTop (mkF m 142 #[.val (Value.int p1), .val (Value.int p2), .val (Value.int p3), .val (Value.int p4), .val (Value.int p5), .val (Value.int b0), .val (Value.int b1), .val (Value.int b2), .val (Value.int b3), .val (Value.int (2 : Int32)), .val (Value.ref ob69), .val (Value.int b0), .val (Value.int b1), .val (Value.int b2), .unset] [(Value.int (2 : Int32))]))
    refine own_Go.by (fun tq kq => XS.iconst X96.here hx rfl (hb hby at_142) kq) ?_
    show own_Go p.tables e below _ (T96.setTop (mkF m 143 #[.val (Value.int p1), .val (Value.int p2), .val (Value.int p3), .val (Value.int p4), .val (Value.int p5), .val (Value.int b0), .val (Value.int b1), .val (Value.int b2), .val (Value.int b3), .val (Value.int (2 : Int32)), .val (Value.ref ob69), .val (Value.int b0), .val (Value.int b1), .val (Value.int b2), .unset] [(Value.int (2 : Int32)), (Value.int (2 : Int32))]))
    refine own_Go.by (fun tq kq => XS.icmpNo X96.here hx rfl (hb hby at_143) rfl (teq (by decide : (2 : Int32) = (2 : Int32))).2 kq) ?_
    show own_Go p.tables e below _ (T96.setTop (mkF m 146 #[.val (Value.int p1), .val (Value.int p2), .val (Value.int p3), .val (Value.int p4), .val (Value.int p5), .val (Value.int b0), .val (Value.int b1), .val (Value.int b2), .val (Value.int b3), .val (Value.int (2 : Int32)), .val (Value.ref ob69), .val (Value.int b0), .val (Value.int b1), .val (Value.int b2), .unset] []))
    refine own_Go.by (fun tq kq => XS.iload X96.here hx rfl (hb hby at_146) rfl kq) ?_
    show own_Go p.tables e below _ (T96.setTop (mkF m 148 #[.val (Value.int p1), .val (Value.int p2), .val (Value.int p3), .val (Value.int p4), .val (Value.int p5), .val (Value.int b0), .val (Value.int b1), .val (Value.int b2), .val (Value.int b3), .val (Value.int (2 : Int32)), .val (Value.ref ob69), .val (Value.int b0), .val (Value.int b1), .val (Value.int b2), .unset] [(Value.int b3)]))
    refine own_Go.by (fun tq kq => XS.goto X96.here hx rfl (pc0 := 148) (pc' := 153) rfl (hb hby at_148) (by decide) (by decide) kq) ?_
    show own_Go p.tables e below _ (T96.setTop (mkF m 153 #[.val (Value.int p1), .val (Value.int p2), .val (Value.int p3), .val (Value.int p4), .val (Value.int p5), .val (Value.int b0), .val (Value.int b1), .val (Value.int b2), .val (Value.int b3), .val (Value.int (2 : Int32)), .val (Value.ref ob69), .val (Value.int b0), .val (Value.int b1), .val (Value.int b2), .unset] [(Value.int b3)]))
    refine own_Go.by (fun tq kq => XS.istore X96.here hx rfl (hb hby at_153) rfl (l' := #[.val (Value.int p1), .val (Value.int p2), .val (Value.int p3), .val (Value.int p4), .val (Value.int p5), .val (Value.int b0), .val (Value.int b1), .val (Value.int b2), .val (Value.int b3), .val (Value.int (2 : Int32)), .val (Value.ref ob69), .val (Value.int b0), .val (Value.int b1), .val (Value.int b2), .val (Value.int b3)]) rfl kq) ?_
    show own_Go p.tables e below _ (T96.setTop (mkF m 155 #[.val (Value.int p1), .val (Value.int p2), .val (Value.int p3), .val (Value.int p4), .val (Value.int p5), .val (Value.int b0), .val (Value.int b1), .val (Value.int b2), .val (Value.int b3), .val (Value.int (2 : Int32)), .val (Value.ref ob69), .val (Value.int b0), .val (Value.int b1), .val (Value.int b2), .val (Value.int b3)] []))
    refine own_Go.by (fun tq kq => XS.aload X96.here hx rfl (hb hby at_155) rfl rfl kq) ?_
    show own_Go p.tables e below _ (T96.setTop (mkF m 157 #[.val (Value.int p1), .val (Value.int p2), .val (Value.int p3), .val (Value.int p4), .val (Value.int p5), .val (Value.int b0), .val (Value.int b1), .val (Value.int b2), .val (Value.int b3), .val (Value.int (2 : Int32)), .val (Value.ref ob69), .val (Value.int b0), .val (Value.int b1), .val (Value.int b2), .val (Value.int b3)] [(Value.ref ob69)]))
    refine own_Go.by (fun tq kq => XS.iconst X96.here hx rfl (hb hby at_157) kq) ?_
    show own_Go p.tables e below _ (T96.setTop (mkF m 158 #[.val (Value.int p1), .val (Value.int p2), .val (Value.int p3), .val (Value.int p4), .val (Value.int p5), .val (Value.int b0), .val (Value.int b1), .val (Value.int b2), .val (Value.int b3), .val (Value.int (2 : Int32)), .val (Value.ref ob69), .val (Value.int b0), .val (Value.int b1), .val (Value.int b2), .val (Value.int b3)] [(Value.int (0 : Int32)), (Value.ref ob69)]))
    obtain ⟨cq98, kq98, q98a, q98b, q98c⟩ := isOf hZ75 rfl p96_0
    obtain ⟨_, _, ⟨T98, L98, k98, n98⟩, -, X98, ⟨Lc98, hQ98, l98, y98, z98⟩, st98⟩ := X96.virtualBack hx (y := (⟨"com/example/plain_bastion/plainbastion/ssh/TypedText", "at", "(I)B"⟩ : MethodName)) (z := (⟨"com/example/plain_bastion/plainbastion/ssh/TypedText", "at", "(I)B"⟩ : MethodName)) hown75 (mvT hZ75 (hw _ (List.mem_of_getElem? (i := 57) rfl))) (mvT hZ75 (hw _ (List.mem_of_getElem? (i := 58) rfl))) (notFace_of_selects (args := #[]) (mvT hZ75 (hw _ (List.mem_of_getElem? (i := 60) rfl)))) (mvT hZ75 (hw _ (List.mem_of_getElem? (i := 60) rfl))) (mvT hZ75 (hw _ (List.mem_of_getElem? (i := 59) rfl))) (by decide) (backOf (W := 0) (rm6_lo l Z a0 hw [] ob69 b_77 kb_77 (((((List.replicate 256 (Value.int (0 : Int32))).set 0 (Value.int b0)).set 1 (Value.int b1)).set 2 (Value.int b2)).set 3 (Value.int b3)) (4 : Int32) (0 : Int32) (0 : Int32) b0 T96.heap n0 O97 p96_0 p96_1 p96_2 p96_3 p96_6 (by decide : (0 : Int32) < (4 : Int32)) (by decide : ¬ ((0 : Int32) < (0 : Int32)) ∧ (0 : Int32) < (256 : Int32)) (rfl : (((((List.replicate 256 (Value.int (0 : Int32))).set 0 (Value.int b0)).set 1 (Value.int b1)).set 2 (Value.int b2)).set 3 (Value.int b3)).getD (0 : Int32).toNatClampNeg (Value.int (0 : Int32)) = (Value.int b0)) (own_b8 hv_b0 : b0.toInt8.toInt32 = b0)) hZ75 (hw _ (List.mem_of_getElem? (i := 61) rfl)) (hw _ (List.mem_of_getElem? (i := 3) rfl)) (by decide) (by decide)) q98a q98c (g := (mkF m 158 #[.val (Value.int p1), .val (Value.int p2), .val (Value.int p3), .val (Value.int p4), .val (Value.int p5), .val (Value.int b0), .val (Value.int b1), .val (Value.int b2), .val (Value.int b3), .val (Value.int (2 : Int32)), .val (Value.ref ob69), .val (Value.int b0), .val (Value.int b1), .val (Value.int b2), .val (Value.int b3)] [(Value.int (0 : Int32)), (Value.ref ob69)])) rfl (by rw [hml]; rfl) (Steps.refl _) (argsL := [(Value.int (0 : Int32))]) (rest := []) (lenOf own_pd4 rfl) rfl (by show 2 * 0 + _ ≤ _; exact Nat.le_of_eq rfl) (hb hby at_158) (fun _ _ => ⟨rfl, rfl, (by decide : 6 + 0 ≤ _), (by decide : 276 + 0 ≤ _)⟩)
    dsimp only [Pt.U, Pt.locs, Pt.cells, Pt.slots] at X98 l98 y98 z98 st98 hQ98
    subst l98 y98 z98
    refine own_Go.by (fun tq kq => st98.trans kq) ?_
    obtain ⟨rfl, N98q, e98⟩ := hQ98
    have N98 := Fr.app N96 N98q
    show own_Go p.tables e below _ (T98.setTop (mkF m 161 #[.val (Value.int p1), .val (Value.int p2), .val (Value.int p3), .val (Value.int p4), .val (Value.int p5), .val (Value.int b0), .val (Value.int b1), .val (Value.int b2), .val (Value.int b3), .val (Value.int (2 : Int32)), .val (Value.ref ob69), .val (Value.int b0), .val (Value.int b1), .val (Value.int b2), .val (Value.int b3)] [(Value.int b0)]))
    refine own_Go.by (fun tq kq => XS.iload X98.here hx rfl (hb hby at_161) rfl kq) ?_
    show own_Go p.tables e below _ (T98.setTop (mkF m 163 #[.val (Value.int p1), .val (Value.int p2), .val (Value.int p3), .val (Value.int p4), .val (Value.int p5), .val (Value.int b0), .val (Value.int b1), .val (Value.int b2), .val (Value.int b3), .val (Value.int (2 : Int32)), .val (Value.ref ob69), .val (Value.int b0), .val (Value.int b1), .val (Value.int b2), .val (Value.int b3)] [(Value.int b0), (Value.int b0)]))
    refine own_Go.by (fun tq kq => XS.icmpNo X98.here hx rfl (hb hby at_163) rfl (teq (rfl : b0 = b0)).2 kq) ?_
    show own_Go p.tables e below _ (T98.setTop (mkF m 166 #[.val (Value.int p1), .val (Value.int p2), .val (Value.int p3), .val (Value.int p4), .val (Value.int p5), .val (Value.int b0), .val (Value.int b1), .val (Value.int b2), .val (Value.int b3), .val (Value.int (2 : Int32)), .val (Value.ref ob69), .val (Value.int b0), .val (Value.int b1), .val (Value.int b2), .val (Value.int b3)] []))
    refine own_Go.by (fun tq kq => XS.aload X98.here hx rfl (hb hby at_166) rfl rfl kq) ?_
    show own_Go p.tables e below _ (T98.setTop (mkF m 168 #[.val (Value.int p1), .val (Value.int p2), .val (Value.int p3), .val (Value.int p4), .val (Value.int p5), .val (Value.int b0), .val (Value.int b1), .val (Value.int b2), .val (Value.int b3), .val (Value.int (2 : Int32)), .val (Value.ref ob69), .val (Value.int b0), .val (Value.int b1), .val (Value.int b2), .val (Value.int b3)] [(Value.ref ob69)]))
    refine own_Go.by (fun tq kq => XS.iconst X98.here hx rfl (hb hby at_168) kq) ?_
    show own_Go p.tables e below _ (T98.setTop (mkF m 169 #[.val (Value.int p1), .val (Value.int p2), .val (Value.int p3), .val (Value.int p4), .val (Value.int p5), .val (Value.int b0), .val (Value.int b1), .val (Value.int b2), .val (Value.int b3), .val (Value.int (2 : Int32)), .val (Value.ref ob69), .val (Value.int b0), .val (Value.int b1), .val (Value.int b2), .val (Value.int b3)] [(Value.int (1 : Int32)), (Value.ref ob69)]))
    obtain ⟨cq99, kq99, q99a, q99b, q99c⟩ := isOf hZ75 e98 p96_0
    obtain ⟨_, _, ⟨T99, L99, k99, n99⟩, -, X99, ⟨Lc99, hQ99, l99, y99, z99⟩, st99⟩ := X98.virtualBack hx (y := (⟨"com/example/plain_bastion/plainbastion/ssh/TypedText", "at", "(I)B"⟩ : MethodName)) (z := (⟨"com/example/plain_bastion/plainbastion/ssh/TypedText", "at", "(I)B"⟩ : MethodName)) hown75 (mvT hZ75 (hw _ (List.mem_of_getElem? (i := 57) rfl))) (mvT hZ75 (hw _ (List.mem_of_getElem? (i := 58) rfl))) (notFace_of_selects (args := #[]) (mvT hZ75 (hw _ (List.mem_of_getElem? (i := 60) rfl)))) (mvT hZ75 (hw _ (List.mem_of_getElem? (i := 60) rfl))) (mvT hZ75 (hw _ (List.mem_of_getElem? (i := 59) rfl))) (by decide) (backOf (W := 0) (rm6_lo l Z a0 hw [] ob69 b_77 kb_77 (((((List.replicate 256 (Value.int (0 : Int32))).set 0 (Value.int b0)).set 1 (Value.int b1)).set 2 (Value.int b2)).set 3 (Value.int b3)) (4 : Int32) (0 : Int32) (1 : Int32) b1 T96.heap n0 O97 p96_0 p96_1 p96_2 p96_3 p96_6 (by decide : (1 : Int32) < (4 : Int32)) (by decide : ¬ ((1 : Int32) < (0 : Int32)) ∧ (1 : Int32) < (256 : Int32)) (rfl : (((((List.replicate 256 (Value.int (0 : Int32))).set 0 (Value.int b0)).set 1 (Value.int b1)).set 2 (Value.int b2)).set 3 (Value.int b3)).getD (1 : Int32).toNatClampNeg (Value.int (0 : Int32)) = (Value.int b1)) (own_b8 hv_b1 : b1.toInt8.toInt32 = b1)) hZ75 (hw _ (List.mem_of_getElem? (i := 61) rfl)) (hw _ (List.mem_of_getElem? (i := 3) rfl)) (by decide) (by decide)) q99a q99c (g := (mkF m 169 #[.val (Value.int p1), .val (Value.int p2), .val (Value.int p3), .val (Value.int p4), .val (Value.int p5), .val (Value.int b0), .val (Value.int b1), .val (Value.int b2), .val (Value.int b3), .val (Value.int (2 : Int32)), .val (Value.ref ob69), .val (Value.int b0), .val (Value.int b1), .val (Value.int b2), .val (Value.int b3)] [(Value.int (1 : Int32)), (Value.ref ob69)])) rfl (by rw [hml]; rfl) (Steps.refl _) (argsL := [(Value.int (1 : Int32))]) (rest := []) (lenOf own_pd4 rfl) rfl (by show 2 * 0 + _ ≤ _; exact Nat.le_of_eq rfl) (hb hby at_169) (fun _ _ => ⟨rfl, e98, (by decide : 6 + 0 ≤ _), (by decide : 276 + 0 ≤ _)⟩)
    dsimp only [Pt.U, Pt.locs, Pt.cells, Pt.slots] at X99 l99 y99 z99 st99 hQ99
    subst l99 y99 z99
    refine own_Go.by (fun tq kq => st99.trans kq) ?_
    obtain ⟨rfl, N99q, e99⟩ := hQ99
    have N99 := Fr.app N98 N99q
    show own_Go p.tables e below _ (T99.setTop (mkF m 172 #[.val (Value.int p1), .val (Value.int p2), .val (Value.int p3), .val (Value.int p4), .val (Value.int p5), .val (Value.int b0), .val (Value.int b1), .val (Value.int b2), .val (Value.int b3), .val (Value.int (2 : Int32)), .val (Value.ref ob69), .val (Value.int b0), .val (Value.int b1), .val (Value.int b2), .val (Value.int b3)] [(Value.int b1)]))
    refine own_Go.by (fun tq kq => XS.iload X99.here hx rfl (hb hby at_172) rfl kq) ?_
    show own_Go p.tables e below _ (T99.setTop (mkF m 174 #[.val (Value.int p1), .val (Value.int p2), .val (Value.int p3), .val (Value.int p4), .val (Value.int p5), .val (Value.int b0), .val (Value.int b1), .val (Value.int b2), .val (Value.int b3), .val (Value.int (2 : Int32)), .val (Value.ref ob69), .val (Value.int b0), .val (Value.int b1), .val (Value.int b2), .val (Value.int b3)] [(Value.int b1), (Value.int b1)]))
    refine own_Go.by (fun tq kq => XS.icmpNo X99.here hx rfl (hb hby at_174) rfl (teq (rfl : b1 = b1)).2 kq) ?_
    show own_Go p.tables e below _ (T99.setTop (mkF m 177 #[.val (Value.int p1), .val (Value.int p2), .val (Value.int p3), .val (Value.int p4), .val (Value.int p5), .val (Value.int b0), .val (Value.int b1), .val (Value.int b2), .val (Value.int b3), .val (Value.int (2 : Int32)), .val (Value.ref ob69), .val (Value.int b0), .val (Value.int b1), .val (Value.int b2), .val (Value.int b3)] []))
    refine own_Go.by (fun tq kq => XS.aload X99.here hx rfl (hb hby at_177) rfl rfl kq) ?_
    show own_Go p.tables e below _ (T99.setTop (mkF m 179 #[.val (Value.int p1), .val (Value.int p2), .val (Value.int p3), .val (Value.int p4), .val (Value.int p5), .val (Value.int b0), .val (Value.int b1), .val (Value.int b2), .val (Value.int b3), .val (Value.int (2 : Int32)), .val (Value.ref ob69), .val (Value.int b0), .val (Value.int b1), .val (Value.int b2), .val (Value.int b3)] [(Value.ref ob69)]))
    refine own_Go.by (fun tq kq => XS.iconst X99.here hx rfl (hb hby at_179) kq) ?_
    show own_Go p.tables e below _ (T99.setTop (mkF m 180 #[.val (Value.int p1), .val (Value.int p2), .val (Value.int p3), .val (Value.int p4), .val (Value.int p5), .val (Value.int b0), .val (Value.int b1), .val (Value.int b2), .val (Value.int b3), .val (Value.int (2 : Int32)), .val (Value.ref ob69), .val (Value.int b0), .val (Value.int b1), .val (Value.int b2), .val (Value.int b3)] [(Value.int (2 : Int32)), (Value.ref ob69)]))
    obtain ⟨cq100, kq100, q100a, q100b, q100c⟩ := isOf hZ75 e99 p96_0
    obtain ⟨_, _, ⟨T100, L100, k100, n100⟩, -, X100, ⟨Lc100, hQ100, l100, y100, z100⟩, st100⟩ := X99.virtualBack hx (y := (⟨"com/example/plain_bastion/plainbastion/ssh/TypedText", "at", "(I)B"⟩ : MethodName)) (z := (⟨"com/example/plain_bastion/plainbastion/ssh/TypedText", "at", "(I)B"⟩ : MethodName)) hown75 (mvT hZ75 (hw _ (List.mem_of_getElem? (i := 57) rfl))) (mvT hZ75 (hw _ (List.mem_of_getElem? (i := 58) rfl))) (notFace_of_selects (args := #[]) (mvT hZ75 (hw _ (List.mem_of_getElem? (i := 60) rfl)))) (mvT hZ75 (hw _ (List.mem_of_getElem? (i := 60) rfl))) (mvT hZ75 (hw _ (List.mem_of_getElem? (i := 59) rfl))) (by decide) (backOf (W := 0) (rm6_lo l Z a0 hw [] ob69 b_77 kb_77 (((((List.replicate 256 (Value.int (0 : Int32))).set 0 (Value.int b0)).set 1 (Value.int b1)).set 2 (Value.int b2)).set 3 (Value.int b3)) (4 : Int32) (0 : Int32) (2 : Int32) b2 T96.heap n0 O97 p96_0 p96_1 p96_2 p96_3 p96_6 (by decide : (2 : Int32) < (4 : Int32)) (by decide : ¬ ((2 : Int32) < (0 : Int32)) ∧ (2 : Int32) < (256 : Int32)) (rfl : (((((List.replicate 256 (Value.int (0 : Int32))).set 0 (Value.int b0)).set 1 (Value.int b1)).set 2 (Value.int b2)).set 3 (Value.int b3)).getD (2 : Int32).toNatClampNeg (Value.int (0 : Int32)) = (Value.int b2)) (own_b8 hv_b2 : b2.toInt8.toInt32 = b2)) hZ75 (hw _ (List.mem_of_getElem? (i := 61) rfl)) (hw _ (List.mem_of_getElem? (i := 3) rfl)) (by decide) (by decide)) q100a q100c (g := (mkF m 180 #[.val (Value.int p1), .val (Value.int p2), .val (Value.int p3), .val (Value.int p4), .val (Value.int p5), .val (Value.int b0), .val (Value.int b1), .val (Value.int b2), .val (Value.int b3), .val (Value.int (2 : Int32)), .val (Value.ref ob69), .val (Value.int b0), .val (Value.int b1), .val (Value.int b2), .val (Value.int b3)] [(Value.int (2 : Int32)), (Value.ref ob69)])) rfl (by rw [hml]; rfl) (Steps.refl _) (argsL := [(Value.int (2 : Int32))]) (rest := []) (lenOf own_pd4 rfl) rfl (by show 2 * 0 + _ ≤ _; exact Nat.le_of_eq rfl) (hb hby at_180) (fun _ _ => ⟨rfl, e99, (by decide : 6 + 0 ≤ _), (by decide : 276 + 0 ≤ _)⟩)
    dsimp only [Pt.U, Pt.locs, Pt.cells, Pt.slots] at X100 l100 y100 z100 st100 hQ100
    subst l100 y100 z100
    refine own_Go.by (fun tq kq => st100.trans kq) ?_
    obtain ⟨rfl, N100q, e100⟩ := hQ100
    have N100 := Fr.app N99 N100q
    show own_Go p.tables e below _ (T100.setTop (mkF m 183 #[.val (Value.int p1), .val (Value.int p2), .val (Value.int p3), .val (Value.int p4), .val (Value.int p5), .val (Value.int b0), .val (Value.int b1), .val (Value.int b2), .val (Value.int b3), .val (Value.int (2 : Int32)), .val (Value.ref ob69), .val (Value.int b0), .val (Value.int b1), .val (Value.int b2), .val (Value.int b3)] [(Value.int b2)]))
    refine own_Go.by (fun tq kq => XS.iload X100.here hx rfl (hb hby at_183) rfl kq) ?_
    show own_Go p.tables e below _ (T100.setTop (mkF m 185 #[.val (Value.int p1), .val (Value.int p2), .val (Value.int p3), .val (Value.int p4), .val (Value.int p5), .val (Value.int b0), .val (Value.int b1), .val (Value.int b2), .val (Value.int b3), .val (Value.int (2 : Int32)), .val (Value.ref ob69), .val (Value.int b0), .val (Value.int b1), .val (Value.int b2), .val (Value.int b3)] [(Value.int b2), (Value.int b2)]))
    refine own_Go.by (fun tq kq => XS.icmpNo X100.here hx rfl (hb hby at_185) rfl (teq (rfl : b2 = b2)).2 kq) ?_
    show own_Go p.tables e below _ (T100.setTop (mkF m 188 #[.val (Value.int p1), .val (Value.int p2), .val (Value.int p3), .val (Value.int p4), .val (Value.int p5), .val (Value.int b0), .val (Value.int b1), .val (Value.int b2), .val (Value.int b3), .val (Value.int (2 : Int32)), .val (Value.ref ob69), .val (Value.int b0), .val (Value.int b1), .val (Value.int b2), .val (Value.int b3)] []))
    refine own_Go.by (fun tq kq => XS.aload X100.here hx rfl (hb hby at_188) rfl rfl kq) ?_
    show own_Go p.tables e below _ (T100.setTop (mkF m 190 #[.val (Value.int p1), .val (Value.int p2), .val (Value.int p3), .val (Value.int p4), .val (Value.int p5), .val (Value.int b0), .val (Value.int b1), .val (Value.int b2), .val (Value.int b3), .val (Value.int (2 : Int32)), .val (Value.ref ob69), .val (Value.int b0), .val (Value.int b1), .val (Value.int b2), .val (Value.int b3)] [(Value.ref ob69)]))
    refine own_Go.by (fun tq kq => XS.iconst X100.here hx rfl (hb hby at_190) kq) ?_
    show own_Go p.tables e below _ (T100.setTop (mkF m 191 #[.val (Value.int p1), .val (Value.int p2), .val (Value.int p3), .val (Value.int p4), .val (Value.int p5), .val (Value.int b0), .val (Value.int b1), .val (Value.int b2), .val (Value.int b3), .val (Value.int (2 : Int32)), .val (Value.ref ob69), .val (Value.int b0), .val (Value.int b1), .val (Value.int b2), .val (Value.int b3)] [(Value.int (3 : Int32)), (Value.ref ob69)]))
    obtain ⟨cq101, kq101, q101a, q101b, q101c⟩ := isOf hZ75 e100 p96_0
    obtain ⟨_, _, ⟨T101, L101, k101, n101⟩, -, X101, ⟨Lc101, hQ101, l101, y101, z101⟩, st101⟩ := X100.virtualBack hx (y := (⟨"com/example/plain_bastion/plainbastion/ssh/TypedText", "at", "(I)B"⟩ : MethodName)) (z := (⟨"com/example/plain_bastion/plainbastion/ssh/TypedText", "at", "(I)B"⟩ : MethodName)) hown75 (mvT hZ75 (hw _ (List.mem_of_getElem? (i := 57) rfl))) (mvT hZ75 (hw _ (List.mem_of_getElem? (i := 58) rfl))) (notFace_of_selects (args := #[]) (mvT hZ75 (hw _ (List.mem_of_getElem? (i := 60) rfl)))) (mvT hZ75 (hw _ (List.mem_of_getElem? (i := 60) rfl))) (mvT hZ75 (hw _ (List.mem_of_getElem? (i := 59) rfl))) (by decide) (backOf (W := 0) (rm6_lo l Z a0 hw [] ob69 b_77 kb_77 (((((List.replicate 256 (Value.int (0 : Int32))).set 0 (Value.int b0)).set 1 (Value.int b1)).set 2 (Value.int b2)).set 3 (Value.int b3)) (4 : Int32) (0 : Int32) (3 : Int32) b3 T96.heap n0 O97 p96_0 p96_1 p96_2 p96_3 p96_6 (by decide : (3 : Int32) < (4 : Int32)) (by decide : ¬ ((3 : Int32) < (0 : Int32)) ∧ (3 : Int32) < (256 : Int32)) (rfl : (((((List.replicate 256 (Value.int (0 : Int32))).set 0 (Value.int b0)).set 1 (Value.int b1)).set 2 (Value.int b2)).set 3 (Value.int b3)).getD (3 : Int32).toNatClampNeg (Value.int (0 : Int32)) = (Value.int b3)) (own_b8 hv_b3 : b3.toInt8.toInt32 = b3)) hZ75 (hw _ (List.mem_of_getElem? (i := 61) rfl)) (hw _ (List.mem_of_getElem? (i := 3) rfl)) (by decide) (by decide)) q101a q101c (g := (mkF m 191 #[.val (Value.int p1), .val (Value.int p2), .val (Value.int p3), .val (Value.int p4), .val (Value.int p5), .val (Value.int b0), .val (Value.int b1), .val (Value.int b2), .val (Value.int b3), .val (Value.int (2 : Int32)), .val (Value.ref ob69), .val (Value.int b0), .val (Value.int b1), .val (Value.int b2), .val (Value.int b3)] [(Value.int (3 : Int32)), (Value.ref ob69)])) rfl (by rw [hml]; rfl) (Steps.refl _) (argsL := [(Value.int (3 : Int32))]) (rest := []) (lenOf own_pd4 rfl) rfl (by show 2 * 0 + _ ≤ _; exact Nat.le_of_eq rfl) (hb hby at_191) (fun _ _ => ⟨rfl, e100, (by decide : 6 + 0 ≤ _), (by decide : 276 + 0 ≤ _)⟩)
    dsimp only [Pt.U, Pt.locs, Pt.cells, Pt.slots] at X101 l101 y101 z101 st101 hQ101
    subst l101 y101 z101
    refine own_Go.by (fun tq kq => st101.trans kq) ?_
    obtain ⟨rfl, N101q, e101⟩ := hQ101
    have N101 := Fr.app N100 N101q
    show own_Go p.tables e below _ (T101.setTop (mkF m 194 #[.val (Value.int p1), .val (Value.int p2), .val (Value.int p3), .val (Value.int p4), .val (Value.int p5), .val (Value.int b0), .val (Value.int b1), .val (Value.int b2), .val (Value.int b3), .val (Value.int (2 : Int32)), .val (Value.ref ob69), .val (Value.int b0), .val (Value.int b1), .val (Value.int b2), .val (Value.int b3)] [(Value.int b3)]))
    refine own_Go.by (fun tq kq => XS.iload X101.here hx rfl (hb hby at_194) rfl kq) ?_
    show own_Go p.tables e below _ (T101.setTop (mkF m 196 #[.val (Value.int p1), .val (Value.int p2), .val (Value.int p3), .val (Value.int p4), .val (Value.int p5), .val (Value.int b0), .val (Value.int b1), .val (Value.int b2), .val (Value.int b3), .val (Value.int (2 : Int32)), .val (Value.ref ob69), .val (Value.int b0), .val (Value.int b1), .val (Value.int b2), .val (Value.int b3)] [(Value.int b3), (Value.int b3)]))
    refine own_Go.by (fun tq kq => XS.icmpNo X101.here hx rfl (hb hby at_196) rfl (teq (rfl : b3 = b3)).2 kq) ?_
    show own_Go p.tables e below _ (T101.setTop (mkF m 199 #[.val (Value.int p1), .val (Value.int p2), .val (Value.int p3), .val (Value.int p4), .val (Value.int p5), .val (Value.int b0), .val (Value.int b1), .val (Value.int b2), .val (Value.int b3), .val (Value.int (2 : Int32)), .val (Value.ref ob69), .val (Value.int b0), .val (Value.int b1), .val (Value.int b2), .val (Value.int b3)] []))
    refine own_Go.by (fun tq kq => XS.iconst X101.here hx rfl (hb hby at_199) kq) ?_
    show own_Go p.tables e below _ (T101.setTop (mkF m 200 #[.val (Value.int p1), .val (Value.int p2), .val (Value.int p3), .val (Value.int p4), .val (Value.int p5), .val (Value.int b0), .val (Value.int b1), .val (Value.int b2), .val (Value.int b3), .val (Value.int (2 : Int32)), .val (Value.ref ob69), .val (Value.int b0), .val (Value.int b1), .val (Value.int b2), .val (Value.int b3)] [(Value.int (1 : Int32))]))
    refine own_Go.by (fun tq kq => XS.goto X101.here hx rfl (pc0 := 200) (pc' := 204) rfl (hb hby at_200) (by decide) (by decide) kq) ?_
    show own_Go p.tables e below _ (T101.setTop (mkF m 204 #[.val (Value.int p1), .val (Value.int p2), .val (Value.int p3), .val (Value.int p4), .val (Value.int p5), .val (Value.int b0), .val (Value.int b1), .val (Value.int b2), .val (Value.int b3), .val (Value.int (2 : Int32)), .val (Value.ref ob69), .val (Value.int b0), .val (Value.int b1), .val (Value.int b2), .val (Value.int b3)] [(Value.int (1 : Int32))]))
    obtain ⟨fs, hr, hrun, hended, hRE⟩ := Stand.leaveW (s := s) (vm₁ := T75.vm) X101 hS75 (by rw [e101]; exact hk_97) (v := some (Value.int (nar .boolean (1 : Int32)))) (fun h => by rw [Bd.returns] at h; cases h)
    refine own_Go.fin (retN X101 hx (t := .boolean) Bd.returns (by simp) (hb hby at_204) hr) ⟨hrun, hended, _, _, rfl, ?_, own_rew hRE (by decide) (by decide)⟩
    show Q0 Z p1 p2 p3 p4 p5 aW h0 n0 _ T101.heap _
    rw [e101]
    exact ⟨rfl, N101, K97⟩

set_option maxRecDepth 65536 in
set_option maxHeartbeats 40000000 in
theorem comes_1 {Post : Tables → Env → Array Value → State → Outcome → State → Prop} (hpost : ∀ tb e args s v u, (limb_1_1.after args s (.returned v) u = true ∧ limb_1_2.after args s (.returned v) u = true ∧ True) → ReturnedEndW s (.returned v) u (Jvm.fieldLocs frame_1_writes args s ++ Jvm.arrayLocs frame_1_arrays args s ++ Jvm.staticLocs frame_1_statics s) 16 1664 → Post tb e args s (.returned v) u) :
    ArmFor flags0 classFile x code maxLocals ret World_1 tables_1 room_1 Calls_1 rest_1 Pre_1 Post := by
  intro l hfl _ _ p e ha hc hk s m args below hf hA hF happ hP
  obtain ⟨hcalls, hrest, hpre⟩ := hP
  obtain ⟨-, -, -, hnamed, -, -, -, hat⟩ := (Spec.applies_iff hf).mp happ
  obtain ⟨hg, hn⟩ := and_e (Cond.before_iff.mp (show (Jvm.Cond.and given_1 narrow_1).before args s = true from hpre))
  obtain ⟨hcount, hg⟩ := and_e hg
  obtain ⟨hg0, hg⟩ := and_e hg
  obtain ⟨hg1, hg⟩ := and_e hg
  obtain ⟨hg2, hg⟩ := and_e hg
  obtain ⟨hg3, hg⟩ := and_e hg
  have hg4 := hg
  obtain ⟨w0, w1, w2, w3, w4, rfl⟩ : ∃ w0 w1 w2 w3 w4 : Value, args = #[w0, w1, w2, w3, w4] := by
    have hs : args.size = 5 := by simpa [Cond.value, given_1] using hcount
    obtain ⟨L⟩ := args
    match L, hs with
    | [w0, w1, w2, w3, w4], _ => exact ⟨w0, w1, w2, w3, w4, rfl⟩
  have hw := fun d (hd : d ∈ tables_1) => atoms_spec (ws := Jvm.Cond.code x code maxLocals ret :: tables_1) hat d (List.mem_cons_of_mem _ hd)
  have hfit : Fit s := fun {y c} hc i hi => by
    obtain ⟨ha, rfl⟩ := Array.getElem?_eq_some_iff.mp hc
    have q := List.all_eq_true.mp ((Array.all_eq_true_iff_forall_mem.mp hF) _ (Array.getElem_mem ha)) i (List.mem_range.mpr hi)
    simpa [Array.getElem?_eq_getElem hi] using q
  obtain ⟨i0, ei0⟩ := is_v hg0
  obtain rfl : w0 = (.int i0) := Option.some.inj ei0
  obtain ⟨i1, ei1⟩ := is_v hg1
  obtain rfl : w1 = (.int i1) := Option.some.inj ei1
  obtain ⟨i2, ei2⟩ := is_v hg2
  obtain rfl : w2 = (.int i2) := Option.some.inj ei2
  obtain ⟨i3, ei3⟩ := is_v hg3
  obtain rfl : w3 = (.int i3) := Option.some.inj ei3
  obtain ⟨i4, ei4⟩ := is_v hg4
  obtain rfl : w4 = (.int i4) := Option.some.inj ei4
  obtain ⟨aW, eW⟩ := exa_v hn
  have SW := Sta.start eW (Or.inr ⟨(hw _ (List.mem_of_getElem? (i := 5) rfl)), (hw _ (List.mem_of_getElem? (i := 6) rfl))⟩)
  obtain ⟨n, o, h1, h2, h3, _, L, rfl, ⟨rfl, N, -⟩, hq⟩ := rm0 l s _ hw tables_1 i0 i1 i2 i3 i4 aW s.heap s.heap.size (Old.start s) SW p e ha hc hk s m _ below hf ((Spec.applies_iff_loose hf).mp happ).1 ⟨rfl, State.Warmed39.refl s, rfl⟩ trivial
  refine ⟨n, _, h1, h2, h3, hpost _ _ _ _ _ _ ⟨Cond.after_iff.mpr rfl, Cond.after_iff.mpr (eq_i res_at (Term.int_eval (1)) rfl), trivial⟩ ⟨hq.1, hq.2.1, hq.2.2.1, (hq.2.2.2.sift fun y hy => Or.inr (N y hy)).mono (by decide) (by decide)⟩⟩
theorem main_1_1 : Claimed_1_1 := comes_1 fun _ _ _ _ _ _ h hF => ⟨h.1, hF⟩
theorem main_1_2 : Claimed_1_2 := comes_1 fun _ _ _ _ _ _ h hF => ⟨h.2.1, hF⟩
end Jvm.Pilot.@@N@@
namespace Jvm.Pilot.@@N@@
open Jvm Jvm.ClassFile Sem Op Lib Jvm.Free Jvm.Stand Jvm.Pilot.@@N@@.Jvm.D
/-! MADE BY PROGRAM (witnessworld.py) out of the Statement's table words and the real class files: 17 classes; the members and pool entries that the words name. The judged class is class 1, her method 1. -/
namespace start1
open Jvm.ClassFile
def u (s : String) : CpInfo := .utf8 (stringToUtf16 s)
/-- a pool by its gaps: so many unusable entries, then the entry; so many at the end -/
def gap : Nat → List CpInfo → List CpInfo
  | 0, r => r
  | n + 1, r => .unusable :: gap n r
def poolList (es : List (Nat × CpInfo)) (last : Nat) : List CpInfo := es.foldr (fun e r => gap e.1 (e.2 :: r)) (gap last [])
def pool (es : List (Nat × CpInfo)) (last : Nat) : Array CpInfo := ⟨poolList es last⟩
def fileOf (pool : Array CpInfo) (this : Nat) (attrs : Array Attribute := #[]) (ms : Array MethodInfo := #[]) (fl : Nat := 33) (sup : Nat := 0) (ifs : Array Nat := #[]) (fds : Array FieldInfo := #[]) : ClassFile where
  minorVersion := 0
  majorVersion := 65
  constantPool := pool
  accessFlags := fl
  thisClass := this
  superClass := sup
  interfaces := ifs
  fields := fds
  methods := ms
  attributes := attrs
def plain (name : String) (sup : Option ClassId) : Class where
  name := name
  kind := .ordinary
  loader := none
  accessFlags := 33
  super := sup
  interfaces := #[]
  cf := none
  fields := #[]
  methods := #[]
  instanceTypes := #[]
  staticTypes := #[]
  resolved := #[]
  callSites := []
  init := .initialized
  statics := none
  mirror := none

def pool0 : Array CpInfo := pool [(5, u "<init>"), (0, u "()V"), (1, .class_ 10), (1, u "java/lang/Object")] 113

def k0c0 : Code := { maxStack := 0, maxLocals := 1, code := object_method_1_code, exceptionTable := #[], attributes := #[] }
def k0m0 : Method := { name := "<init>", desc := "()V", sig := { parameters := [], returnType := none }, accessFlags := 1, code := some k0c0 }
/-- java/lang/Object -/
def k0 : Class := { plain "java/lang/Object" none with
  accessFlags := 33
  interfaces := #[]
  cf := some (fileOf pool0 8 #[] #[{ accessFlags := 1, nameIndex := 5, descriptorIndex := 6, attributes := #[] }] 33 0 #[] #[])
  fields := #[]
  methods := #[k0m0]
  instanceTypes := #[]
  staticTypes := #[]
  resolved := Array.replicate 124 none
  statics := none }

def pool1 : Array CpInfo := pool [(2, .class_ 4), (1, u "java/lang/Object"), (0, u "<init>"), (0, u "()V"), (0, .integer 2147483647), (0, .class_ 9), (0, u "com/example/plain_bastion/plainbastion/ssh/TypedText"), (0, .fieldref 11 12), (0, .class_ 13), (0, .nameAndType 14 15), (0, u "com/example/plain_bastion/plainbastion/ssh/TypedText$WordErase"), (0, u "BLANKS"), (0, u "Lcom/example/plain_bastion/plainbastion/ssh/TypedText$WordErase;"), (0, .string 17), (0, u ""), (0, .methodref 8 19), (0, .nameAndType 5 20), (0, u "(Lcom/example/plain_bastion/plainbastion/ssh/TypedText$WordErase;Ljava/lang/String;Ljava/lang/String;)V"), (0, .methodref 8 22), (0, .nameAndType 23 24), (0, u "append"), (0, u "(B)V"), (0, .methodref 8 26), (0, .nameAndType 27 28), (0, u "moveTo"), (0, u "(I)V"), (0, .methodref 8 30), (0, .nameAndType 31 32), (0, u "at"), (0, u "(I)B"), (0, .class_ 34), (0, u "com/example/plain_bastion/plainbastion/ssh/TypedTextAtPinLaw"), (2, u "law"), (0, u "(IIIII)Z")] 5

def k1m0 : Method := { name := "<init>", desc := "()V", sig := { parameters := [], returnType := none }, accessFlags := 1, code := none }
def k1c1 : Code := { maxStack := 5, maxLocals := 15, code := code, exceptionTable := #[], attributes := #[] }
def k1m1 : Method := { name := "law", desc := "(IIIII)Z", sig := { parameters := [.int, .int, .int, .int, .int], returnType := some .boolean }, accessFlags := 9, code := some k1c1 }
/-- com/example/plain_bastion/plainbastion/ssh/TypedTextAtPinLaw -/
def k1 : Class := { plain "com/example/plain_bastion/plainbastion/ssh/TypedTextAtPinLaw" (some 0) with
  accessFlags := 49
  interfaces := #[]
  cf := some (fileOf pool1 33 #[] #[{ accessFlags := 1, nameIndex := 5, descriptorIndex := 6, attributes := #[] }, { accessFlags := 9, nameIndex := 37, descriptorIndex := 38, attributes := #[] }] 49 2 #[] #[])
  fields := #[]
  methods := #[k1m0, k1m1]
  instanceTypes := #[]
  staticTypes := #[]
  resolved := Array.replicate 44 none
  statics := none }

def pool2 : Array CpInfo := pool [(1, .methodref 2 3), (0, .class_ 4), (0, .nameAndType 5 6), (0, u "java/lang/Object"), (0, u "<init>"), (0, u "()V"), (0, .fieldref 8 9), (0, .class_ 10), (0, .nameAndType 11 12), (0, u "com/example/plain_bastion/plainbastion/ssh/TypedText"), (0, u "bytes"), (0, u "[B"), (0, .fieldref 8 14), (0, .nameAndType 15 16), (0, u "words"), (0, u "Lcom/example/plain_bastion/plainbastion/ssh/TypedText$WordErase;"), (0, .fieldref 8 18), (0, .nameAndType 19 20), (0, u "erases"), (0, u "Ljava/lang/String;"), (0, .fieldref 8 22), (0, .nameAndType 23 20), (0, u "characters"), (6, .fieldref 8 31), (0, .nameAndType 32 33), (0, u "cut"), (0, u "Z"), (0, .methodref 8 35), (0, .nameAndType 36 37), (0, u "length"), (0, u "()I"), (0, .fieldref 8 39), (0, .nameAndType 36 40), (0, u "I"), (0, .fieldref 8 42), (0, .nameAndType 43 40), (0, u "afterLength"), (2, u "pushed"), (2, u "passedAt"), (2, u "ahead"), (6, .fieldref 8 60), (0, .nameAndType 61 40), (0, u "told"), (0, .fieldref 8 63), (0, .nameAndType 64 40), (0, u "breaks"), (0, .integer 65536), (3, .methodref 70 71), (0, .class_ 72), (0, .nameAndType 73 74), (0, u "java/lang/System"), (0, u "arraycopy"), (0, u "(Ljava/lang/Object;ILjava/lang/Object;II)V"), (2, u "moveTo"), (0, u "(I)V"), (14, u "append"), (0, u "(B)V"), (4, .class_ 101), (1, u "com/example/plain_bastion/plainbastion/ssh/TypedText$WordErase"), (7, u "at"), (0, u "(I)B"), (35, u "MAX_BYTES"), (1, u "NUL"), (0, u "B"), (1, u "(Lcom/example/plain_bastion/plainbastion/ssh/TypedText$WordErase;Ljava/lang/String;Ljava/lang/String;)V")] 35

def k2c0 : Code := { maxStack := 2, maxLocals := 4, code := prog_61_method_1_code, exceptionTable := #[], attributes := #[] }
def k2m0 : Method := { name := "<init>", desc := "(Lcom/example/plain_bastion/plainbastion/ssh/TypedText$WordErase;Ljava/lang/String;Ljava/lang/String;)V", sig := { parameters := [(.object "com/example/plain_bastion/plainbastion/ssh/TypedText$WordErase"), (.object "java/lang/String"), (.object "java/lang/String")], returnType := none }, accessFlags := 0, code := some k2c0 }
def k2c1 : Code := { maxStack := 2, maxLocals := 1, code := prog_61_method_6_code, exceptionTable := #[], attributes := #[] }
def k2m1 : Method := { name := "length", desc := "()I", sig := { parameters := [], returnType := some .int }, accessFlags := 0, code := some k2c1 }
def k2c2 : Code := { maxStack := 5, maxLocals := 3, code := prog_61_method_18_code, exceptionTable := #[], attributes := #[] }
def k2m2 : Method := { name := "append", desc := "(B)V", sig := { parameters := [.byte], returnType := none }, accessFlags := 0, code := some k2c2 }
def k2c3 : Code := { maxStack := 3, maxLocals := 2, code := prog_61_method_19_code, exceptionTable := #[], attributes := #[] }
def k2m3 : Method := { name := "at", desc := "(I)B", sig := { parameters := [.int], returnType := some .byte }, accessFlags := 0, code := some k2c3 }
def k2c4 : Code := { maxStack := 5, maxLocals := 3, code := prog_61_method_20_code, exceptionTable := #[], attributes := #[] }
def k2m4 : Method := { name := "moveTo", desc := "(I)V", sig := { parameters := [.int], returnType := none }, accessFlags := 0, code := some k2c4 }
/-- com/example/plain_bastion/plainbastion/ssh/TypedText -/
def k2 : Class := { plain "com/example/plain_bastion/plainbastion/ssh/TypedText" (some 0) with
  accessFlags := 48
  interfaces := #[]
  cf := some (fileOf pool2 8 #[.nestMembers #[99]] #[{ accessFlags := 0, nameIndex := 5, descriptorIndex := 151, attributes := #[] }, { accessFlags := 0, nameIndex := 36, descriptorIndex := 37, attributes := #[] }, { accessFlags := 0, nameIndex := 93, descriptorIndex := 94, attributes := #[] }, { accessFlags := 0, nameIndex := 109, descriptorIndex := 110, attributes := #[] }, { accessFlags := 0, nameIndex := 77, descriptorIndex := 78, attributes := #[] }] 48 2 #[] #[{ accessFlags := 24, nameIndex := 146, descriptorIndex := 40, attributes := #[] }, { accessFlags := 26, nameIndex := 148, descriptorIndex := 149, attributes := #[] }, { accessFlags := 2, nameIndex := 11, descriptorIndex := 12, attributes := #[] }, { accessFlags := 2, nameIndex := 36, descriptorIndex := 40, attributes := #[] }, { accessFlags := 2, nameIndex := 43, descriptorIndex := 40, attributes := #[] }, { accessFlags := 2, nameIndex := 32, descriptorIndex := 33, attributes := #[] }, { accessFlags := 2, nameIndex := 61, descriptorIndex := 40, attributes := #[] }, { accessFlags := 2, nameIndex := 64, descriptorIndex := 40, attributes := #[] }, { accessFlags := 2, nameIndex := 46, descriptorIndex := 40, attributes := #[] }, { accessFlags := 2, nameIndex := 52, descriptorIndex := 40, attributes := #[] }, { accessFlags := 2, nameIndex := 49, descriptorIndex := 40, attributes := #[] }, { accessFlags := 18, nameIndex := 15, descriptorIndex := 16, attributes := #[] }, { accessFlags := 18, nameIndex := 19, descriptorIndex := 20, attributes := #[] }, { accessFlags := 18, nameIndex := 23, descriptorIndex := 20, attributes := #[] }])
  fields := #[{ name := "MAX_BYTES", type := .int, accessFlags := 24, slot := 0, constantValue := 0 }, { name := "NUL", type := .byte, accessFlags := 26, slot := 1, constantValue := 0 }, { name := "bytes", type := (.array .byte), accessFlags := 2, slot := 0, constantValue := 0 }, { name := "length", type := .int, accessFlags := 2, slot := 1, constantValue := 0 }, { name := "afterLength", type := .int, accessFlags := 2, slot := 2, constantValue := 0 }, { name := "cut", type := .boolean, accessFlags := 2, slot := 3, constantValue := 0 }, { name := "told", type := .int, accessFlags := 2, slot := 4, constantValue := 0 }, { name := "breaks", type := .int, accessFlags := 2, slot := 5, constantValue := 0 }, { name := "pushed", type := .int, accessFlags := 2, slot := 6, constantValue := 0 }, { name := "ahead", type := .int, accessFlags := 2, slot := 7, constantValue := 0 }, { name := "passedAt", type := .int, accessFlags := 2, slot := 8, constantValue := 0 }, { name := "words", type := (.object "com/example/plain_bastion/plainbastion/ssh/TypedText$WordErase"), accessFlags := 18, slot := 9, constantValue := 0 }, { name := "erases", type := (.object "java/lang/String"), accessFlags := 18, slot := 10, constantValue := 0 }, { name := "characters", type := (.object "java/lang/String"), accessFlags := 18, slot := 11, constantValue := 0 }]
  methods := #[k2m0, k2m1, k2m2, k2m3, k2m4]
  instanceTypes := #[(.array .byte), .int, .int, .boolean, .int, .int, .int, .int, .int, (.object "com/example/plain_bastion/plainbastion/ssh/TypedText$WordErase"), (.object "java/lang/String"), (.object "java/lang/String")]
  staticTypes := #[.int, .byte]
  resolved := Array.replicate 187 none
  statics := none }

def pool3 : Array CpInfo := pool [(1, .class_ 2), (0, u "java/lang/constant/Constable"), (0, .class_ 4), (0, u "java/lang/Object")] 6

/-- java/lang/constant/Constable -/
def k3 : Class := { plain "java/lang/constant/Constable" (some 0) with
  accessFlags := 1537
  interfaces := #[]
  cf := some (fileOf pool3 1 #[] #[] 1537 3 #[] #[])
  fields := #[]
  methods := #[]
  instanceTypes := #[]
  staticTypes := #[]
  resolved := Array.replicate 11 none
  statics := none }

def pool4 : Array CpInfo := pool [(1, .class_ 2), (0, u "java/lang/Comparable"), (0, .class_ 4), (0, u "java/lang/Object")] 7

/-- java/lang/Comparable -/
def k4 : Class := { plain "java/lang/Comparable" (some 0) with
  accessFlags := 1537
  interfaces := #[]
  cf := some (fileOf pool4 1 #[] #[] 1537 3 #[] #[])
  fields := #[]
  methods := #[]
  instanceTypes := #[]
  staticTypes := #[]
  resolved := Array.replicate 12 none
  statics := none }

def pool5 : Array CpInfo := pool [(1, .class_ 2), (0, u "java/io/Serializable"), (0, .class_ 4), (0, u "java/lang/Object")] 2

/-- java/io/Serializable -/
def k5 : Class := { plain "java/io/Serializable" (some 0) with
  accessFlags := 1537
  interfaces := #[]
  cf := some (fileOf pool5 1 #[] #[] 1537 3 #[] #[])
  fields := #[]
  methods := #[]
  instanceTypes := #[]
  staticTypes := #[]
  resolved := Array.replicate 7 none
  statics := none }

def pool6 : Array CpInfo := pool [(2, .class_ 4), (1, u "java/lang/Enum"), (0, u "name"), (0, u "Ljava/lang/String;"), (2, u "ordinal"), (0, u "I"), (1, .class_ 14), (1, u "java/lang/Object"), (4, u "hash"), (86, .class_ 108), (1, u "java/lang/Enum$EnumDesc"), (2, .class_ 112), (0, u "java/lang/constant/Constable"), (0, .class_ 114), (0, u "java/lang/Comparable"), (0, .class_ 116), (0, u "java/io/Serializable")] 87

/-- java/lang/Enum -/
def k6 : Class := { plain "java/lang/Enum" (some 0) with
  accessFlags := 1057
  interfaces := #[3, 4, 5]
  cf := some (fileOf pool6 2 #[.nestMembers #[106]] #[] 1057 12 #[111, 113, 115] #[{ accessFlags := 18, nameIndex := 5, descriptorIndex := 6, attributes := #[] }, { accessFlags := 18, nameIndex := 9, descriptorIndex := 10, attributes := #[] }, { accessFlags := 2, nameIndex := 19, descriptorIndex := 10, attributes := #[] }])
  fields := #[{ name := "name", type := (.object "java/lang/String"), accessFlags := 18, slot := 0, constantValue := 0 }, { name := "ordinal", type := .int, accessFlags := 18, slot := 1, constantValue := 0 }, { name := "hash", type := .int, accessFlags := 2, slot := 2, constantValue := 0 }]
  methods := #[]
  instanceTypes := #[(.object "java/lang/String"), .int, .int]
  staticTypes := #[]
  resolved := Array.replicate 204 none
  statics := none }

def pool7 : Array CpInfo := pool [(1, .class_ 2), (0, u "com/example/plain_bastion/plainbastion/ssh/TypedText$WordErase"), (2, u "BLANKS"), (0, u "Lcom/example/plain_bastion/plainbastion/ssh/TypedText$WordErase;"), (2, u "VI_INSERT"), (2, u "TERMINAL"), (2, u "$VALUES"), (0, u "[Lcom/example/plain_bastion/plainbastion/ssh/TypedText$WordErase;"), (6, .class_ 25), (1, u "java/lang/Enum"), (28, .class_ 56), (1, u "com/example/plain_bastion/plainbastion/ssh/TypedText")] 28

/-- com/example/plain_bastion/plainbastion/ssh/TypedText$WordErase -/
def k7 : Class := { plain "com/example/plain_bastion/plainbastion/ssh/TypedText$WordErase" (some 6) with
  accessFlags := 16432
  interfaces := #[]
  cf := some (fileOf pool7 1 #[.nestHost 54] #[] 16432 23 #[] #[{ accessFlags := 16409, nameIndex := 5, descriptorIndex := 6, attributes := #[] }, { accessFlags := 16409, nameIndex := 9, descriptorIndex := 6, attributes := #[] }, { accessFlags := 16409, nameIndex := 12, descriptorIndex := 6, attributes := #[] }, { accessFlags := 4122, nameIndex := 15, descriptorIndex := 16, attributes := #[] }])
  fields := #[{ name := "BLANKS", type := (.object "com/example/plain_bastion/plainbastion/ssh/TypedText$WordErase"), accessFlags := 16409, slot := 0, constantValue := 0 }, { name := "VI_INSERT", type := (.object "com/example/plain_bastion/plainbastion/ssh/TypedText$WordErase"), accessFlags := 16409, slot := 1, constantValue := 0 }, { name := "TERMINAL", type := (.object "com/example/plain_bastion/plainbastion/ssh/TypedText$WordErase"), accessFlags := 16409, slot := 2, constantValue := 0 }, { name := "$VALUES", type := (.array (.object "com/example/plain_bastion/plainbastion/ssh/TypedText$WordErase")), accessFlags := 4122, slot := 3, constantValue := 0 }]
  methods := #[]
  instanceTypes := #[(.object "java/lang/String"), .int, .int]
  staticTypes := #[(.object "com/example/plain_bastion/plainbastion/ssh/TypedText$WordErase"), (.object "com/example/plain_bastion/plainbastion/ssh/TypedText$WordErase"), (.object "com/example/plain_bastion/plainbastion/ssh/TypedText$WordErase"), (.array (.object "com/example/plain_bastion/plainbastion/ssh/TypedText$WordErase"))]
  resolved := Array.replicate 85 none
  statics := some 0 }

def pool8 : Array CpInfo := pool [(2, .class_ 4), (1, u "java/lang/CharSequence"), (42, .class_ 48), (0, u "java/lang/CharSequence$1CodePointIterator"), (10, .class_ 60), (0, u "java/lang/CharSequence$1CharIterator"), (5, .class_ 67), (0, u "java/lang/Object")] 63

/-- java/lang/CharSequence -/
def k8 : Class := { plain "java/lang/CharSequence" (some 0) with
  accessFlags := 1537
  interfaces := #[]
  cf := some (fileOf pool8 2 #[.nestMembers #[47, 59]] #[] 1537 66 #[] #[])
  fields := #[]
  methods := #[]
  instanceTypes := #[]
  staticTypes := #[]
  resolved := Array.replicate 131 none
  statics := none }

def pool9 : Array CpInfo := pool [(1, .class_ 2), (0, u "java/lang/constant/ConstantDesc"), (0, .class_ 4), (0, u "java/lang/Object")] 32

/-- java/lang/constant/ConstantDesc -/
def k9 : Class := { plain "java/lang/constant/ConstantDesc" (some 0) with
  accessFlags := 1537
  interfaces := #[]
  cf := some (fileOf pool9 1 #[] #[] 1537 3 #[] #[])
  fields := #[]
  methods := #[]
  instanceTypes := #[]
  staticTypes := #[]
  resolved := Array.replicate 37 none
  statics := none }

def pool10 : Array CpInfo := pool [(2, .class_ 4), (1, u "java/lang/Object"), (0, u "<init>"), (0, u "()V"), (3, .class_ 12), (1, u "java/lang/String"), (0, u "value"), (0, u "[B"), (2, u "coder"), (0, u "B"), (2, u "hash"), (0, u "I"), (2, u "hashIsZero"), (0, u "Z"), (13, u "COMPACT_STRINGS"), (534, .class_ 576), (0, u "java/lang/CharSequence"), (22, u "CASE_INSENSITIVE_ORDER"), (0, u "Ljava/util/Comparator;"), (500, u "serialPersistentFields"), (0, u "[Ljava/io/ObjectStreamField;"), (0, .class_ 1104), (0, u "java/lang/String$CaseInsensitiveComparator"), (1, .class_ 1107), (0, u "java/io/Serializable"), (0, .class_ 1109), (0, u "java/lang/Comparable"), (0, .class_ 1111), (0, u "java/lang/constant/Constable"), (0, .class_ 1113), (0, u "java/lang/constant/ConstantDesc"), (2, u "serialVersionUID"), (0, u "J"), (3, u "REPL"), (0, u "C"), (2, u "LATIN1"), (1, u "UTF16")] 323

def k10m0 : Method := { name := "<init>", desc := "()V", sig := { parameters := [], returnType := none }, accessFlags := 1, code := none }
/-- java/lang/String -/
def k10 : Class := { plain "java/lang/String" (some 0) with
  accessFlags := 49
  interfaces := #[5, 4, 8, 3, 9]
  cf := some (fileOf pool10 10 #[.nestMembers #[1103]] #[{ accessFlags := 1, nameIndex := 5, descriptorIndex := 6, attributes := #[] }] 49 2 #[1106, 1108, 575, 1110, 1112] #[{ accessFlags := 18, nameIndex := 13, descriptorIndex := 14, attributes := #[] }, { accessFlags := 18, nameIndex := 17, descriptorIndex := 18, attributes := #[] }, { accessFlags := 2, nameIndex := 21, descriptorIndex := 22, attributes := #[] }, { accessFlags := 2, nameIndex := 25, descriptorIndex := 26, attributes := #[] }, { accessFlags := 26, nameIndex := 1116, descriptorIndex := 1117, attributes := #[] }, { accessFlags := 24, nameIndex := 40, descriptorIndex := 26, attributes := #[] }, { accessFlags := 26, nameIndex := 1101, descriptorIndex := 1102, attributes := #[] }, { accessFlags := 26, nameIndex := 1121, descriptorIndex := 1122, attributes := #[] }, { accessFlags := 25, nameIndex := 599, descriptorIndex := 600, attributes := #[] }, { accessFlags := 24, nameIndex := 1125, descriptorIndex := 18, attributes := #[] }, { accessFlags := 24, nameIndex := 1127, descriptorIndex := 18, attributes := #[] }])
  fields := #[{ name := "value", type := (.array .byte), accessFlags := 18, slot := 0, constantValue := 0 }, { name := "coder", type := .byte, accessFlags := 18, slot := 1, constantValue := 0 }, { name := "hash", type := .int, accessFlags := 2, slot := 2, constantValue := 0 }, { name := "hashIsZero", type := .boolean, accessFlags := 2, slot := 3, constantValue := 0 }, { name := "serialVersionUID", type := .long, accessFlags := 26, slot := 0, constantValue := 0 }, { name := "COMPACT_STRINGS", type := .boolean, accessFlags := 24, slot := 1, constantValue := 0 }, { name := "serialPersistentFields", type := (.array (.object "java/io/ObjectStreamField")), accessFlags := 26, slot := 2, constantValue := 0 }, { name := "REPL", type := .char, accessFlags := 26, slot := 3, constantValue := 0 }, { name := "CASE_INSENSITIVE_ORDER", type := (.object "java/util/Comparator"), accessFlags := 25, slot := 4, constantValue := 0 }, { name := "LATIN1", type := .byte, accessFlags := 24, slot := 5, constantValue := 0 }, { name := "UTF16", type := .byte, accessFlags := 24, slot := 6, constantValue := 0 }]
  methods := #[k10m0]
  instanceTypes := #[(.array .byte), .byte, .int, .boolean]
  staticTypes := #[.long, .boolean, (.array (.object "java/io/ObjectStreamField")), .char, (.object "java/util/Comparator"), .byte, .byte]
  resolved := Array.replicate 1451 none
  statics := none }

def pool11 : Array CpInfo := pool [(2, .class_ 4), (1, u "java/lang/Object"), (0, u "<init>"), (0, u "()V"), (1, .class_ 10), (1, u "java/lang/System"), (0, u "allowSecurityManager"), (0, u "I"), (16, u "cons"), (0, u "Ljava/io/Console;"), (77, .class_ 110), (1, u "java/lang/System$CallersHolder"), (43, u "initialErrStream"), (0, u "Ljava/io/PrintStream;"), (19, u "security"), (0, u "Ljava/lang/SecurityManager;"), (31, .class_ 209), (0, u "java/lang/System$1"), (7, u "props"), (0, u "Ljava/util/Properties;"), (2, u "lineSeparator"), (0, u "Ljava/lang/String;"), (96, .class_ 321), (1, u "java/lang/System$LoggerFinder"), (5, .class_ 328), (0, u "java/lang/System$Logger"), (67, u "err"), (2, u "out"), (91, u "notSupportedJnuEncoding"), (15, u "in"), (17, u "initialIn"), (0, u "Ljava/io/InputStream;"), (35, u "bootLayer"), (0, u "Ljava/lang/ModuleLayer;"), (99, .class_ 664), (0, u "java/lang/System$2"), (9, u "NEVER"), (2, u "MAYBE"), (49, u "arraycopy"), (0, u "(Ljava/lang/Object;ILjava/lang/Object;II)V"), (72, .class_ 802), (0, u "java/lang/System$Logger$Level")] 31

def k11m0 : Method := { name := "<init>", desc := "()V", sig := { parameters := [], returnType := none }, accessFlags := 2, code := none }
def k11m1 : Method := { name := "arraycopy", desc := "(Ljava/lang/Object;ILjava/lang/Object;II)V", sig := { parameters := [(.object "java/lang/Object"), .int, (.object "java/lang/Object"), .int, .int], returnType := none }, accessFlags := 265, code := none }
/-- java/lang/System -/
def k11 : Class := { plain "java/lang/System" (some 0) with
  accessFlags := 49
  interfaces := #[]
  cf := some (fileOf pool11 8 #[.nestMembers #[319, 327, 801, 108, 663, 208]] #[{ accessFlags := 2, nameIndex := 5, descriptorIndex := 6, attributes := #[] }, { accessFlags := 265, nameIndex := 727, descriptorIndex := 728, attributes := #[] }] 49 2 #[] #[{ accessFlags := 25, nameIndex := 507, descriptorIndex := 526, attributes := #[] }, { accessFlags := 25, nameIndex := 399, descriptorIndex := 155, attributes := #[] }, { accessFlags := 25, nameIndex := 396, descriptorIndex := 155, attributes := #[] }, { accessFlags := 10, nameIndex := 525, descriptorIndex := 526, attributes := #[] }, { accessFlags := 26, nameIndex := 674, descriptorIndex := 12, attributes := #[] }, { accessFlags := 26, nameIndex := 677, descriptorIndex := 12, attributes := #[] }, { accessFlags := 10, nameIndex := 11, descriptorIndex := 12, attributes := #[] }, { accessFlags := 74, nameIndex := 175, descriptorIndex := 176, attributes := #[] }, { accessFlags := 10, nameIndex := 491, descriptorIndex := 222, attributes := #[] }, { accessFlags := 74, nameIndex := 29, descriptorIndex := 30, attributes := #[] }, { accessFlags := 74, nameIndex := 154, descriptorIndex := 155, attributes := #[] }, { accessFlags := 10, nameIndex := 217, descriptorIndex := 218, attributes := #[] }, { accessFlags := 10, nameIndex := 221, descriptorIndex := 222, attributes := #[] }, { accessFlags := 8, nameIndex := 562, descriptorIndex := 563, attributes := #[] }])
  fields := #[{ name := "in", type := (.object "java/io/InputStream"), accessFlags := 25, slot := 0, constantValue := 0 }, { name := "out", type := (.object "java/io/PrintStream"), accessFlags := 25, slot := 1, constantValue := 0 }, { name := "err", type := (.object "java/io/PrintStream"), accessFlags := 25, slot := 2, constantValue := 0 }, { name := "initialIn", type := (.object "java/io/InputStream"), accessFlags := 10, slot := 3, constantValue := 0 }, { name := "NEVER", type := .int, accessFlags := 26, slot := 4, constantValue := 0 }, { name := "MAYBE", type := .int, accessFlags := 26, slot := 5, constantValue := 0 }, { name := "allowSecurityManager", type := .int, accessFlags := 10, slot := 6, constantValue := 0 }, { name := "security", type := (.object "java/lang/SecurityManager"), accessFlags := 74, slot := 7, constantValue := 0 }, { name := "notSupportedJnuEncoding", type := (.object "java/lang/String"), accessFlags := 10, slot := 8, constantValue := 0 }, { name := "cons", type := (.object "java/io/Console"), accessFlags := 74, slot := 9, constantValue := 0 }, { name := "initialErrStream", type := (.object "java/io/PrintStream"), accessFlags := 74, slot := 10, constantValue := 0 }, { name := "props", type := (.object "java/util/Properties"), accessFlags := 10, slot := 11, constantValue := 0 }, { name := "lineSeparator", type := (.object "java/lang/String"), accessFlags := 10, slot := 12, constantValue := 0 }, { name := "bootLayer", type := (.object "java/lang/ModuleLayer"), accessFlags := 8, slot := 13, constantValue := 0 }]
  methods := #[k11m0, k11m1]
  instanceTypes := #[]
  staticTypes := #[(.object "java/io/InputStream"), (.object "java/io/PrintStream"), (.object "java/io/PrintStream"), (.object "java/io/InputStream"), .int, .int, .int, (.object "java/lang/SecurityManager"), (.object "java/lang/String"), (.object "java/io/Console"), (.object "java/io/PrintStream"), (.object "java/util/Properties"), (.object "java/lang/String"), (.object "java/lang/ModuleLayer")]
  resolved := Array.replicate 834 none
  statics := none }

def pool12 : Array CpInfo := pool [(1, u "java/lang/Cloneable"), (0, .class_ 1), (0, u "java/lang/Object"), (0, .class_ 3)] 3

/-- java/lang/Cloneable -/
def k12 : Class := { plain "java/lang/Cloneable" (some 0) with
  accessFlags := 1537
  interfaces := #[]
  cf := some (fileOf pool12 2 #[] #[] 1537 4 #[] #[])
  fields := #[]
  methods := #[]
  instanceTypes := #[]
  staticTypes := #[]
  resolved := Array.replicate 8 none
  statics := none }

/-- the primitive byte -/
def k13 : Class := { plain "byte" none with kind := .primitive 'B', accessFlags := 0x411 }
/-- [B -/
def k14 : Class := { plain "[B" (some 0) with kind := .array 13 .byte, interfaces := #[12, 5], accessFlags := 1041 }

/-- the primitive int -/
def k15 : Class := { plain "int" none with kind := .primitive 'I', accessFlags := 0x411 }
/-- [I -/
def k16 : Class := { plain "[I" (some 0) with kind := .array 15 .int, interfaces := #[12, 5], accessFlags := 1041 }

def heap : Heap := #[{ cls := 7, slots := #[.ref 1, .null, .null, .null], vm := .statics 7 },
  { cls := 7, slots := #[.null, .int 0, .int 0], vm := .none }]
def classes : Array Class := #[k0, k1, k2, k3, k4, k5, k6, k7, k8, k9, k10, k11, k12, k13, k14, k15, k16]
def interned : List (Array UInt16 × Addr) := []
def slotsUsed : Nat := 7
def theMethod : MethodId := ⟨1, 1⟩
def args0 : Array Value := #[.int 5, .int 9, .int 3, .int 4, .int 1]
def aboutOver (below : List Frame) : State where
  vm := { classes := classes, interned := interned.toArray }
  heap := heap
  slotsUsed := slotsUsed
  threads := #[{ frames := .invoking theMethod args0 :: below }]
def below0 : List Frame := [.native { method := ⟨0, 0⟩, args := #[] }]
def about1 : State := aboutOver below0
def p0 : Program := .bare "" "" ""
def e0 : Env := launch0.env 0 0 0
theorem w_frames : about1.frames = Frame.invoking theMethod args0 :: below0 := rfl
set_option maxRecDepth 65536 in
theorem w_args : argsFit about1.vm theMethod args0 = true := by decide +kernel
set_option maxRecDepth 65536 in
theorem w_heap : heapFits about1 = true := by decide +kernel
set_option maxRecDepth 65536 in
theorem w_runnable : about1.curStatus? = some .runnable := by decide +kernel
set_option maxRecDepth 65536 in
theorem w_alone : about1.alone = true := by decide +kernel
set_option maxRecDepth 65536 in
theorem w_named : about1.methodNamed? x = some theMethod := by decide +kernel
set_option maxRecDepth 65536 in
theorem w_hears : about1.hears theMethod below0 = true := by decide +kernel
set_option maxRecDepth 65536 in
theorem w_ripe : about1.ripe theMethod args0 below0 = true := by decide +kernel
theorem w_running : about1.status = .running := rfl
set_option maxRecDepth 65536 in
theorem w_room : about1.hasRoom e0.platform room_1 = true :=
  launch0.hasRoom_least _ room_1 (by decide +kernel) (by decide +kernel) (by decide +kernel) (by decide +kernel) (by decide +kernel) (by decide +kernel)
theorem allAtoms_all (ts : List Jvm.Cond) (a : Array Jvm.Value) (st : Jvm.State) : (allAtoms ts).before a st = ts.all (fun c => c.before a st) := by
  induction ts with
  | nil => rfl
  | cons c t ih =>
    show (Jvm.Cond.and c (allAtoms t)).before a st = _
    rw [Jvm.Cond.before_and, ih, List.all_cons]
def words1 : List Jvm.Cond := Jvm.Cond.code x code maxLocals ret :: tables_1
/-- a 'code' word, met by the world's own term for the bytes: nothing is compared byte by byte -/
theorem code_word {y : MethodName} {bytes : ByteArray} {mx : Nat} {rt : Option FieldType} {a : Array Value} {s : State} {m : MethodId} {meth : Method} {c : Code} (h1 : s.methodNamed? y = some m) (h2 : s.vm.method? m = some meth) (h3 : meth.code = some c) (h4 : c.code = bytes)
    (h5 : (c.maxLocals == mx && c.exceptionTable.isEmpty && decide (c.maxStack ≤ mostOperands) && decide (meth.sig.returnType = rt) && !meth.locks && decide (parseMethodDescriptor y.desc = some meth.sig)) = true) : (Jvm.Cond.code y bytes mx rt).before a s = true := by
  simp only [Bool.and_eq_true, beq_iff_eq, Bool.not_eq_true', decide_eq_true_eq] at h5
  obtain ⟨⟨⟨⟨⟨g1, g2⟩, g3⟩, g4⟩, g5⟩, g6⟩ := h5
  simp [Cond.before, Cond.holds, Cond.value, h1, h2, h3, h4, g1, g2, g3, g4, g5, g6]
def isCode : Jvm.Cond → Bool
  | .code _ _ _ _ => true
  | _ => false
theorem all_split {L : List Jvm.Cond} {P : Jvm.Cond → Bool} (h1 : L.all (fun c => isCode c || P c) = true) (h2 : ∀ c ∈ L.filter isCode, P c = true) : L.all P = true := by
  refine List.all_eq_true.mpr fun c hc => ?_
  have h := List.all_eq_true.mp h1 c hc
  rcases Bool.eq_false_or_eq_true (isCode c) with hi | hi
  · exact h2 c (List.mem_filter.mpr ⟨hc, hi⟩)
  · simpa [hi] using h
set_option maxRecDepth 65536 in
theorem w_c0 : (Jvm.Cond.code x code maxLocals ret).before args0 about1 = true := code_word (m := ⟨1, 1⟩) (meth := k1m1) (c := k1c1) (by decide +kernel) rfl rfl rfl (by decide +kernel)
set_option maxRecDepth 65536 in
theorem w_c1 : (Jvm.Cond.code ({ cls := "com/example/plain_bastion/plainbastion/ssh/TypedText", name := "<init>", desc := "(Lcom/example/plain_bastion/plainbastion/ssh/TypedText$WordErase;Ljava/lang/String;Ljava/lang/String;)V" } : Jvm.MethodName) prog_61_method_1_code (4 : Nat) (Option.none : Option Jvm.ClassFile.FieldType)).before args0 about1 = true := code_word (m := ⟨2, 0⟩) (meth := k2m0) (c := k2c0) (by decide +kernel) rfl rfl rfl (by decide +kernel)
set_option maxRecDepth 65536 in
theorem w_c2 : (Jvm.Cond.code ({ cls := "java/lang/Object", name := "<init>", desc := "()V" } : Jvm.MethodName) object_method_1_code (1 : Nat) (Option.none : Option Jvm.ClassFile.FieldType)).before args0 about1 = true := code_word (m := ⟨0, 0⟩) (meth := k0m0) (c := k0c0) (by decide +kernel) rfl rfl rfl (by decide +kernel)
set_option maxRecDepth 65536 in
theorem w_c3 : (Jvm.Cond.code ({ cls := "com/example/plain_bastion/plainbastion/ssh/TypedText", name := "append", desc := "(B)V" } : Jvm.MethodName) prog_61_method_18_code (3 : Nat) (Option.none : Option Jvm.ClassFile.FieldType)).before args0 about1 = true := code_word (m := ⟨2, 2⟩) (meth := k2m2) (c := k2c2) (by decide +kernel) rfl rfl rfl (by decide +kernel)
set_option maxRecDepth 65536 in
theorem w_c4 : (Jvm.Cond.code ({ cls := "com/example/plain_bastion/plainbastion/ssh/TypedText", name := "length", desc := "()I" } : Jvm.MethodName) prog_61_method_6_code (1 : Nat) (Option.some Jvm.ClassFile.FieldType.int)).before args0 about1 = true := code_word (m := ⟨2, 1⟩) (meth := k2m1) (c := k2c1) (by decide +kernel) rfl rfl rfl (by decide +kernel)
set_option maxRecDepth 65536 in
theorem w_c5 : (Jvm.Cond.code ({ cls := "com/example/plain_bastion/plainbastion/ssh/TypedText", name := "moveTo", desc := "(I)V" } : Jvm.MethodName) prog_61_method_20_code (3 : Nat) (Option.none : Option Jvm.ClassFile.FieldType)).before args0 about1 = true := code_word (m := ⟨2, 4⟩) (meth := k2m4) (c := k2c4) (by decide +kernel) rfl rfl rfl (by decide +kernel)
set_option maxRecDepth 65536 in
theorem w_c6 : (Jvm.Cond.code ({ cls := "com/example/plain_bastion/plainbastion/ssh/TypedText", name := "at", desc := "(I)B" } : Jvm.MethodName) prog_61_method_19_code (2 : Nat) (Option.some Jvm.ClassFile.FieldType.byte)).before args0 about1 = true := code_word (m := ⟨2, 3⟩) (meth := k2m3) (c := k2c3) (by decide +kernel) rfl rfl rfl (by decide +kernel)
def codes1 : List Jvm.Cond := [Jvm.Cond.code x code maxLocals ret, Jvm.Cond.code ({ cls := "com/example/plain_bastion/plainbastion/ssh/TypedText", name := "<init>", desc := "(Lcom/example/plain_bastion/plainbastion/ssh/TypedText$WordErase;Ljava/lang/String;Ljava/lang/String;)V" } : Jvm.MethodName) prog_61_method_1_code (4 : Nat) (Option.none : Option Jvm.ClassFile.FieldType), Jvm.Cond.code ({ cls := "java/lang/Object", name := "<init>", desc := "()V" } : Jvm.MethodName) object_method_1_code (1 : Nat) (Option.none : Option Jvm.ClassFile.FieldType), Jvm.Cond.code ({ cls := "com/example/plain_bastion/plainbastion/ssh/TypedText", name := "append", desc := "(B)V" } : Jvm.MethodName) prog_61_method_18_code (3 : Nat) (Option.none : Option Jvm.ClassFile.FieldType), Jvm.Cond.code ({ cls := "com/example/plain_bastion/plainbastion/ssh/TypedText", name := "length", desc := "()I" } : Jvm.MethodName) prog_61_method_6_code (1 : Nat) (Option.some Jvm.ClassFile.FieldType.int), Jvm.Cond.code ({ cls := "com/example/plain_bastion/plainbastion/ssh/TypedText", name := "moveTo", desc := "(I)V" } : Jvm.MethodName) prog_61_method_20_code (3 : Nat) (Option.none : Option Jvm.ClassFile.FieldType), Jvm.Cond.code ({ cls := "com/example/plain_bastion/plainbastion/ssh/TypedText", name := "at", desc := "(I)B" } : Jvm.MethodName) prog_61_method_19_code (2 : Nat) (Option.some Jvm.ClassFile.FieldType.byte)]
set_option maxRecDepth 65536 in
theorem codes_eq : words1.filter isCode = codes1 := rfl
theorem w_codes : ∀ c ∈ words1.filter isCode, c.before args0 about1 = true := by
  rw [codes_eq]
  intro c hc
  simp only [codes1, List.mem_cons, List.not_mem_nil, or_false] at hc
  rcases hc with rfl | rfl | rfl | rfl | rfl | rfl | rfl
  · exact w_c0
  · exact w_c1
  · exact w_c2
  · exact w_c3
  · exact w_c4
  · exact w_c5
  · exact w_c6
set_option maxRecDepth 65536 in
theorem w_t1 : (words1.take 24).all (fun c => isCode c || c.before args0 about1) = true := by decide +kernel
set_option maxRecDepth 65536 in
theorem w_t2 : ((words1.drop 24).take 24).all (fun c => isCode c || c.before args0 about1) = true := by decide +kernel
set_option maxRecDepth 65536 in
theorem w_t3 : ((words1.drop 24).drop 24).all (fun c => isCode c || c.before args0 about1) = true := by decide +kernel
theorem w_tables : (allAtoms (Jvm.Cond.code x code maxLocals ret :: tables_1)).before args0 about1 = true := by
  rw [allAtoms_all]
  show words1.all (fun c => c.before args0 about1) = true
  refine all_split ?_ w_codes
  rw [← List.take_append_drop 24 words1, List.all_append, w_t1, ← List.take_append_drop 24 (words1.drop 24), List.all_append, w_t2, w_t3]
  rfl
set_option maxRecDepth 65536 in
theorem w_case : (Jvm.Cond.and given_1 narrow_1).before args0 about1 = true := by decide +kernel
theorem w_applies : (headSpec (Jvm.Cond.code x code maxLocals ret :: tables_1) room_1).applies x e0.platform about1 = true :=
  (Spec.applies_iff w_frames).mpr ⟨w_running, w_runnable, w_alone, w_named, w_hears, w_ripe, w_room, w_tables⟩
theorem atStart : AtStart classFile x code maxLocals ret World_1 tables_1 room_1 Calls_1 rest_1 Pre_1 launch0 p0 e0 about1 theMethod args0 below0 :=
  ⟨lists_1, trivial, launch0.admits_env _ _ _, launch0.least_env, fairChoices_fair.cas, fairChoices_fair.clock, w_frames, w_args, w_heap, w_applies, trivial, trivial, w_case⟩
end start1
theorem witness_1 : WitnessClaimed_1 := ⟨start1.p0, start1.e0, start1.about1, start1.theMethod, start1.args0, start1.below0, start1.atStart⟩
end Jvm.Pilot.@@N@@
