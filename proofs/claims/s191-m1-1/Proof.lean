import JvmDerived
import JvmDerived.Pilot.@@N@@Statement
import JvmDerived.Pilot.@@N@@Code
set_option linter.unusedVariables false
set_option linter.unusedSimpArgs false
@@BLOCK:NumsL.lean.txt@@
namespace Jvm.RoadKit
open Sem ClassFile Op Lib Jvm.Stand Jvm.Free Jvm.LawKit
section New
variable {p : Program} {l : Launch} {e : Env} {R : Room} {s : State} {m : MethodId} {args : Array Value} {below : List Frame} {meth : Method} {c : Code} {T : State} {locs : List Loc} {cells slots : Nat}
theorem retI (X : Stand p l e R s m args below meth c T locs cells slots) (hx : p.tables.exec = Jvm.exec) {pc : Nat} {Ls : Array Slot} {z : Int32} {rest : List Value} (hret : meth.sig.returnType = some .int) (hd : decode c.code pc = .ok (.ireturn, 1)) {fs : List Frame}
    (hl : ∀ (f : JFrame) (acts : List Action), f.method = m → f.locked = none → f.entered = [] → (doReturn e (T.setTop f) acts (some (.int z))).1 = T.setFrames fs) : Steps p.tables e below (T.setTop (mkF m pc Ls (.int z :: rest))) (T.setFrames fs) := by
  have hm' : T.vm.method? m = some meth := X.method'
  have hn : narrow .int (.int z) = .int z := rfl
  show Steps p.tables e below (T.setTop { method := m, pc := pc, locals := Ls, stack := _ :: rest, locked := none }) _
  jvm_step X.here [X.here.top, hx, hd, hm', hret, hn]
  first | (intro acts; rw [hl _ acts rfl rfl rfl]) | rw [hl _ _ rfl rfl rfl]
  exact Steps.refl _
end New
end Jvm.RoadKit
namespace Jvm.Pilot.@@N@@
open Jvm Jvm.ClassFile Sem Op Lib Jvm.Free Jvm.Stand Jvm.LawKit Jvm.RoadKit Bundle Jvm.Pilot.@@N@@.Jvm.D

theorem own_nar (x : Int32) : nar .byte (x.toInt8.toInt32) = x.toInt8.toInt32 := by
  show (x.toInt8.toInt32).toInt8.toInt32 = _
  rw [Int8.toInt8_toInt32]
theorem own_arr {Z : State} {h h' : Heap} {a : Addr} {c : Cell} {ws : List Addr} (A : Arr Z h a c .byte) (K : Keep h h' ws) (q : a ∉ ws) : Arr Z h' a c .byte := ⟨K.2.1 a c A.1 q, A.2⟩
theorem own_tab {Z s : State} {a0 args : Array Value} (hZ : Z.Warmed39 s.vm) (hw : ∀ d ∈ tables_1, d.before a0 Z = true) : Jvm.Free.JA.CopyOfB.tab.before args s = true := by
  refine Jvm.Free.XT.unparts (mvT hZ (hw _ (List.mem_of_getElem? (i := 13) rfl))) fun w hm => ?_
  have hm' : w ∈ ([.initialized "java/util/Arrays", .classLink "java/util/Arrays" 311 "[B", .castable "[B" "[B", .arrayClass .byte, Jvm.Free.JP.Math_min_II.tab, .methodLink "java/util/Arrays" 310 ⟨"[B", "clone", "()Ljava/lang/Object;"⟩, .sameMethod "[B" "java/lang/Object" "clone" "()Ljava/lang/Object;", .native ⟨"java/lang/Object", "clone", "()Ljava/lang/Object;"⟩, .instanceMethod ⟨"java/lang/Object", "clone", "()Ljava/lang/Object;"⟩, .selects "[B" ⟨"[B", "clone", "()Ljava/lang/Object;"⟩ ⟨"java/lang/Object", "clone", "()Ljava/lang/Object;"⟩, .castable "[B" "java/lang/Cloneable", .methodLink "java/util/Arrays" 304 ⟨"java/lang/Math", "min", "(II)I"⟩, .static ⟨"java/lang/Math", "min", "(II)I"⟩, .methodLink "java/util/Arrays" 150 ⟨"java/lang/System", "arraycopy", "(Ljava/lang/Object;ILjava/lang/Object;II)V"⟩, .native ⟨"java/lang/System", "arraycopy", "(Ljava/lang/Object;ILjava/lang/Object;II)V"⟩, .static ⟨"java/lang/System", "arraycopy", "(Ljava/lang/Object;ILjava/lang/Object;II)V"⟩, .initialized "java/lang/System"] : List Jvm.Cond) := hm
  simp only [List.mem_cons, List.not_mem_nil, or_false] at hm'
  rcases hm' with rfl | rfl | rfl | rfl | rfl | rfl | rfl | rfl | rfl | rfl | rfl | rfl | rfl | rfl | rfl | rfl | rfl
  · exact mvT hZ (hw _ (List.mem_of_getElem? (i := 12) rfl))
  · exact mvT hZ (hw _ (List.mem_of_getElem? (i := 21) rfl))
  · exact mvT hZ (hw _ (List.mem_of_getElem? (i := 22) rfl))
  · exact mvA hZ (hw _ (List.mem_of_getElem? (i := 0) rfl))
  · refine Jvm.Free.XT.unparts (mvT hZ (hw _ (List.mem_of_getElem? (i := 55) rfl))) fun w hm => ?_
    have hm' : w ∈ ([.initialized "java/lang/Math"] : List Jvm.Cond) := hm
    cases List.mem_singleton.mp hm'
    exact mvT hZ (hw _ (List.mem_of_getElem? (i := 54) rfl))
  · exact mvT hZ (hw _ (List.mem_of_getElem? (i := 14) rfl))
  · exact mvT hZ (hw _ (List.mem_of_getElem? (i := 15) rfl))
  · exact mvT hZ (hw _ (List.mem_of_getElem? (i := 19) rfl))
  · exact mvT hZ (hw _ (List.mem_of_getElem? (i := 17) rfl))
  · exact mvT hZ (hw _ (List.mem_of_getElem? (i := 18) rfl))
  · exact mvT hZ (hw _ (List.mem_of_getElem? (i := 20) rfl))
  · exact mvT hZ (hw _ (List.mem_of_getElem? (i := 52) rfl))
  · exact mvT hZ (hw _ (List.mem_of_getElem? (i := 53) rfl))
  · exact mvT hZ (hw _ (List.mem_of_getElem? (i := 56) rfl))
  · exact mvT hZ (hw _ (List.mem_of_getElem? (i := 59) rfl))
  · exact mvT hZ (hw _ (List.mem_of_getElem? (i := 57) rfl))
  · exact mvT hZ (hw _ (List.mem_of_getElem? (i := 58) rfl))

theorem own_P {Z s : State} {vm : Vm} {T : State} {h : Heap} {a1 : Addr} {cl : Cell} {n : Nat} {x : Int32} (hZ : Z.Warmed39 s.vm) (hv : s.WarmedH vm) (e : T.heap = h) (Ar : Arr Z h a1 cl .byte) (Ex : Exa Z h a1 "[B") (hs : cl.slots.size < 2 ^ 31) (Ty : ∀ (i : Nat) (v : Value), cl.slots[i]? = some v → fits .byte v = true) (hx : x = Int32.ofNat n) (hn : n ≤ 536870912) :
    Jvm.Free.JA.CopyOfB.P a1 cl n #[.ref a1, .int x] (T.setVm vm) := by
  have hal : Z.vm.Alike vm := hZ.alike.trans hv.alike
  obtain ⟨cell, k, q1, q2, -⟩ := Ex
  cases q1.symm.trans Ar.1
  exact ⟨by rw [hx], ⟨by show T.heap[a1]? = _; rw [e]; exact Ar.1, State.isArrayOf_alike (s := Z) (T := T.setVm vm) hal Ar.2.1, Ar.2.2, hs⟩, by show vm.findClass "[B" = _; rw [hal.findClass]; exact q2, Ty, hn⟩
theorem own_new {Z A U : State} {h : Heap} {n : Nat} {f : Nat → Value} {r : Option Value} (e : A.heap = h) (hal : Z.vm.Alike U.vm) (H : Jvm.Free.XT.NewArr .byte "[B" n f r A U) :
    r = some (.ref h.size) ∧ Keep h U.heap [] ∧ ∃ B : Cell, Arr Z U.heap h.size B .byte ∧ B.slots.size = n ∧ ∀ j : Nat, j < n → B.slots[j]? = some (f j) := by
  subst e
  obtain ⟨hr, B, q1, q2, q3, q4, q5, q6⟩ := H
  have hb := (Array.getElem?_eq_some_iff.mp q1.1).1
  refine ⟨hr, ⟨Nat.le_of_lt hb, fun x c hc _ => q6 x c hc, fun x c hc => ⟨c, q6 x c hc, rfl, rfl, rfl⟩⟩, B, ⟨q1.1, State.isArrayOf_alike (s := U) (T := Z) hal.symm q1.2.1, q1.2.2.1⟩, q4, q5⟩
theorem d5_0 : decode jdk_30_method_1_code 0 = .ok (.aload_n 0, 1) := by decide +kernel
theorem d5_1 : decode jdk_30_method_1_code 1 = .ok (.invokespecial 1, 3) := by decide +kernel
theorem d5_4 : decode jdk_30_method_1_code 4 = .ok (.return_, 1) := by decide +kernel
theorem pn_5 : plainName "java/lang/Record" = true := by first | (simp [plainName, overriddenIn]; done) | decide +kernel
theorem ef_5 (m : MethodId) (x0 : Addr) : entryFrame m #[(.ref x0)] 1 = mkF m 0 #[.val (.ref x0)] [] := by first | (simp [entryFrame, mkF, argsToLocals, Value.category]; done) | rfl
def Q5 (Z : State) (a1 : Addr) (h0 : Heap) (n0 : Nat) (v : Option Value) (h : Heap) (L : List Loc) : Prop := v = none ∧ Fr n0 L ∧ h = h0
set_option maxRecDepth 65536 in
set_option maxHeartbeats 40000000 in
theorem rm5 (l : Launch) (Z : State) (a0 : Array Value) (hw : ∀ d ∈ tables_1, d.before a0 Z = true) (ws : List Jvm.Cond) (a1 : Addr) (h0 : Heap) (n0 : Nat) (Z0 : n0 ≤ h0.size) :
    MetFree l (⟨"java/lang/Record", "<init>", "()V"⟩ : MethodName) (head1 (Jvm.Cond.code (⟨"java/lang/Record", "<init>", "()V"⟩ : MethodName) jdk_30_method_1_code 1 none :: ws) ({ frames := 1, cells := 0, slots := 0, locals := 12 } : Room)) (fun a U => a = #[(.ref a1)] ∧ Z.Warmed39 U.vm ∧ U.heap = h0) (fun _ _ _ _ _ => True) (fun _ U o U' => ∃ v L, o = .returned v ∧ Q5 Z a1 h0 n0 v U'.heap L ∧ FrameEnd U o U' L ({ frames := 1, cells := 0, slots := 0, locals := 12 } : Room).cells ({ frames := 1, cells := 0, slots := 0, locals := 12 } : Room).slots) := by
  refine MetFree.of_bodySF (plainFor_of_name pn_5) hisR ?_
  intro p e s m args below meth c s₁ Bd hml0 hP hK
  obtain ⟨rfl, hZ, hh⟩ := hP
  have hx := Bd.exec
  have hby := Bd.bytes
  have hml : c.maxLocals = 1 := hml0
  have hown : s.vm.findClass "java/lang/Record" = some m.cls := findClass_of_methodNamed Bd.named
  have hnm := (name_of_methodNamed Bd.named Bd.method).1
  have X0 : Stand p l e ({ frames := 1, cells := 0, slots := 0, locals := 12 } : Room) s m #[(.ref a1)] below meth c s₁ [] 0 0 := Stand.of_body Bd
  have e0 : s₁.heap = h0 := by rw [← hh, Bd.state]; rfl
  have N0 := Fr.nil n0
  have pre0 : ∀ t, Steps p.tables e below (s₁.setTop (mkF m 0 #[.val (.ref a1)] [])) t → Steps p.tables e below (s₁.setTop (entryFrame m #[(.ref a1)] 1)) t := fun t k => castTop (ef_5 m a1) k
  obtain ⟨T2, X2, e2, st2⟩ := initO X0 hx hZ hown (hw _ (List.mem_of_getElem? (i := 31) rfl)) (hw _ (List.mem_of_getElem? (i := 32) rfl)) (hw _ (List.mem_of_getElem? (i := 33) rfl)) e0 (g := (mkF m 1 #[.val (.ref a1)] [(.ref a1)])) rfl (by rw [hml]; rfl) rfl (hb hby d5_1) (by decide) (W := 0) (by show 2 * 0 + _ ≤ _; exact Nat.le_of_eq rfl) (by decide)
  obtain ⟨fs, hr, hrun, hended, hW, hsame⟩ := X2.leave (v := none) (fun _ => rfl)
  refine ⟨_, _, pre0 _ ?_, hrun, hended, _, _, rfl, ?_, ⟨_, rfl⟩, hW, hsame.mono (by decide) (by decide)⟩
  · show Steps p.tables e below (s₁.setTop (mkF m 0 #[.val (.ref a1)] [])) _
    refine XS.aloadN X0.here hx rfl (hb hby d5_0) rfl rfl ?_
    show Steps p.tables e below (s₁.setTop (mkF m 1 #[.val (.ref a1)] [(.ref a1)])) _
    refine st2 _ ?_
    show Steps p.tables e below (T2.setTop (mkF m 4 #[.val (.ref a1)] [])) _
    exact X2.returnOut hx Bd.returns (hb hby d5_4) hr
  · show Q5 Z a1 h0 n0 _ T2.heap _
    rw [e2]
    exact ⟨rfl, N0, rfl⟩
theorem d4_0 : decode prog_1_method_1_code 0 = .ok (.aload_n 0, 1) := by decide +kernel
theorem d4_1 : decode prog_1_method_1_code 1 = .ok (.invokespecial 1, 3) := by decide +kernel
theorem d4_4 : decode prog_1_method_1_code 4 = .ok (.aload_n 0, 1) := by decide +kernel
theorem d4_5 : decode prog_1_method_1_code 5 = .ok (.aload_n 1, 1) := by decide +kernel
theorem d4_6 : decode prog_1_method_1_code 6 = .ok (.putfield 7, 3) := by decide +kernel
theorem d4_9 : decode prog_1_method_1_code 9 = .ok (.aload_n 0, 1) := by decide +kernel
theorem d4_10 : decode prog_1_method_1_code 10 = .ok (.aload_n 2, 1) := by decide +kernel
theorem d4_11 : decode prog_1_method_1_code 11 = .ok (.putfield 13, 3) := by decide +kernel
theorem d4_14 : decode prog_1_method_1_code 14 = .ok (.return_, 1) := by decide +kernel
theorem pn_4 : plainName "com/example/coord2/coord2/KeyRange" = true := by first | (simp [plainName, overriddenIn]; done) | decide +kernel
theorem pd_4_5 : parseMethodDescriptor "()V" = some ⟨[], none⟩ := by decide +kernel
theorem ef_4 (m : MethodId) (x0 : Addr) (x1 : Addr) (x2 : Addr) : entryFrame m #[(.ref x0), (.ref x1), (.ref x2)] 3 = mkF m 0 #[.val (.ref x0), .val (.ref x1), .val (.ref x2)] [] := by first | (simp [entryFrame, mkF, argsToLocals, Value.category]; done) | rfl
def Q4 (Z : State) (a1 : Addr) (a2 : Addr) (a3 : Addr) (u_lower_a1 : Value) (u_upper_a1 : Value) (h0 : Heap) (n0 : Nat) (v : Option Value) (h : Heap) (L : List Loc) : Prop := v = none ∧ Fr n0 L ∧ Keep h0 h [a1] ∧ Exa Z h a1 "com/example/coord2/coord2/KeyRange" ∧ Fld Z h a1 "com/example/coord2/coord2/KeyRange" "lower" "[B" (.ref a2) ∧ Fld Z h a1 "com/example/coord2/coord2/KeyRange" "upper" "[B" (.ref a3)
set_option maxRecDepth 65536 in
set_option maxHeartbeats 40000000 in
theorem rm4 (l : Launch) (Z : State) (a0 : Array Value) (hw : ∀ d ∈ tables_1, d.before a0 Z = true) (ws : List Jvm.Cond) (a1 : Addr) (a2 : Addr) (a3 : Addr) (u_lower_a1 : Value) (u_upper_a1 : Value) (h0 : Heap) (n0 : Nat) (Z0 : n0 ≤ h0.size) (E_a1 : Exa Z h0 a1 "com/example/coord2/coord2/KeyRange") (F_lower_a1 : Fld Z h0 a1 "com/example/coord2/coord2/KeyRange" "lower" "[B" u_lower_a1) (g_a1 : n0 ≤ a1) (F_upper_a1 : Fld Z h0 a1 "com/example/coord2/coord2/KeyRange" "upper" "[B" u_upper_a1) :
    MetFree l (⟨"com/example/coord2/coord2/KeyRange", "<init>", "([B[B)V"⟩ : MethodName) (head1 (Jvm.Cond.code (⟨"com/example/coord2/coord2/KeyRange", "<init>", "([B[B)V"⟩ : MethodName) prog_1_method_1_code 3 none :: ws) ({ frames := 2, cells := 0, slots := 0, locals := 24 } : Room)) (fun a U => a = #[(.ref a1), (.ref a2), (.ref a3)] ∧ Z.Warmed39 U.vm ∧ U.heap = h0) (fun _ _ _ _ _ => True) (fun _ U o U' => ∃ v L, o = .returned v ∧ Q4 Z a1 a2 a3 u_lower_a1 u_upper_a1 h0 n0 v U'.heap L ∧ FrameEnd U o U' L ({ frames := 2, cells := 0, slots := 0, locals := 24 } : Room).cells ({ frames := 2, cells := 0, slots := 0, locals := 24 } : Room).slots) := by
  refine MetFree.of_bodySF (plainFor_of_name pn_4) hisR ?_
  intro p e s m args below meth c s₁ Bd hml0 hP hK
  obtain ⟨rfl, hZ, hh⟩ := hP
  have hx := Bd.exec
  have hby := Bd.bytes
  have hml : c.maxLocals = 3 := hml0
  have hown : s.vm.findClass "com/example/coord2/coord2/KeyRange" = some m.cls := findClass_of_methodNamed Bd.named
  have hnm := (name_of_methodNamed Bd.named Bd.method).1
  have X0 : Stand p l e ({ frames := 2, cells := 0, slots := 0, locals := 24 } : Room) s m #[(.ref a1), (.ref a2), (.ref a3)] below meth c s₁ [] 0 0 := Stand.of_body Bd
  have e0 : s₁.heap = h0 := by rw [← hh, Bd.state]; rfl
  have N0 := Fr.nil n0
  have pre0 : ∀ t, Steps p.tables e below (s₁.setTop (mkF m 0 #[.val (.ref a1), .val (.ref a2), .val (.ref a3)] [])) t → Steps p.tables e below (s₁.setTop (entryFrame m #[(.ref a1), (.ref a2), (.ref a3)] 3)) t := fun t k => castTop (ef_4 m a1 a2 a3) k
  obtain ⟨_, _, ⟨T4, L4, k4, n4⟩, -, X4, ⟨Lc4, hQ4, l4, y4, z4⟩, st4⟩ := X0.specialBack hx (y := (⟨"java/lang/Record", "<init>", "()V"⟩ : MethodName)) rfl hown (mvT hZ (hw _ (List.mem_of_getElem? (i := 26) rfl))) (mvT hZ (hw _ (List.mem_of_getElem? (i := 27) rfl))) (mvT hZ (hw _ (List.mem_of_getElem? (i := 30) rfl))) (by decide) (backOf (W := 0) (rm5 l Z a0 hw [] a1 h0 n0 Z0) hZ (hw _ (List.mem_of_getElem? (i := 30) rfl)) (hw _ (List.mem_of_getElem? (i := 29) rfl)) (by decide) (by decide)) (g := (mkF m 1 #[.val (.ref a1), .val (.ref a2), .val (.ref a3)] [(.ref a1)])) rfl (by rw [hml]; rfl) (Steps.refl _) (a := a1) (argsL := []) (rest := []) (lenOf pd_4_5 rfl) rfl (by show 2 * 0 + _ ≤ _; exact Nat.le_of_eq rfl) (hb hby d4_1) (fun _ _ => ⟨rfl, e0, (by decide : 0 + 0 ≤ _), (by decide : 0 + 0 ≤ _)⟩)
  dsimp only [Pt.U, Pt.locs, Pt.cells, Pt.slots] at X4 l4 y4 z4 st4 hQ4
  subst l4 y4 z4
  obtain ⟨rfl, N4q, hq4⟩ := hQ4
  have KC4 : Keep h0 T4.heap [] := by rw [hq4]; exact Keep.refl _ _
  have KD4 : Keep h0 T4.heap [a1] := by rw [hq4]; exact Keep.refl _ _
  have N4 := Fr.app N0 N4q
  obtain ⟨T5, h5, X5, e5, W5, st5⟩ := putF X4 hx hZ hown (host := "") (Or.inl (hw _ (List.mem_of_getElem? (i := 34) rfl))) Via.refl rfl (F_lower_a1.keep KC4 List.not_mem_nil) (E_a1.keep KC4) (Or.inr ⟨(hw _ (List.mem_of_getElem? (i := 35) rfl)), rfl, hnm⟩) (hw _ (List.mem_of_getElem? (i := 6) rfl)) (ty := (.array .byte)) (by decide) rfl rfl (g := (mkF m 6 #[.val (.ref a1), .val (.ref a2), .val (.ref a3)] [(.ref a2), (.ref a1)])) rfl rfl (hb hby d4_6)
  have Fw5 := (F_lower_a1.keep KC4 List.not_mem_nil).same W5
  have K5 : Keep h0 h5 [a1] := KD4.wr W5 (Or.inl (List.mem_of_getElem? (i := 0) rfl))
  have N5 := Fr.snoc X5 N4 g_a1
  obtain ⟨T6, h6, X6, e6, W6, st6⟩ := putF X5 hx hZ hown (host := "") (Or.inl (hw _ (List.mem_of_getElem? (i := 36) rfl))) Via.refl e5 ((F_upper_a1.keep KC4 List.not_mem_nil).other W5 (Or.inr (slot_ne (Or.inr (hw _ (List.mem_of_getElem? (i := 37) rfl))) (Or.inr (hw _ (List.mem_of_getElem? (i := 35) rfl))) (by decide) (t := (.array .byte)) (t' := (.array .byte)) (by decide) (by decide)))) ((E_a1.keep KC4).wr W5) (Or.inr ⟨(hw _ (List.mem_of_getElem? (i := 37) rfl)), rfl, hnm⟩) (hw _ (List.mem_of_getElem? (i := 6) rfl)) (ty := (.array .byte)) (by decide) rfl rfl (g := (mkF m 11 #[.val (.ref a1), .val (.ref a2), .val (.ref a3)] [(.ref a3), (.ref a1)])) rfl rfl (hb hby d4_11)
  have Fw6 := ((F_upper_a1.keep KC4 List.not_mem_nil).other W5 (Or.inr (slot_ne (Or.inr (hw _ (List.mem_of_getElem? (i := 37) rfl))) (Or.inr (hw _ (List.mem_of_getElem? (i := 35) rfl))) (by decide) (t := (.array .byte)) (t' := (.array .byte)) (by decide) (by decide)))).same W6
  have K6 : Keep h0 h6 [a1] := K5.wr W6 (Or.inl (List.mem_of_getElem? (i := 0) rfl))
  have N6 := Fr.snoc X6 N5 g_a1
  obtain ⟨fs, hr, hrun, hended, hW, hsame⟩ := X6.leave (v := none) (fun _ => rfl)
  refine ⟨_, _, pre0 _ ?_, hrun, hended, _, _, rfl, ?_, ⟨_, rfl⟩, hW, hsame.mono (by decide) (by decide)⟩
  · show Steps p.tables e below (s₁.setTop (mkF m 0 #[.val (.ref a1), .val (.ref a2), .val (.ref a3)] [])) _
    refine XS.aloadN X0.here hx rfl (hb hby d4_0) rfl rfl ?_
    show Steps p.tables e below (s₁.setTop (mkF m 1 #[.val (.ref a1), .val (.ref a2), .val (.ref a3)] [(.ref a1)])) _
    refine st4.trans ?_
    show Steps p.tables e below (T4.setTop (mkF m 4 #[.val (.ref a1), .val (.ref a2), .val (.ref a3)] [])) _
    refine XS.aloadN X4.here hx rfl (hb hby d4_4) rfl rfl ?_
    show Steps p.tables e below (T4.setTop (mkF m 5 #[.val (.ref a1), .val (.ref a2), .val (.ref a3)] [(.ref a1)])) _
    refine XS.aloadN X4.here hx rfl (hb hby d4_5) rfl rfl ?_
    show Steps p.tables e below (T4.setTop (mkF m 6 #[.val (.ref a1), .val (.ref a2), .val (.ref a3)] [(.ref a2), (.ref a1)])) _
    refine st5 _ ?_
    show Steps p.tables e below (T5.setTop (mkF m 9 #[.val (.ref a1), .val (.ref a2), .val (.ref a3)] [])) _
    refine XS.aloadN X5.here hx rfl (hb hby d4_9) rfl rfl ?_
    show Steps p.tables e below (T5.setTop (mkF m 10 #[.val (.ref a1), .val (.ref a2), .val (.ref a3)] [(.ref a1)])) _
    refine XS.aloadN X5.here hx rfl (hb hby d4_10) rfl rfl ?_
    show Steps p.tables e below (T5.setTop (mkF m 11 #[.val (.ref a1), .val (.ref a2), .val (.ref a3)] [(.ref a3), (.ref a1)])) _
    refine st6 _ ?_
    show Steps p.tables e below (T6.setTop (mkF m 14 #[.val (.ref a1), .val (.ref a2), .val (.ref a3)] [])) _
    exact X6.returnOut hx Bd.returns (hb hby d4_14) hr
  · show Q4 Z a1 a2 a3 u_lower_a1 u_upper_a1 h0 n0 _ T6.heap _
    rw [e6]
    exact ⟨rfl, N6, K6, ((E_a1.keep KC4).wr W5).wr W6, Fw5.other W6 (Or.inr (slot_ne (Or.inr (hw _ (List.mem_of_getElem? (i := 35) rfl))) (Or.inr (hw _ (List.mem_of_getElem? (i := 37) rfl))) (by decide) (t := (.array .byte)) (t' := (.array .byte)) (by decide) (by decide))), Fw6⟩
theorem d7_0 : decode prog_1_method_8_code 0 = .ok (.aload_n 0, 1) := by decide +kernel
theorem d7_1 : decode prog_1_method_8_code 1 = .ok (.getfield 7, 3) := by decide +kernel
theorem d7_4 : decode prog_1_method_8_code 4 = .ok (.areturn, 1) := by decide +kernel
theorem pn_7 : plainName "com/example/coord2/coord2/KeyRange" = true := by first | (simp [plainName, overriddenIn]; done) | decide +kernel
theorem ef_7 (m : MethodId) (x0 : Addr) : entryFrame m #[(.ref x0)] 1 = mkF m 0 #[.val (.ref x0)] [] := by first | (simp [entryFrame, mkF, argsToLocals, Value.category]; done) | rfl
def Q7 (Z : State) (a1 : Addr) (w2 : Addr) (h0 : Heap) (n0 : Nat) (v : Option Value) (h : Heap) (L : List Loc) : Prop := v = some (.ref w2) ∧ Fr n0 L ∧ h = h0
set_option maxRecDepth 65536 in
set_option maxHeartbeats 40000000 in
theorem rm7 (l : Launch) (Z : State) (a0 : Array Value) (hw : ∀ d ∈ tables_1, d.before a0 Z = true) (ws : List Jvm.Cond) (a1 : Addr) (w2 : Addr) (h0 : Heap) (n0 : Nat) (Z0 : n0 ≤ h0.size) (F_lower_a1 : Fld Z h0 a1 "com/example/coord2/coord2/KeyRange" "lower" "[B" (.ref w2)) :
    MetFree l (⟨"com/example/coord2/coord2/KeyRange", "lower", "()[B"⟩ : MethodName) (head1 (Jvm.Cond.code (⟨"com/example/coord2/coord2/KeyRange", "lower", "()[B"⟩ : MethodName) prog_1_method_8_code 1 (some (.array .byte)) :: ws) ({ frames := 0, cells := 0, slots := 0, locals := 0 } : Room)) (fun a U => a = #[(.ref a1)] ∧ Z.Warmed39 U.vm ∧ U.heap = h0) (fun _ _ _ _ _ => True) (fun _ U o U' => ∃ v L, o = .returned v ∧ Q7 Z a1 w2 h0 n0 v U'.heap L ∧ FrameEnd U o U' L ({ frames := 0, cells := 0, slots := 0, locals := 0 } : Room).cells ({ frames := 0, cells := 0, slots := 0, locals := 0 } : Room).slots) := by
  refine MetFree.of_bodySF (plainFor_of_name pn_7) hisR ?_
  intro p e s m args below meth c s₁ Bd hml0 hP hK
  obtain ⟨rfl, hZ, hh⟩ := hP
  have hx := Bd.exec
  have hby := Bd.bytes
  have hml : c.maxLocals = 1 := hml0
  have hown : s.vm.findClass "com/example/coord2/coord2/KeyRange" = some m.cls := findClass_of_methodNamed Bd.named
  have hnm := (name_of_methodNamed Bd.named Bd.method).1
  have X0 : Stand p l e ({ frames := 0, cells := 0, slots := 0, locals := 0 } : Room) s m #[(.ref a1)] below meth c s₁ [] 0 0 := Stand.of_body Bd
  have e0 : s₁.heap = h0 := by rw [← hh, Bd.state]; rfl
  have N0 := Fr.nil n0
  have pre0 : ∀ t, Steps p.tables e below (s₁.setTop (mkF m 0 #[.val (.ref a1)] [])) t → Steps p.tables e below (s₁.setTop (entryFrame m #[(.ref a1)] 1)) t := fun t k => castTop (ef_7 m a1) k
  obtain ⟨T3, X3, e3, st3⟩ := getF X0 hx hZ hown (host := "") (Or.inl (hw _ (List.mem_of_getElem? (i := 34) rfl))) Via.refl e0 F_lower_a1 (g := (mkF m 1 #[.val (.ref a1)] [(.ref a1)])) rfl rfl (hb hby d7_1)
  obtain ⟨fs, hr, hrun, hended, hW, hsame⟩ := X3.leave (v := some (.ref w2)) (fun h => by rw [Bd.returns] at h; cases h)
  refine ⟨_, _, pre0 _ ?_, hrun, hended, _, _, rfl, ?_, ⟨_, rfl⟩, hW, hsame.mono (by decide) (by decide)⟩
  · show Steps p.tables e below (s₁.setTop (mkF m 0 #[.val (.ref a1)] [])) _
    refine XS.aloadN X0.here hx rfl (hb hby d7_0) rfl rfl ?_
    show Steps p.tables e below (s₁.setTop (mkF m 1 #[.val (.ref a1)] [(.ref a1)])) _
    refine st3 _ ?_
    show Steps p.tables e below (T3.setTop (mkF m 4 #[.val (.ref a1)] [(.ref w2)])) _
    jvm_step X3.here [X3.here.top, hx, (hb hby d7_4), X3.method', Bd.returns, Value.isRef, FieldType.isReference]
    first | (intro acts; rw [hr _ acts rfl rfl rfl]) | rw [hr _ _ rfl rfl rfl]
    exact Steps.refl _
  · show Q7 Z a1 w2 h0 n0 _ T3.heap _
    rw [e3]
    exact ⟨rfl, N0, rfl⟩
theorem d8_0 : decode prog_1_method_9_code 0 = .ok (.aload_n 0, 1) := by decide +kernel
theorem d8_1 : decode prog_1_method_9_code 1 = .ok (.getfield 13, 3) := by decide +kernel
theorem d8_4 : decode prog_1_method_9_code 4 = .ok (.areturn, 1) := by decide +kernel
theorem pn_8 : plainName "com/example/coord2/coord2/KeyRange" = true := by first | (simp [plainName, overriddenIn]; done) | decide +kernel
theorem ef_8 (m : MethodId) (x0 : Addr) : entryFrame m #[(.ref x0)] 1 = mkF m 0 #[.val (.ref x0)] [] := by first | (simp [entryFrame, mkF, argsToLocals, Value.category]; done) | rfl
def Q8 (Z : State) (a1 : Addr) (w2 : Addr) (h0 : Heap) (n0 : Nat) (v : Option Value) (h : Heap) (L : List Loc) : Prop := v = some (.ref w2) ∧ Fr n0 L ∧ h = h0
set_option maxRecDepth 65536 in
set_option maxHeartbeats 40000000 in
theorem rm8 (l : Launch) (Z : State) (a0 : Array Value) (hw : ∀ d ∈ tables_1, d.before a0 Z = true) (ws : List Jvm.Cond) (a1 : Addr) (w2 : Addr) (h0 : Heap) (n0 : Nat) (Z0 : n0 ≤ h0.size) (F_upper_a1 : Fld Z h0 a1 "com/example/coord2/coord2/KeyRange" "upper" "[B" (.ref w2)) :
    MetFree l (⟨"com/example/coord2/coord2/KeyRange", "upper", "()[B"⟩ : MethodName) (head1 (Jvm.Cond.code (⟨"com/example/coord2/coord2/KeyRange", "upper", "()[B"⟩ : MethodName) prog_1_method_9_code 1 (some (.array .byte)) :: ws) ({ frames := 0, cells := 0, slots := 0, locals := 0 } : Room)) (fun a U => a = #[(.ref a1)] ∧ Z.Warmed39 U.vm ∧ U.heap = h0) (fun _ _ _ _ _ => True) (fun _ U o U' => ∃ v L, o = .returned v ∧ Q8 Z a1 w2 h0 n0 v U'.heap L ∧ FrameEnd U o U' L ({ frames := 0, cells := 0, slots := 0, locals := 0 } : Room).cells ({ frames := 0, cells := 0, slots := 0, locals := 0 } : Room).slots) := by
  refine MetFree.of_bodySF (plainFor_of_name pn_8) hisR ?_
  intro p e s m args below meth c s₁ Bd hml0 hP hK
  obtain ⟨rfl, hZ, hh⟩ := hP
  have hx := Bd.exec
  have hby := Bd.bytes
  have hml : c.maxLocals = 1 := hml0
  have hown : s.vm.findClass "com/example/coord2/coord2/KeyRange" = some m.cls := findClass_of_methodNamed Bd.named
  have hnm := (name_of_methodNamed Bd.named Bd.method).1
  have X0 : Stand p l e ({ frames := 0, cells := 0, slots := 0, locals := 0 } : Room) s m #[(.ref a1)] below meth c s₁ [] 0 0 := Stand.of_body Bd
  have e0 : s₁.heap = h0 := by rw [← hh, Bd.state]; rfl
  have N0 := Fr.nil n0
  have pre0 : ∀ t, Steps p.tables e below (s₁.setTop (mkF m 0 #[.val (.ref a1)] [])) t → Steps p.tables e below (s₁.setTop (entryFrame m #[(.ref a1)] 1)) t := fun t k => castTop (ef_8 m a1) k
  obtain ⟨T3, X3, e3, st3⟩ := getF X0 hx hZ hown (host := "") (Or.inl (hw _ (List.mem_of_getElem? (i := 36) rfl))) Via.refl e0 F_upper_a1 (g := (mkF m 1 #[.val (.ref a1)] [(.ref a1)])) rfl rfl (hb hby d8_1)
  obtain ⟨fs, hr, hrun, hended, hW, hsame⟩ := X3.leave (v := some (.ref w2)) (fun h => by rw [Bd.returns] at h; cases h)
  refine ⟨_, _, pre0 _ ?_, hrun, hended, _, _, rfl, ?_, ⟨_, rfl⟩, hW, hsame.mono (by decide) (by decide)⟩
  · show Steps p.tables e below (s₁.setTop (mkF m 0 #[.val (.ref a1)] [])) _
    refine XS.aloadN X0.here hx rfl (hb hby d8_0) rfl rfl ?_
    show Steps p.tables e below (s₁.setTop (mkF m 1 #[.val (.ref a1)] [(.ref a1)])) _
    refine st3 _ ?_
    show Steps p.tables e below (T3.setTop (mkF m 4 #[.val (.ref a1)] [(.ref w2)])) _
    jvm_step X3.here [X3.here.top, hx, (hb hby d8_4), X3.method', Bd.returns, Value.isRef, FieldType.isReference]
    first | (intro acts; rw [hr _ acts rfl rfl rfl]) | rw [hr _ _ rfl rfl rfl]
    exact Steps.refl _
  · show Q8 Z a1 w2 h0 n0 _ T3.heap _
    rw [e3]
    exact ⟨rfl, N0, rfl⟩
theorem d9_0 : decode method_3_code 0 = .ok (.aload_n 0, 1) := by decide +kernel
theorem d9_1 : decode method_3_code 1 = .ok (.ifnull 9, 3) := by decide +kernel
theorem d9_4 : decode method_3_code 4 = .ok (.aload_n 0, 1) := by decide +kernel
theorem d9_5 : decode method_3_code 5 = .ok (.arraylength, 1) := by decide +kernel
theorem d9_6 : decode method_3_code 6 = .ok (.iload_n 1, 1) := by decide +kernel
theorem d9_7 : decode method_3_code 7 = .ok (.if_icmp .eq 5, 3) := by decide +kernel
theorem d9_12 : decode method_3_code 12 = .ok (.aload_n 0, 1) := by decide +kernel
theorem d9_13 : decode method_3_code 13 = .ok (.iconst 0, 1) := by decide +kernel
theorem d9_14 : decode method_3_code 14 = .ok (.baload, 1) := by decide +kernel
theorem d9_15 : decode method_3_code 15 = .ok (.iload_n 2, 1) := by decide +kernel
theorem d9_16 : decode method_3_code 16 = .ok (.if_icmp .eq 5, 3) := by decide +kernel
theorem d9_21 : decode method_3_code 21 = .ok (.iload_n 1, 1) := by decide +kernel
theorem d9_22 : decode method_3_code 22 = .ok (.iconst 1, 1) := by decide +kernel
theorem d9_23 : decode method_3_code 23 = .ok (.if_icmp .le 12, 3) := by decide +kernel
theorem d9_26 : decode method_3_code 26 = .ok (.aload_n 0, 1) := by decide +kernel
theorem d9_27 : decode method_3_code 27 = .ok (.iconst 1, 1) := by decide +kernel
theorem d9_28 : decode method_3_code 28 = .ok (.baload, 1) := by decide +kernel
theorem d9_29 : decode method_3_code 29 = .ok (.iload_n 3, 1) := by decide +kernel
theorem d9_30 : decode method_3_code 30 = .ok (.if_icmp .eq 5, 3) := by decide +kernel
theorem d9_35 : decode method_3_code 35 = .ok (.iload_n 1, 1) := by decide +kernel
theorem d9_36 : decode method_3_code 36 = .ok (.iconst 2, 1) := by decide +kernel
theorem d9_37 : decode method_3_code 37 = .ok (.if_icmp .le 13, 3) := by decide +kernel
theorem d9_40 : decode method_3_code 40 = .ok (.aload_n 0, 1) := by decide +kernel
theorem d9_41 : decode method_3_code 41 = .ok (.iconst 2, 1) := by decide +kernel
theorem d9_42 : decode method_3_code 42 = .ok (.baload, 1) := by decide +kernel
theorem d9_43 : decode method_3_code 43 = .ok (.iload 4, 2) := by decide +kernel
theorem d9_45 : decode method_3_code 45 = .ok (.if_icmp .eq 5, 3) := by decide +kernel
theorem d9_50 : decode method_3_code 50 = .ok (.iconst 1, 1) := by decide +kernel
theorem d9_51 : decode method_3_code 51 = .ok (.ireturn, 1) := by decide +kernel
theorem pn_9 : plainName "com/example/coord2/coord2/KeyRangePrefixPinLaw" = true := by first | (simp [plainName, overriddenIn]; done) | decide +kernel
theorem ef_9 (m : MethodId) (x0 : Addr) (x1 : Int32) (x2 : Int32) (x3 : Int32) (x4 : Int32) : entryFrame m #[(.ref x0), (.int x1), (.int x2), (.int x3), (.int x4)] 5 = mkF m 0 #[.val (.ref x0), .val (.int x1), .val (.int x2), .val (.int x3), .val (.int x4)] [] := by first | (simp [entryFrame, mkF, argsToLocals, Value.category]; done) | rfl

def Q9 (h0 : Heap) (n0 : Nat) (v : Option Value) (h : Heap) (L : List Loc) : Prop := v = some (.int (1 : Int32)) ∧ Fr n0 L ∧ h = h0
set_option maxRecDepth 65536 in
set_option maxHeartbeats 40000000 in
theorem rm9_3 (l : Launch) (Z : State) (a0 : Array Value) (hw : ∀ d ∈ tables_1, d.before a0 Z = true) (ws : List Jvm.Cond) (a1 : Addr) (p2 : Int32) (p3 : Int32) (p4 : Int32) (p5 : Int32) (cl_a1 : Cell) (z_a1 : Int32) (w6 : Int32) (w7 : Int32) (w8 : Int32) (h0 : Heap) (n0 : Nat) (Z0 : n0 ≤ h0.size) (Ar_a1 : Arr Z h0 a1 cl_a1 .byte) (S_a1 : cl_a1.slots.size = z_a1.toNatClampNeg) (N_a1 : ¬ z_a1 < 0) (hin14 : ¬ ((0 : Int32) < 0 ∨ cl_a1.slots.size ≤ ((0 : Int32)).toNatClampNeg)) (hat14 : cl_a1.slots[((0 : Int32)).toNatClampNeg]? = some (.int w6)) (hin28 : ¬ ((1 : Int32) < 0 ∨ cl_a1.slots.size ≤ ((1 : Int32)).toNatClampNeg)) (hat28 : cl_a1.slots[((1 : Int32)).toNatClampNeg]? = some (.int w7)) (hin42 : ¬ ((2 : Int32) < 0 ∨ cl_a1.slots.size ≤ ((2 : Int32)).toNatClampNeg)) (hat42 : cl_a1.slots[((2 : Int32)).toNatClampNeg]? = some (.int w8)) (hc7 : z_a1 = p2) (hc16 : w6 = p3) (hc23 : (1 : Int32) < p2) (hc30 : w7 = p4) (hc37 : (2 : Int32) < p2) (hc45 : w8 = p5) :
    MetFree l (⟨"com/example/coord2/coord2/KeyRangePrefixPinLaw", "same", "([BIBBB)Z"⟩ : MethodName) (head1 (Jvm.Cond.code (⟨"com/example/coord2/coord2/KeyRangePrefixPinLaw", "same", "([BIBBB)Z"⟩ : MethodName) method_3_code 5 (some .boolean) :: ws) ({ frames := 0, cells := 0, slots := 0, locals := 0 } : Room)) (fun a U => a = #[(.ref a1), (.int p2), (.int p3), (.int p4), (.int p5)] ∧ Z.Warmed39 U.vm ∧ U.heap = h0) (fun _ _ _ _ _ => True) (fun _ U o U' => ∃ v L, o = .returned v ∧ Q9 h0 n0 v U'.heap L ∧ FrameEnd U o U' L ({ frames := 0, cells := 0, slots := 0, locals := 0 } : Room).cells ({ frames := 0, cells := 0, slots := 0, locals := 0 } : Room).slots) := by
  refine MetFree.of_bodySF (plainFor_of_name pn_9) hisR ?_
  intro p e s m args below meth c s₁ Bd hml0 hP hK
  obtain ⟨rfl, hZ, hh⟩ := hP
  have hx := Bd.exec
  have hby := Bd.bytes
  have hml : c.maxLocals = 5 := hml0
  have hown : s.vm.findClass "com/example/coord2/coord2/KeyRangePrefixPinLaw" = some m.cls := findClass_of_methodNamed Bd.named
  have hnm := (name_of_methodNamed Bd.named Bd.method).1
  have X0 : Stand p l e ({ frames := 0, cells := 0, slots := 0, locals := 0 } : Room) s m #[(.ref a1), (.int p2), (.int p3), (.int p4), (.int p5)] below meth c s₁ [] 0 0 := Stand.of_body Bd
  have e0 : s₁.heap = h0 := by rw [← hh, Bd.state]; rfl
  have N0 := Fr.nil n0
  have pre0 : ∀ t, Steps p.tables e below (s₁.setTop (mkF m 0 #[.val (.ref a1), .val (.int p2), .val (.int p3), .val (.int p4), .val (.int p5)] [])) t → Steps p.tables e below (s₁.setTop (entryFrame m #[(.ref a1), (.int p2), (.int p3), (.int p4), (.int p5)] 5)) t := fun t k => castTop (ef_9 m a1 p2 p3 p4 p5) k

  obtain ⟨fs, hr, hrun, hended, hW, hsame⟩ := X0.leave (v := some (.int (1 : Int32))) (fun h => by rw [Bd.returns] at h; cases h)
  refine ⟨_, _, pre0 _ ?_, hrun, hended, _, _, rfl, ?_, ⟨_, rfl⟩, hW, hsame.mono (by decide) (by decide)⟩
  · show Steps p.tables e below (s₁.setTop (mkF m 0 #[.val (.ref a1), .val (.int p2), .val (.int p3), .val (.int p4), .val (.int p5)] [])) _
    refine XS.aloadN X0.here hx rfl (hb hby d9_0) rfl rfl ?_
    show Steps p.tables e below (s₁.setTop (mkF m 1 #[.val (.ref a1), .val (.int p2), .val (.int p3), .val (.int p4), .val (.int p5)] [(.ref a1)])) _
    refine XS.ifnullNo X0.here hx rfl (hb hby d9_1) rfl ?_
    show Steps p.tables e below (s₁.setTop (mkF m 4 #[.val (.ref a1), .val (.int p2), .val (.int p3), .val (.int p4), .val (.int p5)] [])) _
    refine XS.aloadN X0.here hx rfl (hb hby d9_4) rfl rfl ?_
    show Steps p.tables e below (s₁.setTop (mkF m 5 #[.val (.ref a1), .val (.int p2), .val (.int p3), .val (.int p4), .val (.int p5)] [(.ref a1)])) _
    refine X0.arraylength hx (by rw [e0]; exact Ar_a1.1) (State.isArrayOf_alike hZ.alike Ar_a1.2.1) (g := (mkF m 5 #[.val (.ref a1), .val (.int p2), .val (.int p3), .val (.int p4), .val (.int p5)] [(.ref a1)])) rfl rfl (hb hby d9_5) _ ?_
    rw [len_of S_a1 N_a1]
    show Steps p.tables e below (s₁.setTop (mkF m 6 #[.val (.ref a1), .val (.int p2), .val (.int p3), .val (.int p4), .val (.int p5)] [(.int z_a1)])) _
    refine XS.iloadN X0.here hx rfl (hb hby d9_6) rfl ?_
    show Steps p.tables e below (s₁.setTop (mkF m 7 #[.val (.ref a1), .val (.int p2), .val (.int p3), .val (.int p4), .val (.int p5)] [(.int p2), (.int z_a1)])) _
    refine XS.icmpYes X0.here hx rfl (pc0 := 7) (pc' := 12) rfl (hb hby d9_7) rfl (teq hc7).1 (by decide) (by decide) ?_
    show Steps p.tables e below (s₁.setTop (mkF m 12 #[.val (.ref a1), .val (.int p2), .val (.int p3), .val (.int p4), .val (.int p5)] [])) _
    refine XS.aloadN X0.here hx rfl (hb hby d9_12) rfl rfl ?_
    show Steps p.tables e below (s₁.setTop (mkF m 13 #[.val (.ref a1), .val (.int p2), .val (.int p3), .val (.int p4), .val (.int p5)] [(.ref a1)])) _
    refine XS.iconst X0.here hx rfl (hb hby d9_13) ?_
    show Steps p.tables e below (s₁.setTop (mkF m 14 #[.val (.ref a1), .val (.int p2), .val (.int p3), .val (.int p4), .val (.int p5)] [(.int (0 : Int32)), (.ref a1)])) _
    refine X0.baloadBytes hx (j := (0 : Int32)) (v := (.int w6)) (by rw [e0]; exact Ar_a1.1) (State.isArrayOf_alike hZ.alike Ar_a1.2.1) Ar_a1.2.2 hin14 hat14 (g := (mkF m 14 #[.val (.ref a1), .val (.int p2), .val (.int p3), .val (.int p4), .val (.int p5)] [(.int (0 : Int32)), (.ref a1)])) rfl rfl (hb hby d9_14) _ ?_
    show Steps p.tables e below (s₁.setTop (mkF m 15 #[.val (.ref a1), .val (.int p2), .val (.int p3), .val (.int p4), .val (.int p5)] [(.int w6)])) _
    refine XS.iloadN X0.here hx rfl (hb hby d9_15) rfl ?_
    show Steps p.tables e below (s₁.setTop (mkF m 16 #[.val (.ref a1), .val (.int p2), .val (.int p3), .val (.int p4), .val (.int p5)] [(.int p3), (.int w6)])) _
    refine XS.icmpYes X0.here hx rfl (pc0 := 16) (pc' := 21) rfl (hb hby d9_16) rfl (teq hc16).1 (by decide) (by decide) ?_
    show Steps p.tables e below (s₁.setTop (mkF m 21 #[.val (.ref a1), .val (.int p2), .val (.int p3), .val (.int p4), .val (.int p5)] [])) _
    refine XS.iloadN X0.here hx rfl (hb hby d9_21) rfl ?_
    show Steps p.tables e below (s₁.setTop (mkF m 22 #[.val (.ref a1), .val (.int p2), .val (.int p3), .val (.int p4), .val (.int p5)] [(.int p2)])) _
    refine XS.iconst X0.here hx rfl (hb hby d9_22) ?_
    show Steps p.tables e below (s₁.setTop (mkF m 23 #[.val (.ref a1), .val (.int p2), .val (.int p3), .val (.int p4), .val (.int p5)] [(.int (1 : Int32)), (.int p2)])) _
    refine XS.icmpNo X0.here hx rfl (hb hby d9_23) rfl (tlt hc23).2.2.2 ?_
    show Steps p.tables e below (s₁.setTop (mkF m 26 #[.val (.ref a1), .val (.int p2), .val (.int p3), .val (.int p4), .val (.int p5)] [])) _
    refine XS.aloadN X0.here hx rfl (hb hby d9_26) rfl rfl ?_
    show Steps p.tables e below (s₁.setTop (mkF m 27 #[.val (.ref a1), .val (.int p2), .val (.int p3), .val (.int p4), .val (.int p5)] [(.ref a1)])) _
    refine XS.iconst X0.here hx rfl (hb hby d9_27) ?_
    show Steps p.tables e below (s₁.setTop (mkF m 28 #[.val (.ref a1), .val (.int p2), .val (.int p3), .val (.int p4), .val (.int p5)] [(.int (1 : Int32)), (.ref a1)])) _
    refine X0.baloadBytes hx (j := (1 : Int32)) (v := (.int w7)) (by rw [e0]; exact Ar_a1.1) (State.isArrayOf_alike hZ.alike Ar_a1.2.1) Ar_a1.2.2 hin28 hat28 (g := (mkF m 28 #[.val (.ref a1), .val (.int p2), .val (.int p3), .val (.int p4), .val (.int p5)] [(.int (1 : Int32)), (.ref a1)])) rfl rfl (hb hby d9_28) _ ?_
    show Steps p.tables e below (s₁.setTop (mkF m 29 #[.val (.ref a1), .val (.int p2), .val (.int p3), .val (.int p4), .val (.int p5)] [(.int w7)])) _
    refine XS.iloadN X0.here hx rfl (hb hby d9_29) rfl ?_
    show Steps p.tables e below (s₁.setTop (mkF m 30 #[.val (.ref a1), .val (.int p2), .val (.int p3), .val (.int p4), .val (.int p5)] [(.int p4), (.int w7)])) _
    refine XS.icmpYes X0.here hx rfl (pc0 := 30) (pc' := 35) rfl (hb hby d9_30) rfl (teq hc30).1 (by decide) (by decide) ?_
    show Steps p.tables e below (s₁.setTop (mkF m 35 #[.val (.ref a1), .val (.int p2), .val (.int p3), .val (.int p4), .val (.int p5)] [])) _
    refine XS.iloadN X0.here hx rfl (hb hby d9_35) rfl ?_
    show Steps p.tables e below (s₁.setTop (mkF m 36 #[.val (.ref a1), .val (.int p2), .val (.int p3), .val (.int p4), .val (.int p5)] [(.int p2)])) _
    refine XS.iconst X0.here hx rfl (hb hby d9_36) ?_
    show Steps p.tables e below (s₁.setTop (mkF m 37 #[.val (.ref a1), .val (.int p2), .val (.int p3), .val (.int p4), .val (.int p5)] [(.int (2 : Int32)), (.int p2)])) _
    refine XS.icmpNo X0.here hx rfl (hb hby d9_37) rfl (tlt hc37).2.2.2 ?_
    show Steps p.tables e below (s₁.setTop (mkF m 40 #[.val (.ref a1), .val (.int p2), .val (.int p3), .val (.int p4), .val (.int p5)] [])) _
    refine XS.aloadN X0.here hx rfl (hb hby d9_40) rfl rfl ?_
    show Steps p.tables e below (s₁.setTop (mkF m 41 #[.val (.ref a1), .val (.int p2), .val (.int p3), .val (.int p4), .val (.int p5)] [(.ref a1)])) _
    refine XS.iconst X0.here hx rfl (hb hby d9_41) ?_
    show Steps p.tables e below (s₁.setTop (mkF m 42 #[.val (.ref a1), .val (.int p2), .val (.int p3), .val (.int p4), .val (.int p5)] [(.int (2 : Int32)), (.ref a1)])) _
    refine X0.baloadBytes hx (j := (2 : Int32)) (v := (.int w8)) (by rw [e0]; exact Ar_a1.1) (State.isArrayOf_alike hZ.alike Ar_a1.2.1) Ar_a1.2.2 hin42 hat42 (g := (mkF m 42 #[.val (.ref a1), .val (.int p2), .val (.int p3), .val (.int p4), .val (.int p5)] [(.int (2 : Int32)), (.ref a1)])) rfl rfl (hb hby d9_42) _ ?_
    show Steps p.tables e below (s₁.setTop (mkF m 43 #[.val (.ref a1), .val (.int p2), .val (.int p3), .val (.int p4), .val (.int p5)] [(.int w8)])) _
    refine XS.iload X0.here hx rfl (hb hby d9_43) rfl ?_
    show Steps p.tables e below (s₁.setTop (mkF m 45 #[.val (.ref a1), .val (.int p2), .val (.int p3), .val (.int p4), .val (.int p5)] [(.int p5), (.int w8)])) _
    refine XS.icmpYes X0.here hx rfl (pc0 := 45) (pc' := 50) rfl (hb hby d9_45) rfl (teq hc45).1 (by decide) (by decide) ?_
    show Steps p.tables e below (s₁.setTop (mkF m 50 #[.val (.ref a1), .val (.int p2), .val (.int p3), .val (.int p4), .val (.int p5)] [])) _
    refine XS.iconst X0.here hx rfl (hb hby d9_50) ?_
    show Steps p.tables e below (s₁.setTop (mkF m 51 #[.val (.ref a1), .val (.int p2), .val (.int p3), .val (.int p4), .val (.int p5)] [(.int (1 : Int32))])) _
    exact retN X0 hx (t := .boolean) Bd.returns (by simp) (hb hby d9_51) hr
  · show Q9 h0 n0 _ s₁.heap _
    rw [e0]
    exact ⟨rfl, N0, rfl⟩
set_option maxRecDepth 65536 in
set_option maxHeartbeats 40000000 in
theorem rm9_2 (l : Launch) (Z : State) (a0 : Array Value) (hw : ∀ d ∈ tables_1, d.before a0 Z = true) (ws : List Jvm.Cond) (a1 : Addr) (p2 : Int32) (p3 : Int32) (p4 : Int32) (p5 : Int32) (cl_a1 : Cell) (z_a1 : Int32) (w6 : Int32) (w7 : Int32) (h0 : Heap) (n0 : Nat) (Z0 : n0 ≤ h0.size) (Ar_a1 : Arr Z h0 a1 cl_a1 .byte) (S_a1 : cl_a1.slots.size = z_a1.toNatClampNeg) (N_a1 : ¬ z_a1 < 0) (hin14 : ¬ ((0 : Int32) < 0 ∨ cl_a1.slots.size ≤ ((0 : Int32)).toNatClampNeg)) (hat14 : cl_a1.slots[((0 : Int32)).toNatClampNeg]? = some (.int w6)) (hin28 : ¬ ((1 : Int32) < 0 ∨ cl_a1.slots.size ≤ ((1 : Int32)).toNatClampNeg)) (hat28 : cl_a1.slots[((1 : Int32)).toNatClampNeg]? = some (.int w7)) (hc7 : z_a1 = p2) (hc16 : w6 = p3) (hc23 : (1 : Int32) < p2) (hc30 : w7 = p4) (hc37 : ¬ ((2 : Int32) < p2)) :
    MetFree l (⟨"com/example/coord2/coord2/KeyRangePrefixPinLaw", "same", "([BIBBB)Z"⟩ : MethodName) (head1 (Jvm.Cond.code (⟨"com/example/coord2/coord2/KeyRangePrefixPinLaw", "same", "([BIBBB)Z"⟩ : MethodName) method_3_code 5 (some .boolean) :: ws) ({ frames := 0, cells := 0, slots := 0, locals := 0 } : Room)) (fun a U => a = #[(.ref a1), (.int p2), (.int p3), (.int p4), (.int p5)] ∧ Z.Warmed39 U.vm ∧ U.heap = h0) (fun _ _ _ _ _ => True) (fun _ U o U' => ∃ v L, o = .returned v ∧ Q9 h0 n0 v U'.heap L ∧ FrameEnd U o U' L ({ frames := 0, cells := 0, slots := 0, locals := 0 } : Room).cells ({ frames := 0, cells := 0, slots := 0, locals := 0 } : Room).slots) := by
  refine MetFree.of_bodySF (plainFor_of_name pn_9) hisR ?_
  intro p e s m args below meth c s₁ Bd hml0 hP hK
  obtain ⟨rfl, hZ, hh⟩ := hP
  have hx := Bd.exec
  have hby := Bd.bytes
  have hml : c.maxLocals = 5 := hml0
  have hown : s.vm.findClass "com/example/coord2/coord2/KeyRangePrefixPinLaw" = some m.cls := findClass_of_methodNamed Bd.named
  have hnm := (name_of_methodNamed Bd.named Bd.method).1
  have X0 : Stand p l e ({ frames := 0, cells := 0, slots := 0, locals := 0 } : Room) s m #[(.ref a1), (.int p2), (.int p3), (.int p4), (.int p5)] below meth c s₁ [] 0 0 := Stand.of_body Bd
  have e0 : s₁.heap = h0 := by rw [← hh, Bd.state]; rfl
  have N0 := Fr.nil n0
  have pre0 : ∀ t, Steps p.tables e below (s₁.setTop (mkF m 0 #[.val (.ref a1), .val (.int p2), .val (.int p3), .val (.int p4), .val (.int p5)] [])) t → Steps p.tables e below (s₁.setTop (entryFrame m #[(.ref a1), (.int p2), (.int p3), (.int p4), (.int p5)] 5)) t := fun t k => castTop (ef_9 m a1 p2 p3 p4 p5) k

  obtain ⟨fs, hr, hrun, hended, hW, hsame⟩ := X0.leave (v := some (.int (1 : Int32))) (fun h => by rw [Bd.returns] at h; cases h)
  refine ⟨_, _, pre0 _ ?_, hrun, hended, _, _, rfl, ?_, ⟨_, rfl⟩, hW, hsame.mono (by decide) (by decide)⟩
  · show Steps p.tables e below (s₁.setTop (mkF m 0 #[.val (.ref a1), .val (.int p2), .val (.int p3), .val (.int p4), .val (.int p5)] [])) _
    refine XS.aloadN X0.here hx rfl (hb hby d9_0) rfl rfl ?_
    show Steps p.tables e below (s₁.setTop (mkF m 1 #[.val (.ref a1), .val (.int p2), .val (.int p3), .val (.int p4), .val (.int p5)] [(.ref a1)])) _
    refine XS.ifnullNo X0.here hx rfl (hb hby d9_1) rfl ?_
    show Steps p.tables e below (s₁.setTop (mkF m 4 #[.val (.ref a1), .val (.int p2), .val (.int p3), .val (.int p4), .val (.int p5)] [])) _
    refine XS.aloadN X0.here hx rfl (hb hby d9_4) rfl rfl ?_
    show Steps p.tables e below (s₁.setTop (mkF m 5 #[.val (.ref a1), .val (.int p2), .val (.int p3), .val (.int p4), .val (.int p5)] [(.ref a1)])) _
    refine X0.arraylength hx (by rw [e0]; exact Ar_a1.1) (State.isArrayOf_alike hZ.alike Ar_a1.2.1) (g := (mkF m 5 #[.val (.ref a1), .val (.int p2), .val (.int p3), .val (.int p4), .val (.int p5)] [(.ref a1)])) rfl rfl (hb hby d9_5) _ ?_
    rw [len_of S_a1 N_a1]
    show Steps p.tables e below (s₁.setTop (mkF m 6 #[.val (.ref a1), .val (.int p2), .val (.int p3), .val (.int p4), .val (.int p5)] [(.int z_a1)])) _
    refine XS.iloadN X0.here hx rfl (hb hby d9_6) rfl ?_
    show Steps p.tables e below (s₁.setTop (mkF m 7 #[.val (.ref a1), .val (.int p2), .val (.int p3), .val (.int p4), .val (.int p5)] [(.int p2), (.int z_a1)])) _
    refine XS.icmpYes X0.here hx rfl (pc0 := 7) (pc' := 12) rfl (hb hby d9_7) rfl (teq hc7).1 (by decide) (by decide) ?_
    show Steps p.tables e below (s₁.setTop (mkF m 12 #[.val (.ref a1), .val (.int p2), .val (.int p3), .val (.int p4), .val (.int p5)] [])) _
    refine XS.aloadN X0.here hx rfl (hb hby d9_12) rfl rfl ?_
    show Steps p.tables e below (s₁.setTop (mkF m 13 #[.val (.ref a1), .val (.int p2), .val (.int p3), .val (.int p4), .val (.int p5)] [(.ref a1)])) _
    refine XS.iconst X0.here hx rfl (hb hby d9_13) ?_
    show Steps p.tables e below (s₁.setTop (mkF m 14 #[.val (.ref a1), .val (.int p2), .val (.int p3), .val (.int p4), .val (.int p5)] [(.int (0 : Int32)), (.ref a1)])) _
    refine X0.baloadBytes hx (j := (0 : Int32)) (v := (.int w6)) (by rw [e0]; exact Ar_a1.1) (State.isArrayOf_alike hZ.alike Ar_a1.2.1) Ar_a1.2.2 hin14 hat14 (g := (mkF m 14 #[.val (.ref a1), .val (.int p2), .val (.int p3), .val (.int p4), .val (.int p5)] [(.int (0 : Int32)), (.ref a1)])) rfl rfl (hb hby d9_14) _ ?_
    show Steps p.tables e below (s₁.setTop (mkF m 15 #[.val (.ref a1), .val (.int p2), .val (.int p3), .val (.int p4), .val (.int p5)] [(.int w6)])) _
    refine XS.iloadN X0.here hx rfl (hb hby d9_15) rfl ?_
    show Steps p.tables e below (s₁.setTop (mkF m 16 #[.val (.ref a1), .val (.int p2), .val (.int p3), .val (.int p4), .val (.int p5)] [(.int p3), (.int w6)])) _
    refine XS.icmpYes X0.here hx rfl (pc0 := 16) (pc' := 21) rfl (hb hby d9_16) rfl (teq hc16).1 (by decide) (by decide) ?_
    show Steps p.tables e below (s₁.setTop (mkF m 21 #[.val (.ref a1), .val (.int p2), .val (.int p3), .val (.int p4), .val (.int p5)] [])) _
    refine XS.iloadN X0.here hx rfl (hb hby d9_21) rfl ?_
    show Steps p.tables e below (s₁.setTop (mkF m 22 #[.val (.ref a1), .val (.int p2), .val (.int p3), .val (.int p4), .val (.int p5)] [(.int p2)])) _
    refine XS.iconst X0.here hx rfl (hb hby d9_22) ?_
    show Steps p.tables e below (s₁.setTop (mkF m 23 #[.val (.ref a1), .val (.int p2), .val (.int p3), .val (.int p4), .val (.int p5)] [(.int (1 : Int32)), (.int p2)])) _
    refine XS.icmpNo X0.here hx rfl (hb hby d9_23) rfl (tlt hc23).2.2.2 ?_
    show Steps p.tables e below (s₁.setTop (mkF m 26 #[.val (.ref a1), .val (.int p2), .val (.int p3), .val (.int p4), .val (.int p5)] [])) _
    refine XS.aloadN X0.here hx rfl (hb hby d9_26) rfl rfl ?_
    show Steps p.tables e below (s₁.setTop (mkF m 27 #[.val (.ref a1), .val (.int p2), .val (.int p3), .val (.int p4), .val (.int p5)] [(.ref a1)])) _
    refine XS.iconst X0.here hx rfl (hb hby d9_27) ?_
    show Steps p.tables e below (s₁.setTop (mkF m 28 #[.val (.ref a1), .val (.int p2), .val (.int p3), .val (.int p4), .val (.int p5)] [(.int (1 : Int32)), (.ref a1)])) _
    refine X0.baloadBytes hx (j := (1 : Int32)) (v := (.int w7)) (by rw [e0]; exact Ar_a1.1) (State.isArrayOf_alike hZ.alike Ar_a1.2.1) Ar_a1.2.2 hin28 hat28 (g := (mkF m 28 #[.val (.ref a1), .val (.int p2), .val (.int p3), .val (.int p4), .val (.int p5)] [(.int (1 : Int32)), (.ref a1)])) rfl rfl (hb hby d9_28) _ ?_
    show Steps p.tables e below (s₁.setTop (mkF m 29 #[.val (.ref a1), .val (.int p2), .val (.int p3), .val (.int p4), .val (.int p5)] [(.int w7)])) _
    refine XS.iloadN X0.here hx rfl (hb hby d9_29) rfl ?_
    show Steps p.tables e below (s₁.setTop (mkF m 30 #[.val (.ref a1), .val (.int p2), .val (.int p3), .val (.int p4), .val (.int p5)] [(.int p4), (.int w7)])) _
    refine XS.icmpYes X0.here hx rfl (pc0 := 30) (pc' := 35) rfl (hb hby d9_30) rfl (teq hc30).1 (by decide) (by decide) ?_
    show Steps p.tables e below (s₁.setTop (mkF m 35 #[.val (.ref a1), .val (.int p2), .val (.int p3), .val (.int p4), .val (.int p5)] [])) _
    refine XS.iloadN X0.here hx rfl (hb hby d9_35) rfl ?_
    show Steps p.tables e below (s₁.setTop (mkF m 36 #[.val (.ref a1), .val (.int p2), .val (.int p3), .val (.int p4), .val (.int p5)] [(.int p2)])) _
    refine XS.iconst X0.here hx rfl (hb hby d9_36) ?_
    show Steps p.tables e below (s₁.setTop (mkF m 37 #[.val (.ref a1), .val (.int p2), .val (.int p3), .val (.int p4), .val (.int p5)] [(.int (2 : Int32)), (.int p2)])) _
    refine XS.icmpYes X0.here hx rfl (pc0 := 37) (pc' := 50) rfl (hb hby d9_37) rfl (flt hc37).2.2.2 (by decide) (by decide) ?_
    show Steps p.tables e below (s₁.setTop (mkF m 50 #[.val (.ref a1), .val (.int p2), .val (.int p3), .val (.int p4), .val (.int p5)] [])) _
    refine XS.iconst X0.here hx rfl (hb hby d9_50) ?_
    show Steps p.tables e below (s₁.setTop (mkF m 51 #[.val (.ref a1), .val (.int p2), .val (.int p3), .val (.int p4), .val (.int p5)] [(.int (1 : Int32))])) _
    exact retN X0 hx (t := .boolean) Bd.returns (by simp) (hb hby d9_51) hr
  · show Q9 h0 n0 _ s₁.heap _
    rw [e0]
    exact ⟨rfl, N0, rfl⟩
set_option maxRecDepth 65536 in
set_option maxHeartbeats 40000000 in
theorem rm9_1 (l : Launch) (Z : State) (a0 : Array Value) (hw : ∀ d ∈ tables_1, d.before a0 Z = true) (ws : List Jvm.Cond) (a1 : Addr) (p2 : Int32) (p3 : Int32) (p4 : Int32) (p5 : Int32) (cl_a1 : Cell) (z_a1 : Int32) (w6 : Int32) (h0 : Heap) (n0 : Nat) (Z0 : n0 ≤ h0.size) (Ar_a1 : Arr Z h0 a1 cl_a1 .byte) (S_a1 : cl_a1.slots.size = z_a1.toNatClampNeg) (N_a1 : ¬ z_a1 < 0) (hin14 : ¬ ((0 : Int32) < 0 ∨ cl_a1.slots.size ≤ ((0 : Int32)).toNatClampNeg)) (hat14 : cl_a1.slots[((0 : Int32)).toNatClampNeg]? = some (.int w6)) (hc7 : z_a1 = p2) (hc16 : w6 = p3) (hc23 : ¬ ((1 : Int32) < p2)) (hc37 : ¬ ((2 : Int32) < p2)) :
    MetFree l (⟨"com/example/coord2/coord2/KeyRangePrefixPinLaw", "same", "([BIBBB)Z"⟩ : MethodName) (head1 (Jvm.Cond.code (⟨"com/example/coord2/coord2/KeyRangePrefixPinLaw", "same", "([BIBBB)Z"⟩ : MethodName) method_3_code 5 (some .boolean) :: ws) ({ frames := 0, cells := 0, slots := 0, locals := 0 } : Room)) (fun a U => a = #[(.ref a1), (.int p2), (.int p3), (.int p4), (.int p5)] ∧ Z.Warmed39 U.vm ∧ U.heap = h0) (fun _ _ _ _ _ => True) (fun _ U o U' => ∃ v L, o = .returned v ∧ Q9 h0 n0 v U'.heap L ∧ FrameEnd U o U' L ({ frames := 0, cells := 0, slots := 0, locals := 0 } : Room).cells ({ frames := 0, cells := 0, slots := 0, locals := 0 } : Room).slots) := by
  refine MetFree.of_bodySF (plainFor_of_name pn_9) hisR ?_
  intro p e s m args below meth c s₁ Bd hml0 hP hK
  obtain ⟨rfl, hZ, hh⟩ := hP
  have hx := Bd.exec
  have hby := Bd.bytes
  have hml : c.maxLocals = 5 := hml0
  have hown : s.vm.findClass "com/example/coord2/coord2/KeyRangePrefixPinLaw" = some m.cls := findClass_of_methodNamed Bd.named
  have hnm := (name_of_methodNamed Bd.named Bd.method).1
  have X0 : Stand p l e ({ frames := 0, cells := 0, slots := 0, locals := 0 } : Room) s m #[(.ref a1), (.int p2), (.int p3), (.int p4), (.int p5)] below meth c s₁ [] 0 0 := Stand.of_body Bd
  have e0 : s₁.heap = h0 := by rw [← hh, Bd.state]; rfl
  have N0 := Fr.nil n0
  have pre0 : ∀ t, Steps p.tables e below (s₁.setTop (mkF m 0 #[.val (.ref a1), .val (.int p2), .val (.int p3), .val (.int p4), .val (.int p5)] [])) t → Steps p.tables e below (s₁.setTop (entryFrame m #[(.ref a1), (.int p2), (.int p3), (.int p4), (.int p5)] 5)) t := fun t k => castTop (ef_9 m a1 p2 p3 p4 p5) k

  obtain ⟨fs, hr, hrun, hended, hW, hsame⟩ := X0.leave (v := some (.int (1 : Int32))) (fun h => by rw [Bd.returns] at h; cases h)
  refine ⟨_, _, pre0 _ ?_, hrun, hended, _, _, rfl, ?_, ⟨_, rfl⟩, hW, hsame.mono (by decide) (by decide)⟩
  · show Steps p.tables e below (s₁.setTop (mkF m 0 #[.val (.ref a1), .val (.int p2), .val (.int p3), .val (.int p4), .val (.int p5)] [])) _
    refine XS.aloadN X0.here hx rfl (hb hby d9_0) rfl rfl ?_
    show Steps p.tables e below (s₁.setTop (mkF m 1 #[.val (.ref a1), .val (.int p2), .val (.int p3), .val (.int p4), .val (.int p5)] [(.ref a1)])) _
    refine XS.ifnullNo X0.here hx rfl (hb hby d9_1) rfl ?_
    show Steps p.tables e below (s₁.setTop (mkF m 4 #[.val (.ref a1), .val (.int p2), .val (.int p3), .val (.int p4), .val (.int p5)] [])) _
    refine XS.aloadN X0.here hx rfl (hb hby d9_4) rfl rfl ?_
    show Steps p.tables e below (s₁.setTop (mkF m 5 #[.val (.ref a1), .val (.int p2), .val (.int p3), .val (.int p4), .val (.int p5)] [(.ref a1)])) _
    refine X0.arraylength hx (by rw [e0]; exact Ar_a1.1) (State.isArrayOf_alike hZ.alike Ar_a1.2.1) (g := (mkF m 5 #[.val (.ref a1), .val (.int p2), .val (.int p3), .val (.int p4), .val (.int p5)] [(.ref a1)])) rfl rfl (hb hby d9_5) _ ?_
    rw [len_of S_a1 N_a1]
    show Steps p.tables e below (s₁.setTop (mkF m 6 #[.val (.ref a1), .val (.int p2), .val (.int p3), .val (.int p4), .val (.int p5)] [(.int z_a1)])) _
    refine XS.iloadN X0.here hx rfl (hb hby d9_6) rfl ?_
    show Steps p.tables e below (s₁.setTop (mkF m 7 #[.val (.ref a1), .val (.int p2), .val (.int p3), .val (.int p4), .val (.int p5)] [(.int p2), (.int z_a1)])) _
    refine XS.icmpYes X0.here hx rfl (pc0 := 7) (pc' := 12) rfl (hb hby d9_7) rfl (teq hc7).1 (by decide) (by decide) ?_
    show Steps p.tables e below (s₁.setTop (mkF m 12 #[.val (.ref a1), .val (.int p2), .val (.int p3), .val (.int p4), .val (.int p5)] [])) _
    refine XS.aloadN X0.here hx rfl (hb hby d9_12) rfl rfl ?_
    show Steps p.tables e below (s₁.setTop (mkF m 13 #[.val (.ref a1), .val (.int p2), .val (.int p3), .val (.int p4), .val (.int p5)] [(.ref a1)])) _
    refine XS.iconst X0.here hx rfl (hb hby d9_13) ?_
    show Steps p.tables e below (s₁.setTop (mkF m 14 #[.val (.ref a1), .val (.int p2), .val (.int p3), .val (.int p4), .val (.int p5)] [(.int (0 : Int32)), (.ref a1)])) _
    refine X0.baloadBytes hx (j := (0 : Int32)) (v := (.int w6)) (by rw [e0]; exact Ar_a1.1) (State.isArrayOf_alike hZ.alike Ar_a1.2.1) Ar_a1.2.2 hin14 hat14 (g := (mkF m 14 #[.val (.ref a1), .val (.int p2), .val (.int p3), .val (.int p4), .val (.int p5)] [(.int (0 : Int32)), (.ref a1)])) rfl rfl (hb hby d9_14) _ ?_
    show Steps p.tables e below (s₁.setTop (mkF m 15 #[.val (.ref a1), .val (.int p2), .val (.int p3), .val (.int p4), .val (.int p5)] [(.int w6)])) _
    refine XS.iloadN X0.here hx rfl (hb hby d9_15) rfl ?_
    show Steps p.tables e below (s₁.setTop (mkF m 16 #[.val (.ref a1), .val (.int p2), .val (.int p3), .val (.int p4), .val (.int p5)] [(.int p3), (.int w6)])) _
    refine XS.icmpYes X0.here hx rfl (pc0 := 16) (pc' := 21) rfl (hb hby d9_16) rfl (teq hc16).1 (by decide) (by decide) ?_
    show Steps p.tables e below (s₁.setTop (mkF m 21 #[.val (.ref a1), .val (.int p2), .val (.int p3), .val (.int p4), .val (.int p5)] [])) _
    refine XS.iloadN X0.here hx rfl (hb hby d9_21) rfl ?_
    show Steps p.tables e below (s₁.setTop (mkF m 22 #[.val (.ref a1), .val (.int p2), .val (.int p3), .val (.int p4), .val (.int p5)] [(.int p2)])) _
    refine XS.iconst X0.here hx rfl (hb hby d9_22) ?_
    show Steps p.tables e below (s₁.setTop (mkF m 23 #[.val (.ref a1), .val (.int p2), .val (.int p3), .val (.int p4), .val (.int p5)] [(.int (1 : Int32)), (.int p2)])) _
    refine XS.icmpYes X0.here hx rfl (pc0 := 23) (pc' := 35) rfl (hb hby d9_23) rfl (flt hc23).2.2.2 (by decide) (by decide) ?_
    show Steps p.tables e below (s₁.setTop (mkF m 35 #[.val (.ref a1), .val (.int p2), .val (.int p3), .val (.int p4), .val (.int p5)] [])) _
    refine XS.iloadN X0.here hx rfl (hb hby d9_35) rfl ?_
    show Steps p.tables e below (s₁.setTop (mkF m 36 #[.val (.ref a1), .val (.int p2), .val (.int p3), .val (.int p4), .val (.int p5)] [(.int p2)])) _
    refine XS.iconst X0.here hx rfl (hb hby d9_36) ?_
    show Steps p.tables e below (s₁.setTop (mkF m 37 #[.val (.ref a1), .val (.int p2), .val (.int p3), .val (.int p4), .val (.int p5)] [(.int (2 : Int32)), (.int p2)])) _
    refine XS.icmpYes X0.here hx rfl (pc0 := 37) (pc' := 50) rfl (hb hby d9_37) rfl (flt hc37).2.2.2 (by decide) (by decide) ?_
    show Steps p.tables e below (s₁.setTop (mkF m 50 #[.val (.ref a1), .val (.int p2), .val (.int p3), .val (.int p4), .val (.int p5)] [])) _
    refine XS.iconst X0.here hx rfl (hb hby d9_50) ?_
    show Steps p.tables e below (s₁.setTop (mkF m 51 #[.val (.ref a1), .val (.int p2), .val (.int p3), .val (.int p4), .val (.int p5)] [(.int (1 : Int32))])) _
    exact retN X0 hx (t := .boolean) Bd.returns (by simp) (hb hby d9_51) hr
  · show Q9 h0 n0 _ s₁.heap _
    rw [e0]
    exact ⟨rfl, N0, rfl⟩
set_option maxRecDepth 65536 in
set_option maxHeartbeats 40000000 in
theorem rm9 (l : Launch) (Z : State) (a0 : Array Value) (hw : ∀ d ∈ tables_1, d.before a0 Z = true) (ws : List Jvm.Cond) (a1 : Addr) (p2 : Int32) (p3 : Int32) (p4 : Int32) (p5 : Int32) (cl : Cell) (h0 : Heap) (n0 : Nat) (Z0 : n0 ≤ h0.size) (Ar : Arr Z h0 a1 cl .byte) (Sz : cl.slots.size = p2.toNatClampNeg) (hp : p2 = 1 ∨ p2 = 2 ∨ p2 = 3) (c0 : cl.slots[0]? = some (.int p3)) (c1 : p2 = 1 ∨ cl.slots[1]? = some (.int p4)) (c2 : p2 = 1 ∨ p2 = 2 ∨ cl.slots[2]? = some (.int p5)) :
    MetFree l (⟨"com/example/coord2/coord2/KeyRangePrefixPinLaw", "same", "([BIBBB)Z"⟩ : MethodName) (head1 (Jvm.Cond.code (⟨"com/example/coord2/coord2/KeyRangePrefixPinLaw", "same", "([BIBBB)Z"⟩ : MethodName) method_3_code 5 (some .boolean) :: ws) ({ frames := 0, cells := 0, slots := 0, locals := 0 } : Room)) (fun a U => a = #[(.ref a1), (.int p2), (.int p3), (.int p4), (.int p5)] ∧ Z.Warmed39 U.vm ∧ U.heap = h0) (fun _ _ _ _ _ => True) (fun _ U o U' => ∃ v L, o = .returned v ∧ Q9 h0 n0 v U'.heap L ∧ FrameEnd U o U' L ({ frames := 0, cells := 0, slots := 0, locals := 0 } : Room).cells ({ frames := 0, cells := 0, slots := 0, locals := 0 } : Room).slots) := by
  rcases hp with rfl | rfl | rfl
  · exact rm9_1 l Z a0 hw ws a1 1 p3 p4 p5 cl 1 p3 h0 n0 Z0 Ar Sz (by decide) (by rw [Sz]; decide) c0 rfl rfl (by decide) (by decide)
  · have c1 := c1.resolve_left (by decide)
    exact rm9_2 l Z a0 hw ws a1 2 p3 p4 p5 cl 2 p3 p4 h0 n0 Z0 Ar Sz (by decide) (by rw [Sz]; decide) c0 (by rw [Sz]; decide) c1 rfl rfl (by decide) rfl (by decide)
  · have c1 := c1.resolve_left (by decide)
    have c2 := (c2.resolve_left (by decide)).resolve_left (by decide)
    exact rm9_3 l Z a0 hw ws a1 3 p3 p4 p5 cl 3 p3 p4 p5 h0 n0 Z0 Ar Sz (by decide) (by rw [Sz]; decide) c0 (by rw [Sz]; decide) c1 (by rw [Sz]; decide) c2 rfl rfl (by decide) rfl (by decide) rfl

def Q2 (Z : State) (cl : Cell) (k : Nat) (w : Int32) (r : Addr) (h0 : Heap) (n0 : Nat) (v : Option Value) (h : Heap) (L : List Loc) : Prop := v = some (.ref r) ∧ Fr n0 L ∧ Keep h0 h [] ∧ ∃ B : Cell, Arr Z h r B .byte ∧ B.slots.size = k + 1 ∧ (∀ j : Nat, j < k → B.slots[j]? = cl.slots[j]?) ∧ B.slots[k]? = some (.int ((w + (1 : Int32)).toInt8.toInt32))
theorem d2_0 : decode prog_1_method_4_code 0 = .ok (.aload_n 0, 1) := by decide +kernel
theorem d2_1 : decode prog_1_method_4_code 1 = .ok (.arraylength, 1) := by decide +kernel
theorem d2_2 : decode prog_1_method_4_code 2 = .ok (.iconst 1, 1) := by decide +kernel
theorem d2_3 : decode prog_1_method_4_code 3 = .ok (.isub, 1) := by decide +kernel
theorem d2_4 : decode prog_1_method_4_code 4 = .ok (.istore_n 1, 1) := by decide +kernel
theorem d2_5 : decode prog_1_method_4_code 5 = .ok (.aload_n 0, 1) := by decide +kernel
theorem d2_6 : decode prog_1_method_4_code 6 = .ok (.iload_n 1, 1) := by decide +kernel
theorem d2_7 : decode prog_1_method_4_code 7 = .ok (.baload, 1) := by decide +kernel
theorem d2_8 : decode prog_1_method_4_code 8 = .ok (.iconst (-1), 1) := by decide +kernel
theorem d2_9 : decode prog_1_method_4_code 9 = .ok (.if_icmp .ne 9, 3) := by decide +kernel
theorem d2_12 : decode prog_1_method_4_code 12 = .ok (.iinc 1 (-1), 3) := by decide +kernel
theorem d2_15 : decode prog_1_method_4_code 15 = .ok (.goto (-10), 3) := by decide +kernel
theorem d2_18 : decode prog_1_method_4_code 18 = .ok (.aload_n 0, 1) := by decide +kernel
theorem d2_19 : decode prog_1_method_4_code 19 = .ok (.iload_n 1, 1) := by decide +kernel
theorem d2_20 : decode prog_1_method_4_code 20 = .ok (.iconst 1, 1) := by decide +kernel
theorem d2_21 : decode prog_1_method_4_code 21 = .ok (.iadd, 1) := by decide +kernel
theorem d2_22 : decode prog_1_method_4_code 22 = .ok (.invokestatic 29, 3) := by decide +kernel
theorem d2_25 : decode prog_1_method_4_code 25 = .ok (.astore_n 2, 1) := by decide +kernel
theorem d2_26 : decode prog_1_method_4_code 26 = .ok (.aload_n 2, 1) := by decide +kernel
theorem d2_27 : decode prog_1_method_4_code 27 = .ok (.iload_n 1, 1) := by decide +kernel
theorem d2_28 : decode prog_1_method_4_code 28 = .ok (.dup2, 1) := by decide +kernel
theorem d2_29 : decode prog_1_method_4_code 29 = .ok (.baload, 1) := by decide +kernel
theorem d2_30 : decode prog_1_method_4_code 30 = .ok (.iconst 1, 1) := by decide +kernel
theorem d2_31 : decode prog_1_method_4_code 31 = .ok (.iadd, 1) := by decide +kernel
theorem d2_32 : decode prog_1_method_4_code 32 = .ok (.i2b, 1) := by decide +kernel
theorem d2_33 : decode prog_1_method_4_code 33 = .ok (.bastore, 1) := by decide +kernel
theorem d2_34 : decode prog_1_method_4_code 34 = .ok (.aload_n 2, 1) := by decide +kernel
theorem d2_35 : decode prog_1_method_4_code 35 = .ok (.areturn, 1) := by decide +kernel
theorem pn_2 : plainName "com/example/coord2/coord2/KeyRange" = true := by first | (simp [plainName, overriddenIn]; done) | decide +kernel
theorem pd_2_2 : parseMethodDescriptor "([BI)[B" = some ⟨[(.array .byte), .int], some (.array .byte)⟩ := by decide +kernel
theorem ef_2 (m : MethodId) (x0 : Addr) : entryFrame m #[(.ref x0)] 3 = mkF m 0 #[.val (.ref x0), .unset, .unset] [] := by first | (simp [entryFrame, mkF, argsToLocals, Value.category]; done) | rfl
set_option maxRecDepth 65536 in
set_option maxHeartbeats 40000000 in
theorem rm2_30 (l : Launch) (Z : State) (a0 : Array Value) (hw : ∀ d ∈ tables_1, d.before a0 Z = true) (ws : List Jvm.Cond) (a1 : Addr) (cl : Cell) (w : Int32) (r : Addr) (h0 : Heap) (n0 : Nat) (Z0 : n0 ≤ h0.size) (hr0 : r = h0.size) (Ar : Arr Z h0 a1 cl .byte) (Ex : Exa Z h0 a1 "[B") (Sz : cl.slots.size = (3 : Int32).toNatClampNeg) (Ty : ∀ (i : Nat) (v : Value), cl.slots[i]? = some v → fits .byte v = true) (hk : cl.slots[0]? = some (.int w)) (hne : ¬ (w = (-1 : Int32))) (hl1 : cl.slots[1]? = some (.int (-1 : Int32))) (hl2 : cl.slots[2]? = some (.int (-1 : Int32))) :
    MetFree l (⟨"com/example/coord2/coord2/KeyRange", "successor", "([B)[B"⟩ : MethodName) (head1 (Jvm.Cond.code (⟨"com/example/coord2/coord2/KeyRange", "successor", "([B)[B"⟩ : MethodName) prog_1_method_4_code 3 (some (.array .byte)) :: ws) ({ frames := 2, cells := 1, slots := 3, locals := 54 } : Room)) (fun a U => a = #[(.ref a1)] ∧ Z.Warmed39 U.vm ∧ U.heap = h0) (fun _ _ _ _ _ => True) (fun _ U o U' => ∃ v L, o = .returned v ∧ Q2 Z cl 0 w r h0 n0 v U'.heap L ∧ FrameEnd U o U' L ({ frames := 2, cells := 1, slots := 3, locals := 54 } : Room).cells ({ frames := 2, cells := 1, slots := 3, locals := 54 } : Room).slots) := by
  refine MetFree.of_bodySF (plainFor_of_name pn_2) hisR ?_
  intro p e s m args below meth c s₁ Bd hml0 hP hK
  obtain ⟨rfl, hZ, hh⟩ := hP
  have hx := Bd.exec
  have hby := Bd.bytes
  have hml : c.maxLocals = 3 := hml0
  have hown : s.vm.findClass "com/example/coord2/coord2/KeyRange" = some m.cls := findClass_of_methodNamed Bd.named
  have hnm := (name_of_methodNamed Bd.named Bd.method).1
  have X0 : Stand p l e ({ frames := 2, cells := 1, slots := 3, locals := 54 } : Room) s m #[(.ref a1)] below meth c s₁ [] 0 0 := Stand.of_body Bd
  have e0 : s₁.heap = h0 := by rw [← hh, Bd.state]; rfl
  have N0 := Fr.nil n0
  have pre0 : ∀ t, Steps p.tables e below (s₁.setTop (mkF m 0 #[.val (.ref a1), .unset, .unset] [])) t → Steps p.tables e below (s₁.setTop (entryFrame m #[(.ref a1)] 3)) t := fun t k => castTop (ef_2 m a1) k
  obtain ⟨v5, vq5, ⟨T5, L5, k5, n5⟩, hv5, X5, ⟨hE5, l5, y5, z5⟩, st5⟩ := Jvm.LawKit.callS X0 hx (y := (⟨"java/util/Arrays", "copyOf", "([BI)[B"⟩ : MethodName)) hown (mvT hZ (hw _ (List.mem_of_getElem? (i := 10) rfl))) (mvT hZ (hw _ (List.mem_of_getElem? (i := 11) rfl))) (mvT hZ (hw _ (List.mem_of_getElem? (i := 12) rfl))) (mvT hZ (hw _ (List.mem_of_getElem? (i := 13) rfl))) (by decide) (Jvm.Free.JA.CopyOfB.pays (W := 0) a1 cl 1 (own_tab hZ hw) (by decide) (by decide)) (g := (mkF m 22 #[.val (.ref a1), .val (.int ((((3 : Int32) - (1 : Int32)) + (-1 : Int32)) + (-1 : Int32))), .unset] [(.int (((((3 : Int32) - (1 : Int32)) + (-1 : Int32)) + (-1 : Int32)) + (1 : Int32))), (.ref a1)])) rfl (by rw [hml]; rfl) (argsL := [(.ref a1), (.int (((((3 : Int32) - (1 : Int32)) + (-1 : Int32)) + (-1 : Int32)) + (1 : Int32)))]) (rest := []) (lenOf pd_2_2 rfl) rfl (by show 2 * 0 + _ ≤ _; exact Nat.le_of_eq rfl) (hb hby d2_22) (fun vm₁ hv => ⟨Nat.le_of_ble_eq_true rfl, Nat.le_of_ble_eq_true rfl, own_P hZ hv e0 Ar Ex (by rw [Sz]; decide) Ty (by decide) (by decide)⟩)
  dsimp only [Pt.U, Pt.locs, Pt.cells, Pt.slots] at X5 l5 y5 z5 st5 hE5
  subst l5 y5 z5
  obtain ⟨hv, KB, B, ArB, SB, HB⟩ := own_new (show (s₁.setVm vq5).heap = h0 from e0) (hZ.alike.trans X5.warmed.alike) hE5
  rw [← hr0] at hv ArB
  subst hv
  have hin29 : ¬ (((((3 : Int32) - (1 : Int32)) + (-1 : Int32)) + (-1 : Int32)) < 0 ∨ B.slots.size ≤ (((((3 : Int32) - (1 : Int32)) + (-1 : Int32)) + (-1 : Int32))).toNatClampNeg) := by rw [SB]; decide
  have hat29 : B.slots[(((((3 : Int32) - (1 : Int32)) + (-1 : Int32)) + (-1 : Int32))).toNatClampNeg]? = some (.int w) := by
    rw [(by decide : (((((3 : Int32) - (1 : Int32)) + (-1 : Int32)) + (-1 : Int32))).toNatClampNeg = 0), HB 0 (by decide)]
    show some (cl.slots.getD 0 _) = _
    rw [Array.getD_eq_getD_getElem?, hk]; rfl
  have hin33 := hin29
  have g_r : n0 ≤ r := by rw [hr0]; exact Z0
  have N5 : Fr n0 ([] ++ []) := Fr.app N0 N0
  obtain ⟨T7, h7, X7, e7, W7, st7⟩ := stB X5 hx hZ rfl ArB (j := ((((3 : Int32) - (1 : Int32)) + (-1 : Int32)) + (-1 : Int32))) hin33 (g := (mkF m 33 #[.val (.ref a1), .val (.int ((((3 : Int32) - (1 : Int32)) + (-1 : Int32)) + (-1 : Int32))), .val (.ref r)] [(.int ((w + (1 : Int32)).toInt8.toInt32)), (.int ((((3 : Int32) - (1 : Int32)) + (-1 : Int32)) + (-1 : Int32))), (.ref r)])) rfl rfl (hb hby d2_33)
  have N7 := Fr.snoc X7 N5 g_r
  have KW : Keep h0 h7 [] := KB.wr W7 (Or.inr (Nat.le_of_eq hr0.symm))
  obtain ⟨B', hB', -, -, hsz, -, hoth, hsm⟩ := wr_at W7 ArB.1
  have ArW : Arr Z h7 r B' .byte := by rw [(hsm rfl).1]; exact ArB.same W7
  obtain ⟨fs, hr, hrun, hended, hW, hsame⟩ := X7.leave (v := some (.ref r)) (fun h => by rw [Bd.returns] at h; cases h)
  refine ⟨_, _, pre0 _ ?_, hrun, hended, _, _, rfl, ?_, ⟨_, rfl⟩, hW, hsame.mono (by decide) (by decide)⟩
  · show Steps p.tables e below (s₁.setTop (mkF m 0 #[.val (.ref a1), .unset, .unset] [])) _
    refine XS.aloadN X0.here hx rfl (hb hby d2_0) rfl rfl ?_
    show Steps p.tables e below (s₁.setTop (mkF m 1 #[.val (.ref a1), .unset, .unset] [(.ref a1)])) _
    refine X0.arraylength hx (by rw [e0]; exact Ar.1) (State.isArrayOf_alike hZ.alike Ar.2.1) (g := (mkF m 1 #[.val (.ref a1), .unset, .unset] [(.ref a1)])) rfl rfl (hb hby d2_1) _ ?_
    rw [len_of Sz (by decide)]
    show Steps p.tables e below (s₁.setTop (mkF m 2 #[.val (.ref a1), .unset, .unset] [(.int (3 : Int32))])) _
    refine XS.iconst X0.here hx rfl (hb hby d2_2) ?_
    show Steps p.tables e below (s₁.setTop (mkF m 3 #[.val (.ref a1), .unset, .unset] [(.int (1 : Int32)), (.int (3 : Int32))])) _
    refine XS.isub X0.here hx rfl (hb hby d2_3) rfl ?_
    show Steps p.tables e below (s₁.setTop (mkF m 4 #[.val (.ref a1), .unset, .unset] [(.int ((3 : Int32) - (1 : Int32)))])) _
    refine XS.istoreN X0.here hx rfl (hb hby d2_4) rfl (l' := #[.val (.ref a1), .val (.int ((3 : Int32) - (1 : Int32))), .unset]) rfl ?_
    show Steps p.tables e below (s₁.setTop (mkF m 5 #[.val (.ref a1), .val (.int ((3 : Int32) - (1 : Int32))), .unset] [])) _
    refine XS.aloadN X0.here hx rfl (hb hby d2_5) rfl rfl ?_
    show Steps p.tables e below (s₁.setTop (mkF m 6 #[.val (.ref a1), .val (.int ((3 : Int32) - (1 : Int32))), .unset] [(.ref a1)])) _
    refine XS.iloadN X0.here hx rfl (hb hby d2_6) rfl ?_
    show Steps p.tables e below (s₁.setTop (mkF m 7 #[.val (.ref a1), .val (.int ((3 : Int32) - (1 : Int32))), .unset] [(.int ((3 : Int32) - (1 : Int32))), (.ref a1)])) _
    refine X0.baloadBytes hx (j := ((3 : Int32) - (1 : Int32))) (v := (.int (-1 : Int32))) (by rw [e0]; exact Ar.1) (State.isArrayOf_alike hZ.alike Ar.2.1) Ar.2.2 (by rw [Sz]; decide) (by rw [(by decide : (((3 : Int32) - (1 : Int32))).toNatClampNeg = 2)]; exact hl2) (g := (mkF m 7 #[.val (.ref a1), .val (.int ((3 : Int32) - (1 : Int32))), .unset] [(.int ((3 : Int32) - (1 : Int32))), (.ref a1)])) rfl rfl (hb hby d2_7) _ ?_
    show Steps p.tables e below (s₁.setTop (mkF m 8 #[.val (.ref a1), .val (.int ((3 : Int32) - (1 : Int32))), .unset] [(.int (-1 : Int32))])) _
    refine XS.iconst X0.here hx rfl (hb hby d2_8) ?_
    show Steps p.tables e below (s₁.setTop (mkF m 9 #[.val (.ref a1), .val (.int ((3 : Int32) - (1 : Int32))), .unset] [(.int (-1 : Int32)), (.int (-1 : Int32))])) _
    refine XS.icmpNo X0.here hx rfl (hb hby d2_9) rfl (teq (rfl : (-1 : Int32) = (-1 : Int32))).2 ?_
    show Steps p.tables e below (s₁.setTop (mkF m 12 #[.val (.ref a1), .val (.int ((3 : Int32) - (1 : Int32))), .unset] [])) _
    refine XS.iinc X0.here hx rfl (hb hby d2_12) rfl (l' := #[.val (.ref a1), .val (.int (((3 : Int32) - (1 : Int32)) + (-1 : Int32))), .unset]) rfl ?_
    show Steps p.tables e below (s₁.setTop (mkF m 15 #[.val (.ref a1), .val (.int (((3 : Int32) - (1 : Int32)) + (-1 : Int32))), .unset] [])) _
    refine XS.goto X0.here hx rfl (pc0 := 15) (pc' := 5) rfl (hb hby d2_15) (by decide) (by decide) ?_
    show Steps p.tables e below (s₁.setTop (mkF m 5 #[.val (.ref a1), .val (.int (((3 : Int32) - (1 : Int32)) + (-1 : Int32))), .unset] [])) _
    refine XS.aloadN X0.here hx rfl (hb hby d2_5) rfl rfl ?_
    show Steps p.tables e below (s₁.setTop (mkF m 6 #[.val (.ref a1), .val (.int (((3 : Int32) - (1 : Int32)) + (-1 : Int32))), .unset] [(.ref a1)])) _
    refine XS.iloadN X0.here hx rfl (hb hby d2_6) rfl ?_
    show Steps p.tables e below (s₁.setTop (mkF m 7 #[.val (.ref a1), .val (.int (((3 : Int32) - (1 : Int32)) + (-1 : Int32))), .unset] [(.int (((3 : Int32) - (1 : Int32)) + (-1 : Int32))), (.ref a1)])) _
    refine X0.baloadBytes hx (j := (((3 : Int32) - (1 : Int32)) + (-1 : Int32))) (v := (.int (-1 : Int32))) (by rw [e0]; exact Ar.1) (State.isArrayOf_alike hZ.alike Ar.2.1) Ar.2.2 (by rw [Sz]; decide) (by rw [(by decide : ((((3 : Int32) - (1 : Int32)) + (-1 : Int32))).toNatClampNeg = 1)]; exact hl1) (g := (mkF m 7 #[.val (.ref a1), .val (.int (((3 : Int32) - (1 : Int32)) + (-1 : Int32))), .unset] [(.int (((3 : Int32) - (1 : Int32)) + (-1 : Int32))), (.ref a1)])) rfl rfl (hb hby d2_7) _ ?_
    show Steps p.tables e below (s₁.setTop (mkF m 8 #[.val (.ref a1), .val (.int (((3 : Int32) - (1 : Int32)) + (-1 : Int32))), .unset] [(.int (-1 : Int32))])) _
    refine XS.iconst X0.here hx rfl (hb hby d2_8) ?_
    show Steps p.tables e below (s₁.setTop (mkF m 9 #[.val (.ref a1), .val (.int (((3 : Int32) - (1 : Int32)) + (-1 : Int32))), .unset] [(.int (-1 : Int32)), (.int (-1 : Int32))])) _
    refine XS.icmpNo X0.here hx rfl (hb hby d2_9) rfl (teq (rfl : (-1 : Int32) = (-1 : Int32))).2 ?_
    show Steps p.tables e below (s₁.setTop (mkF m 12 #[.val (.ref a1), .val (.int (((3 : Int32) - (1 : Int32)) + (-1 : Int32))), .unset] [])) _
    refine XS.iinc X0.here hx rfl (hb hby d2_12) rfl (l' := #[.val (.ref a1), .val (.int ((((3 : Int32) - (1 : Int32)) + (-1 : Int32)) + (-1 : Int32))), .unset]) rfl ?_
    show Steps p.tables e below (s₁.setTop (mkF m 15 #[.val (.ref a1), .val (.int ((((3 : Int32) - (1 : Int32)) + (-1 : Int32)) + (-1 : Int32))), .unset] [])) _
    refine XS.goto X0.here hx rfl (pc0 := 15) (pc' := 5) rfl (hb hby d2_15) (by decide) (by decide) ?_
    show Steps p.tables e below (s₁.setTop (mkF m 5 #[.val (.ref a1), .val (.int ((((3 : Int32) - (1 : Int32)) + (-1 : Int32)) + (-1 : Int32))), .unset] [])) _
    refine XS.aloadN X0.here hx rfl (hb hby d2_5) rfl rfl ?_
    show Steps p.tables e below (s₁.setTop (mkF m 6 #[.val (.ref a1), .val (.int ((((3 : Int32) - (1 : Int32)) + (-1 : Int32)) + (-1 : Int32))), .unset] [(.ref a1)])) _
    refine XS.iloadN X0.here hx rfl (hb hby d2_6) rfl ?_
    show Steps p.tables e below (s₁.setTop (mkF m 7 #[.val (.ref a1), .val (.int ((((3 : Int32) - (1 : Int32)) + (-1 : Int32)) + (-1 : Int32))), .unset] [(.int ((((3 : Int32) - (1 : Int32)) + (-1 : Int32)) + (-1 : Int32))), (.ref a1)])) _
    refine X0.baloadBytes hx (j := ((((3 : Int32) - (1 : Int32)) + (-1 : Int32)) + (-1 : Int32))) (v := (.int w)) (by rw [e0]; exact Ar.1) (State.isArrayOf_alike hZ.alike Ar.2.1) Ar.2.2 (by rw [Sz]; decide) (by rw [(by decide : (((((3 : Int32) - (1 : Int32)) + (-1 : Int32)) + (-1 : Int32))).toNatClampNeg = 0)]; exact hk) (g := (mkF m 7 #[.val (.ref a1), .val (.int ((((3 : Int32) - (1 : Int32)) + (-1 : Int32)) + (-1 : Int32))), .unset] [(.int ((((3 : Int32) - (1 : Int32)) + (-1 : Int32)) + (-1 : Int32))), (.ref a1)])) rfl rfl (hb hby d2_7) _ ?_
    show Steps p.tables e below (s₁.setTop (mkF m 8 #[.val (.ref a1), .val (.int ((((3 : Int32) - (1 : Int32)) + (-1 : Int32)) + (-1 : Int32))), .unset] [(.int w)])) _
    refine XS.iconst X0.here hx rfl (hb hby d2_8) ?_
    show Steps p.tables e below (s₁.setTop (mkF m 9 #[.val (.ref a1), .val (.int ((((3 : Int32) - (1 : Int32)) + (-1 : Int32)) + (-1 : Int32))), .unset] [(.int (-1 : Int32)), (.int w)])) _
    refine XS.icmpYes X0.here hx rfl (pc0 := 9) (pc' := 18) rfl (hb hby d2_9) rfl (feq hne).2 (by decide) (by decide) ?_
    show Steps p.tables e below (s₁.setTop (mkF m 18 #[.val (.ref a1), .val (.int ((((3 : Int32) - (1 : Int32)) + (-1 : Int32)) + (-1 : Int32))), .unset] [])) _
    refine XS.aloadN X0.here hx rfl (hb hby d2_18) rfl rfl ?_
    show Steps p.tables e below (s₁.setTop (mkF m 19 #[.val (.ref a1), .val (.int ((((3 : Int32) - (1 : Int32)) + (-1 : Int32)) + (-1 : Int32))), .unset] [(.ref a1)])) _
    refine XS.iloadN X0.here hx rfl (hb hby d2_19) rfl ?_
    show Steps p.tables e below (s₁.setTop (mkF m 20 #[.val (.ref a1), .val (.int ((((3 : Int32) - (1 : Int32)) + (-1 : Int32)) + (-1 : Int32))), .unset] [(.int ((((3 : Int32) - (1 : Int32)) + (-1 : Int32)) + (-1 : Int32))), (.ref a1)])) _
    refine XS.iconst X0.here hx rfl (hb hby d2_20) ?_
    show Steps p.tables e below (s₁.setTop (mkF m 21 #[.val (.ref a1), .val (.int ((((3 : Int32) - (1 : Int32)) + (-1 : Int32)) + (-1 : Int32))), .unset] [(.int (1 : Int32)), (.int ((((3 : Int32) - (1 : Int32)) + (-1 : Int32)) + (-1 : Int32))), (.ref a1)])) _
    refine XS.iadd X0.here hx rfl (hb hby d2_21) rfl ?_
    show Steps p.tables e below (s₁.setTop (mkF m 22 #[.val (.ref a1), .val (.int ((((3 : Int32) - (1 : Int32)) + (-1 : Int32)) + (-1 : Int32))), .unset] [(.int (((((3 : Int32) - (1 : Int32)) + (-1 : Int32)) + (-1 : Int32)) + (1 : Int32))), (.ref a1)])) _
    refine st5 _ ?_
    show Steps p.tables e below (T5.setTop (mkF m 25 #[.val (.ref a1), .val (.int ((((3 : Int32) - (1 : Int32)) + (-1 : Int32)) + (-1 : Int32))), .unset] [(.ref r)])) _
    refine XS.astoreN X5.here hx rfl (hb hby d2_25) rfl rfl (l' := #[.val (.ref a1), .val (.int ((((3 : Int32) - (1 : Int32)) + (-1 : Int32)) + (-1 : Int32))), .val (.ref r)]) rfl ?_
    show Steps p.tables e below (T5.setTop (mkF m 26 #[.val (.ref a1), .val (.int ((((3 : Int32) - (1 : Int32)) + (-1 : Int32)) + (-1 : Int32))), .val (.ref r)] [])) _
    refine XS.aloadN X5.here hx rfl (hb hby d2_26) rfl rfl ?_
    show Steps p.tables e below (T5.setTop (mkF m 27 #[.val (.ref a1), .val (.int ((((3 : Int32) - (1 : Int32)) + (-1 : Int32)) + (-1 : Int32))), .val (.ref r)] [(.ref r)])) _
    refine XS.iloadN X5.here hx rfl (hb hby d2_27) rfl ?_
    show Steps p.tables e below (T5.setTop (mkF m 28 #[.val (.ref a1), .val (.int ((((3 : Int32) - (1 : Int32)) + (-1 : Int32)) + (-1 : Int32))), .val (.ref r)] [(.int ((((3 : Int32) - (1 : Int32)) + (-1 : Int32)) + (-1 : Int32))), (.ref r)])) _
    jvm_step X5.here [X5.here.top, hx, (hb hby d2_28), Value.category]
    show Steps p.tables e below (T5.setTop (mkF m 29 #[.val (.ref a1), .val (.int ((((3 : Int32) - (1 : Int32)) + (-1 : Int32)) + (-1 : Int32))), .val (.ref r)] [(.int ((((3 : Int32) - (1 : Int32)) + (-1 : Int32)) + (-1 : Int32))), (.ref r), (.int ((((3 : Int32) - (1 : Int32)) + (-1 : Int32)) + (-1 : Int32))), (.ref r)])) _
    refine X5.baloadBytes hx (j := ((((3 : Int32) - (1 : Int32)) + (-1 : Int32)) + (-1 : Int32))) (v := (.int w)) ArB.1 (State.isArrayOf_alike hZ.alike ArB.2.1) ArB.2.2 hin29 hat29 (g := (mkF m 29 #[.val (.ref a1), .val (.int ((((3 : Int32) - (1 : Int32)) + (-1 : Int32)) + (-1 : Int32))), .val (.ref r)] [(.int ((((3 : Int32) - (1 : Int32)) + (-1 : Int32)) + (-1 : Int32))), (.ref r), (.int ((((3 : Int32) - (1 : Int32)) + (-1 : Int32)) + (-1 : Int32))), (.ref r)])) rfl rfl (hb hby d2_29) _ ?_
    show Steps p.tables e below (T5.setTop (mkF m 30 #[.val (.ref a1), .val (.int ((((3 : Int32) - (1 : Int32)) + (-1 : Int32)) + (-1 : Int32))), .val (.ref r)] [(.int w), (.int ((((3 : Int32) - (1 : Int32)) + (-1 : Int32)) + (-1 : Int32))), (.ref r)])) _
    refine XS.iconst X5.here hx rfl (hb hby d2_30) ?_
    show Steps p.tables e below (T5.setTop (mkF m 31 #[.val (.ref a1), .val (.int ((((3 : Int32) - (1 : Int32)) + (-1 : Int32)) + (-1 : Int32))), .val (.ref r)] [(.int (1 : Int32)), (.int w), (.int ((((3 : Int32) - (1 : Int32)) + (-1 : Int32)) + (-1 : Int32))), (.ref r)])) _
    refine XS.iadd X5.here hx rfl (hb hby d2_31) rfl ?_
    show Steps p.tables e below (T5.setTop (mkF m 32 #[.val (.ref a1), .val (.int ((((3 : Int32) - (1 : Int32)) + (-1 : Int32)) + (-1 : Int32))), .val (.ref r)] [(.int (w + (1 : Int32))), (.int ((((3 : Int32) - (1 : Int32)) + (-1 : Int32)) + (-1 : Int32))), (.ref r)])) _
    refine XS.i2b X5.here hx rfl (hb hby d2_32) rfl ?_
    show Steps p.tables e below (T5.setTop (mkF m 33 #[.val (.ref a1), .val (.int ((((3 : Int32) - (1 : Int32)) + (-1 : Int32)) + (-1 : Int32))), .val (.ref r)] [(.int ((w + (1 : Int32)).toInt8.toInt32)), (.int ((((3 : Int32) - (1 : Int32)) + (-1 : Int32)) + (-1 : Int32))), (.ref r)])) _
    refine st7 _ ?_
    show Steps p.tables e below (T7.setTop (mkF m 34 #[.val (.ref a1), .val (.int ((((3 : Int32) - (1 : Int32)) + (-1 : Int32)) + (-1 : Int32))), .val (.ref r)] [])) _
    refine XS.aloadN X7.here hx rfl (hb hby d2_34) rfl rfl ?_
    show Steps p.tables e below (T7.setTop (mkF m 35 #[.val (.ref a1), .val (.int ((((3 : Int32) - (1 : Int32)) + (-1 : Int32)) + (-1 : Int32))), .val (.ref r)] [(.ref r)])) _
    jvm_step X7.here [X7.here.top, hx, (hb hby d2_35), X7.method', Bd.returns, Value.isRef, FieldType.isReference]
    first | (intro acts; rw [hr _ acts rfl rfl rfl]) | rw [hr _ _ rfl rfl rfl]
    exact Steps.refl _
  · show Q2 Z cl 0 w r h0 n0 _ T7.heap _
    rw [e7]
    refine ⟨rfl, N7, KW, B', ArW, hsz.trans SB, fun j hj => ?_, ?_⟩
    · rw [hoth j (by rw [(by decide : (((((3 : Int32) - (1 : Int32)) + (-1 : Int32)) + (-1 : Int32))).toNatClampNeg = 0)]; omega), HB j (by omega), Array.getD_eq_getD_getElem?]
      have hj' : j < cl.slots.size := by rw [Sz]; exact Nat.lt_of_lt_of_le hj (by decide)
      rw [Array.getElem?_eq_getElem hj']; rfl
    · have q := (hsm rfl).2.1
      rw [(by decide : (((((3 : Int32) - (1 : Int32)) + (-1 : Int32)) + (-1 : Int32))).toNatClampNeg = 0)] at q
      rw [q]; exact congrArg (fun y => some (Value.int y)) (own_nar _)

set_option maxRecDepth 65536 in
set_option maxHeartbeats 40000000 in
theorem rm2_20 (l : Launch) (Z : State) (a0 : Array Value) (hw : ∀ d ∈ tables_1, d.before a0 Z = true) (ws : List Jvm.Cond) (a1 : Addr) (cl : Cell) (w : Int32) (r : Addr) (h0 : Heap) (n0 : Nat) (Z0 : n0 ≤ h0.size) (hr0 : r = h0.size) (Ar : Arr Z h0 a1 cl .byte) (Ex : Exa Z h0 a1 "[B") (Sz : cl.slots.size = (2 : Int32).toNatClampNeg) (Ty : ∀ (i : Nat) (v : Value), cl.slots[i]? = some v → fits .byte v = true) (hk : cl.slots[0]? = some (.int w)) (hne : ¬ (w = (-1 : Int32))) (hl1 : cl.slots[1]? = some (.int (-1 : Int32))) :
    MetFree l (⟨"com/example/coord2/coord2/KeyRange", "successor", "([B)[B"⟩ : MethodName) (head1 (Jvm.Cond.code (⟨"com/example/coord2/coord2/KeyRange", "successor", "([B)[B"⟩ : MethodName) prog_1_method_4_code 3 (some (.array .byte)) :: ws) ({ frames := 2, cells := 1, slots := 3, locals := 54 } : Room)) (fun a U => a = #[(.ref a1)] ∧ Z.Warmed39 U.vm ∧ U.heap = h0) (fun _ _ _ _ _ => True) (fun _ U o U' => ∃ v L, o = .returned v ∧ Q2 Z cl 0 w r h0 n0 v U'.heap L ∧ FrameEnd U o U' L ({ frames := 2, cells := 1, slots := 3, locals := 54 } : Room).cells ({ frames := 2, cells := 1, slots := 3, locals := 54 } : Room).slots) := by
  refine MetFree.of_bodySF (plainFor_of_name pn_2) hisR ?_
  intro p e s m args below meth c s₁ Bd hml0 hP hK
  obtain ⟨rfl, hZ, hh⟩ := hP
  have hx := Bd.exec
  have hby := Bd.bytes
  have hml : c.maxLocals = 3 := hml0
  have hown : s.vm.findClass "com/example/coord2/coord2/KeyRange" = some m.cls := findClass_of_methodNamed Bd.named
  have hnm := (name_of_methodNamed Bd.named Bd.method).1
  have X0 : Stand p l e ({ frames := 2, cells := 1, slots := 3, locals := 54 } : Room) s m #[(.ref a1)] below meth c s₁ [] 0 0 := Stand.of_body Bd
  have e0 : s₁.heap = h0 := by rw [← hh, Bd.state]; rfl
  have N0 := Fr.nil n0
  have pre0 : ∀ t, Steps p.tables e below (s₁.setTop (mkF m 0 #[.val (.ref a1), .unset, .unset] [])) t → Steps p.tables e below (s₁.setTop (entryFrame m #[(.ref a1)] 3)) t := fun t k => castTop (ef_2 m a1) k
  obtain ⟨v4, vq4, ⟨T4, L4, k4, n4⟩, hv4, X4, ⟨hE4, l4, y4, z4⟩, st4⟩ := Jvm.LawKit.callS X0 hx (y := (⟨"java/util/Arrays", "copyOf", "([BI)[B"⟩ : MethodName)) hown (mvT hZ (hw _ (List.mem_of_getElem? (i := 10) rfl))) (mvT hZ (hw _ (List.mem_of_getElem? (i := 11) rfl))) (mvT hZ (hw _ (List.mem_of_getElem? (i := 12) rfl))) (mvT hZ (hw _ (List.mem_of_getElem? (i := 13) rfl))) (by decide) (Jvm.Free.JA.CopyOfB.pays (W := 0) a1 cl 1 (own_tab hZ hw) (by decide) (by decide)) (g := (mkF m 22 #[.val (.ref a1), .val (.int (((2 : Int32) - (1 : Int32)) + (-1 : Int32))), .unset] [(.int ((((2 : Int32) - (1 : Int32)) + (-1 : Int32)) + (1 : Int32))), (.ref a1)])) rfl (by rw [hml]; rfl) (argsL := [(.ref a1), (.int ((((2 : Int32) - (1 : Int32)) + (-1 : Int32)) + (1 : Int32)))]) (rest := []) (lenOf pd_2_2 rfl) rfl (by show 2 * 0 + _ ≤ _; exact Nat.le_of_eq rfl) (hb hby d2_22) (fun vm₁ hv => ⟨Nat.le_of_ble_eq_true rfl, Nat.le_of_ble_eq_true rfl, own_P hZ hv e0 Ar Ex (by rw [Sz]; decide) Ty (by decide) (by decide)⟩)
  dsimp only [Pt.U, Pt.locs, Pt.cells, Pt.slots] at X4 l4 y4 z4 st4 hE4
  subst l4 y4 z4
  obtain ⟨hv, KB, B, ArB, SB, HB⟩ := own_new (show (s₁.setVm vq4).heap = h0 from e0) (hZ.alike.trans X4.warmed.alike) hE4
  rw [← hr0] at hv ArB
  subst hv
  have hin29 : ¬ ((((2 : Int32) - (1 : Int32)) + (-1 : Int32)) < 0 ∨ B.slots.size ≤ ((((2 : Int32) - (1 : Int32)) + (-1 : Int32))).toNatClampNeg) := by rw [SB]; decide
  have hat29 : B.slots[((((2 : Int32) - (1 : Int32)) + (-1 : Int32))).toNatClampNeg]? = some (.int w) := by
    rw [(by decide : ((((2 : Int32) - (1 : Int32)) + (-1 : Int32))).toNatClampNeg = 0), HB 0 (by decide)]
    show some (cl.slots.getD 0 _) = _
    rw [Array.getD_eq_getD_getElem?, hk]; rfl
  have hin33 := hin29
  have g_r : n0 ≤ r := by rw [hr0]; exact Z0
  have N4 : Fr n0 ([] ++ []) := Fr.app N0 N0
  obtain ⟨T6, h6, X6, e6, W6, st6⟩ := stB X4 hx hZ rfl ArB (j := (((2 : Int32) - (1 : Int32)) + (-1 : Int32))) hin33 (g := (mkF m 33 #[.val (.ref a1), .val (.int (((2 : Int32) - (1 : Int32)) + (-1 : Int32))), .val (.ref r)] [(.int ((w + (1 : Int32)).toInt8.toInt32)), (.int (((2 : Int32) - (1 : Int32)) + (-1 : Int32))), (.ref r)])) rfl rfl (hb hby d2_33)
  have N6 := Fr.snoc X6 N4 g_r
  have KW : Keep h0 h6 [] := KB.wr W6 (Or.inr (Nat.le_of_eq hr0.symm))
  obtain ⟨B', hB', -, -, hsz, -, hoth, hsm⟩ := wr_at W6 ArB.1
  have ArW : Arr Z h6 r B' .byte := by rw [(hsm rfl).1]; exact ArB.same W6
  obtain ⟨fs, hr, hrun, hended, hW, hsame⟩ := X6.leave (v := some (.ref r)) (fun h => by rw [Bd.returns] at h; cases h)
  refine ⟨_, _, pre0 _ ?_, hrun, hended, _, _, rfl, ?_, ⟨_, rfl⟩, hW, hsame.mono (by decide) (by decide)⟩
  · show Steps p.tables e below (s₁.setTop (mkF m 0 #[.val (.ref a1), .unset, .unset] [])) _
    refine XS.aloadN X0.here hx rfl (hb hby d2_0) rfl rfl ?_
    show Steps p.tables e below (s₁.setTop (mkF m 1 #[.val (.ref a1), .unset, .unset] [(.ref a1)])) _
    refine X0.arraylength hx (by rw [e0]; exact Ar.1) (State.isArrayOf_alike hZ.alike Ar.2.1) (g := (mkF m 1 #[.val (.ref a1), .unset, .unset] [(.ref a1)])) rfl rfl (hb hby d2_1) _ ?_
    rw [len_of Sz (by decide)]
    show Steps p.tables e below (s₁.setTop (mkF m 2 #[.val (.ref a1), .unset, .unset] [(.int (2 : Int32))])) _
    refine XS.iconst X0.here hx rfl (hb hby d2_2) ?_
    show Steps p.tables e below (s₁.setTop (mkF m 3 #[.val (.ref a1), .unset, .unset] [(.int (1 : Int32)), (.int (2 : Int32))])) _
    refine XS.isub X0.here hx rfl (hb hby d2_3) rfl ?_
    show Steps p.tables e below (s₁.setTop (mkF m 4 #[.val (.ref a1), .unset, .unset] [(.int ((2 : Int32) - (1 : Int32)))])) _
    refine XS.istoreN X0.here hx rfl (hb hby d2_4) rfl (l' := #[.val (.ref a1), .val (.int ((2 : Int32) - (1 : Int32))), .unset]) rfl ?_
    show Steps p.tables e below (s₁.setTop (mkF m 5 #[.val (.ref a1), .val (.int ((2 : Int32) - (1 : Int32))), .unset] [])) _
    refine XS.aloadN X0.here hx rfl (hb hby d2_5) rfl rfl ?_
    show Steps p.tables e below (s₁.setTop (mkF m 6 #[.val (.ref a1), .val (.int ((2 : Int32) - (1 : Int32))), .unset] [(.ref a1)])) _
    refine XS.iloadN X0.here hx rfl (hb hby d2_6) rfl ?_
    show Steps p.tables e below (s₁.setTop (mkF m 7 #[.val (.ref a1), .val (.int ((2 : Int32) - (1 : Int32))), .unset] [(.int ((2 : Int32) - (1 : Int32))), (.ref a1)])) _
    refine X0.baloadBytes hx (j := ((2 : Int32) - (1 : Int32))) (v := (.int (-1 : Int32))) (by rw [e0]; exact Ar.1) (State.isArrayOf_alike hZ.alike Ar.2.1) Ar.2.2 (by rw [Sz]; decide) (by rw [(by decide : (((2 : Int32) - (1 : Int32))).toNatClampNeg = 1)]; exact hl1) (g := (mkF m 7 #[.val (.ref a1), .val (.int ((2 : Int32) - (1 : Int32))), .unset] [(.int ((2 : Int32) - (1 : Int32))), (.ref a1)])) rfl rfl (hb hby d2_7) _ ?_
    show Steps p.tables e below (s₁.setTop (mkF m 8 #[.val (.ref a1), .val (.int ((2 : Int32) - (1 : Int32))), .unset] [(.int (-1 : Int32))])) _
    refine XS.iconst X0.here hx rfl (hb hby d2_8) ?_
    show Steps p.tables e below (s₁.setTop (mkF m 9 #[.val (.ref a1), .val (.int ((2 : Int32) - (1 : Int32))), .unset] [(.int (-1 : Int32)), (.int (-1 : Int32))])) _
    refine XS.icmpNo X0.here hx rfl (hb hby d2_9) rfl (teq (rfl : (-1 : Int32) = (-1 : Int32))).2 ?_
    show Steps p.tables e below (s₁.setTop (mkF m 12 #[.val (.ref a1), .val (.int ((2 : Int32) - (1 : Int32))), .unset] [])) _
    refine XS.iinc X0.here hx rfl (hb hby d2_12) rfl (l' := #[.val (.ref a1), .val (.int (((2 : Int32) - (1 : Int32)) + (-1 : Int32))), .unset]) rfl ?_
    show Steps p.tables e below (s₁.setTop (mkF m 15 #[.val (.ref a1), .val (.int (((2 : Int32) - (1 : Int32)) + (-1 : Int32))), .unset] [])) _
    refine XS.goto X0.here hx rfl (pc0 := 15) (pc' := 5) rfl (hb hby d2_15) (by decide) (by decide) ?_
    show Steps p.tables e below (s₁.setTop (mkF m 5 #[.val (.ref a1), .val (.int (((2 : Int32) - (1 : Int32)) + (-1 : Int32))), .unset] [])) _
    refine XS.aloadN X0.here hx rfl (hb hby d2_5) rfl rfl ?_
    show Steps p.tables e below (s₁.setTop (mkF m 6 #[.val (.ref a1), .val (.int (((2 : Int32) - (1 : Int32)) + (-1 : Int32))), .unset] [(.ref a1)])) _
    refine XS.iloadN X0.here hx rfl (hb hby d2_6) rfl ?_
    show Steps p.tables e below (s₁.setTop (mkF m 7 #[.val (.ref a1), .val (.int (((2 : Int32) - (1 : Int32)) + (-1 : Int32))), .unset] [(.int (((2 : Int32) - (1 : Int32)) + (-1 : Int32))), (.ref a1)])) _
    refine X0.baloadBytes hx (j := (((2 : Int32) - (1 : Int32)) + (-1 : Int32))) (v := (.int w)) (by rw [e0]; exact Ar.1) (State.isArrayOf_alike hZ.alike Ar.2.1) Ar.2.2 (by rw [Sz]; decide) (by rw [(by decide : ((((2 : Int32) - (1 : Int32)) + (-1 : Int32))).toNatClampNeg = 0)]; exact hk) (g := (mkF m 7 #[.val (.ref a1), .val (.int (((2 : Int32) - (1 : Int32)) + (-1 : Int32))), .unset] [(.int (((2 : Int32) - (1 : Int32)) + (-1 : Int32))), (.ref a1)])) rfl rfl (hb hby d2_7) _ ?_
    show Steps p.tables e below (s₁.setTop (mkF m 8 #[.val (.ref a1), .val (.int (((2 : Int32) - (1 : Int32)) + (-1 : Int32))), .unset] [(.int w)])) _
    refine XS.iconst X0.here hx rfl (hb hby d2_8) ?_
    show Steps p.tables e below (s₁.setTop (mkF m 9 #[.val (.ref a1), .val (.int (((2 : Int32) - (1 : Int32)) + (-1 : Int32))), .unset] [(.int (-1 : Int32)), (.int w)])) _
    refine XS.icmpYes X0.here hx rfl (pc0 := 9) (pc' := 18) rfl (hb hby d2_9) rfl (feq hne).2 (by decide) (by decide) ?_
    show Steps p.tables e below (s₁.setTop (mkF m 18 #[.val (.ref a1), .val (.int (((2 : Int32) - (1 : Int32)) + (-1 : Int32))), .unset] [])) _
    refine XS.aloadN X0.here hx rfl (hb hby d2_18) rfl rfl ?_
    show Steps p.tables e below (s₁.setTop (mkF m 19 #[.val (.ref a1), .val (.int (((2 : Int32) - (1 : Int32)) + (-1 : Int32))), .unset] [(.ref a1)])) _
    refine XS.iloadN X0.here hx rfl (hb hby d2_19) rfl ?_
    show Steps p.tables e below (s₁.setTop (mkF m 20 #[.val (.ref a1), .val (.int (((2 : Int32) - (1 : Int32)) + (-1 : Int32))), .unset] [(.int (((2 : Int32) - (1 : Int32)) + (-1 : Int32))), (.ref a1)])) _
    refine XS.iconst X0.here hx rfl (hb hby d2_20) ?_
    show Steps p.tables e below (s₁.setTop (mkF m 21 #[.val (.ref a1), .val (.int (((2 : Int32) - (1 : Int32)) + (-1 : Int32))), .unset] [(.int (1 : Int32)), (.int (((2 : Int32) - (1 : Int32)) + (-1 : Int32))), (.ref a1)])) _
    refine XS.iadd X0.here hx rfl (hb hby d2_21) rfl ?_
    show Steps p.tables e below (s₁.setTop (mkF m 22 #[.val (.ref a1), .val (.int (((2 : Int32) - (1 : Int32)) + (-1 : Int32))), .unset] [(.int ((((2 : Int32) - (1 : Int32)) + (-1 : Int32)) + (1 : Int32))), (.ref a1)])) _
    refine st4 _ ?_
    show Steps p.tables e below (T4.setTop (mkF m 25 #[.val (.ref a1), .val (.int (((2 : Int32) - (1 : Int32)) + (-1 : Int32))), .unset] [(.ref r)])) _
    refine XS.astoreN X4.here hx rfl (hb hby d2_25) rfl rfl (l' := #[.val (.ref a1), .val (.int (((2 : Int32) - (1 : Int32)) + (-1 : Int32))), .val (.ref r)]) rfl ?_
    show Steps p.tables e below (T4.setTop (mkF m 26 #[.val (.ref a1), .val (.int (((2 : Int32) - (1 : Int32)) + (-1 : Int32))), .val (.ref r)] [])) _
    refine XS.aloadN X4.here hx rfl (hb hby d2_26) rfl rfl ?_
    show Steps p.tables e below (T4.setTop (mkF m 27 #[.val (.ref a1), .val (.int (((2 : Int32) - (1 : Int32)) + (-1 : Int32))), .val (.ref r)] [(.ref r)])) _
    refine XS.iloadN X4.here hx rfl (hb hby d2_27) rfl ?_
    show Steps p.tables e below (T4.setTop (mkF m 28 #[.val (.ref a1), .val (.int (((2 : Int32) - (1 : Int32)) + (-1 : Int32))), .val (.ref r)] [(.int (((2 : Int32) - (1 : Int32)) + (-1 : Int32))), (.ref r)])) _
    jvm_step X4.here [X4.here.top, hx, (hb hby d2_28), Value.category]
    show Steps p.tables e below (T4.setTop (mkF m 29 #[.val (.ref a1), .val (.int (((2 : Int32) - (1 : Int32)) + (-1 : Int32))), .val (.ref r)] [(.int (((2 : Int32) - (1 : Int32)) + (-1 : Int32))), (.ref r), (.int (((2 : Int32) - (1 : Int32)) + (-1 : Int32))), (.ref r)])) _
    refine X4.baloadBytes hx (j := (((2 : Int32) - (1 : Int32)) + (-1 : Int32))) (v := (.int w)) ArB.1 (State.isArrayOf_alike hZ.alike ArB.2.1) ArB.2.2 hin29 hat29 (g := (mkF m 29 #[.val (.ref a1), .val (.int (((2 : Int32) - (1 : Int32)) + (-1 : Int32))), .val (.ref r)] [(.int (((2 : Int32) - (1 : Int32)) + (-1 : Int32))), (.ref r), (.int (((2 : Int32) - (1 : Int32)) + (-1 : Int32))), (.ref r)])) rfl rfl (hb hby d2_29) _ ?_
    show Steps p.tables e below (T4.setTop (mkF m 30 #[.val (.ref a1), .val (.int (((2 : Int32) - (1 : Int32)) + (-1 : Int32))), .val (.ref r)] [(.int w), (.int (((2 : Int32) - (1 : Int32)) + (-1 : Int32))), (.ref r)])) _
    refine XS.iconst X4.here hx rfl (hb hby d2_30) ?_
    show Steps p.tables e below (T4.setTop (mkF m 31 #[.val (.ref a1), .val (.int (((2 : Int32) - (1 : Int32)) + (-1 : Int32))), .val (.ref r)] [(.int (1 : Int32)), (.int w), (.int (((2 : Int32) - (1 : Int32)) + (-1 : Int32))), (.ref r)])) _
    refine XS.iadd X4.here hx rfl (hb hby d2_31) rfl ?_
    show Steps p.tables e below (T4.setTop (mkF m 32 #[.val (.ref a1), .val (.int (((2 : Int32) - (1 : Int32)) + (-1 : Int32))), .val (.ref r)] [(.int (w + (1 : Int32))), (.int (((2 : Int32) - (1 : Int32)) + (-1 : Int32))), (.ref r)])) _
    refine XS.i2b X4.here hx rfl (hb hby d2_32) rfl ?_
    show Steps p.tables e below (T4.setTop (mkF m 33 #[.val (.ref a1), .val (.int (((2 : Int32) - (1 : Int32)) + (-1 : Int32))), .val (.ref r)] [(.int ((w + (1 : Int32)).toInt8.toInt32)), (.int (((2 : Int32) - (1 : Int32)) + (-1 : Int32))), (.ref r)])) _
    refine st6 _ ?_
    show Steps p.tables e below (T6.setTop (mkF m 34 #[.val (.ref a1), .val (.int (((2 : Int32) - (1 : Int32)) + (-1 : Int32))), .val (.ref r)] [])) _
    refine XS.aloadN X6.here hx rfl (hb hby d2_34) rfl rfl ?_
    show Steps p.tables e below (T6.setTop (mkF m 35 #[.val (.ref a1), .val (.int (((2 : Int32) - (1 : Int32)) + (-1 : Int32))), .val (.ref r)] [(.ref r)])) _
    jvm_step X6.here [X6.here.top, hx, (hb hby d2_35), X6.method', Bd.returns, Value.isRef, FieldType.isReference]
    first | (intro acts; rw [hr _ acts rfl rfl rfl]) | rw [hr _ _ rfl rfl rfl]
    exact Steps.refl _
  · show Q2 Z cl 0 w r h0 n0 _ T6.heap _
    rw [e6]
    refine ⟨rfl, N6, KW, B', ArW, hsz.trans SB, fun j hj => ?_, ?_⟩
    · rw [hoth j (by rw [(by decide : ((((2 : Int32) - (1 : Int32)) + (-1 : Int32))).toNatClampNeg = 0)]; omega), HB j (by omega), Array.getD_eq_getD_getElem?]
      have hj' : j < cl.slots.size := by rw [Sz]; exact Nat.lt_of_lt_of_le hj (by decide)
      rw [Array.getElem?_eq_getElem hj']; rfl
    · have q := (hsm rfl).2.1
      rw [(by decide : ((((2 : Int32) - (1 : Int32)) + (-1 : Int32))).toNatClampNeg = 0)] at q
      rw [q]; exact congrArg (fun y => some (Value.int y)) (own_nar _)

set_option maxRecDepth 65536 in
set_option maxHeartbeats 40000000 in
theorem rm2_31 (l : Launch) (Z : State) (a0 : Array Value) (hw : ∀ d ∈ tables_1, d.before a0 Z = true) (ws : List Jvm.Cond) (a1 : Addr) (cl : Cell) (w : Int32) (r : Addr) (h0 : Heap) (n0 : Nat) (Z0 : n0 ≤ h0.size) (hr0 : r = h0.size) (Ar : Arr Z h0 a1 cl .byte) (Ex : Exa Z h0 a1 "[B") (Sz : cl.slots.size = (3 : Int32).toNatClampNeg) (Ty : ∀ (i : Nat) (v : Value), cl.slots[i]? = some v → fits .byte v = true) (hk : cl.slots[1]? = some (.int w)) (hne : ¬ (w = (-1 : Int32))) (hl2 : cl.slots[2]? = some (.int (-1 : Int32))) :
    MetFree l (⟨"com/example/coord2/coord2/KeyRange", "successor", "([B)[B"⟩ : MethodName) (head1 (Jvm.Cond.code (⟨"com/example/coord2/coord2/KeyRange", "successor", "([B)[B"⟩ : MethodName) prog_1_method_4_code 3 (some (.array .byte)) :: ws) ({ frames := 2, cells := 1, slots := 3, locals := 54 } : Room)) (fun a U => a = #[(.ref a1)] ∧ Z.Warmed39 U.vm ∧ U.heap = h0) (fun _ _ _ _ _ => True) (fun _ U o U' => ∃ v L, o = .returned v ∧ Q2 Z cl 1 w r h0 n0 v U'.heap L ∧ FrameEnd U o U' L ({ frames := 2, cells := 1, slots := 3, locals := 54 } : Room).cells ({ frames := 2, cells := 1, slots := 3, locals := 54 } : Room).slots) := by
  refine MetFree.of_bodySF (plainFor_of_name pn_2) hisR ?_
  intro p e s m args below meth c s₁ Bd hml0 hP hK
  obtain ⟨rfl, hZ, hh⟩ := hP
  have hx := Bd.exec
  have hby := Bd.bytes
  have hml : c.maxLocals = 3 := hml0
  have hown : s.vm.findClass "com/example/coord2/coord2/KeyRange" = some m.cls := findClass_of_methodNamed Bd.named
  have hnm := (name_of_methodNamed Bd.named Bd.method).1
  have X0 : Stand p l e ({ frames := 2, cells := 1, slots := 3, locals := 54 } : Room) s m #[(.ref a1)] below meth c s₁ [] 0 0 := Stand.of_body Bd
  have e0 : s₁.heap = h0 := by rw [← hh, Bd.state]; rfl
  have N0 := Fr.nil n0
  have pre0 : ∀ t, Steps p.tables e below (s₁.setTop (mkF m 0 #[.val (.ref a1), .unset, .unset] [])) t → Steps p.tables e below (s₁.setTop (entryFrame m #[(.ref a1)] 3)) t := fun t k => castTop (ef_2 m a1) k
  obtain ⟨v4, vq4, ⟨T4, L4, k4, n4⟩, hv4, X4, ⟨hE4, l4, y4, z4⟩, st4⟩ := Jvm.LawKit.callS X0 hx (y := (⟨"java/util/Arrays", "copyOf", "([BI)[B"⟩ : MethodName)) hown (mvT hZ (hw _ (List.mem_of_getElem? (i := 10) rfl))) (mvT hZ (hw _ (List.mem_of_getElem? (i := 11) rfl))) (mvT hZ (hw _ (List.mem_of_getElem? (i := 12) rfl))) (mvT hZ (hw _ (List.mem_of_getElem? (i := 13) rfl))) (by decide) (Jvm.Free.JA.CopyOfB.pays (W := 0) a1 cl 2 (own_tab hZ hw) (by decide) (by decide)) (g := (mkF m 22 #[.val (.ref a1), .val (.int (((3 : Int32) - (1 : Int32)) + (-1 : Int32))), .unset] [(.int ((((3 : Int32) - (1 : Int32)) + (-1 : Int32)) + (1 : Int32))), (.ref a1)])) rfl (by rw [hml]; rfl) (argsL := [(.ref a1), (.int ((((3 : Int32) - (1 : Int32)) + (-1 : Int32)) + (1 : Int32)))]) (rest := []) (lenOf pd_2_2 rfl) rfl (by show 2 * 0 + _ ≤ _; exact Nat.le_of_eq rfl) (hb hby d2_22) (fun vm₁ hv => ⟨Nat.le_of_ble_eq_true rfl, Nat.le_of_ble_eq_true rfl, own_P hZ hv e0 Ar Ex (by rw [Sz]; decide) Ty (by decide) (by decide)⟩)
  dsimp only [Pt.U, Pt.locs, Pt.cells, Pt.slots] at X4 l4 y4 z4 st4 hE4
  subst l4 y4 z4
  obtain ⟨hv, KB, B, ArB, SB, HB⟩ := own_new (show (s₁.setVm vq4).heap = h0 from e0) (hZ.alike.trans X4.warmed.alike) hE4
  rw [← hr0] at hv ArB
  subst hv
  have hin29 : ¬ ((((3 : Int32) - (1 : Int32)) + (-1 : Int32)) < 0 ∨ B.slots.size ≤ ((((3 : Int32) - (1 : Int32)) + (-1 : Int32))).toNatClampNeg) := by rw [SB]; decide
  have hat29 : B.slots[((((3 : Int32) - (1 : Int32)) + (-1 : Int32))).toNatClampNeg]? = some (.int w) := by
    rw [(by decide : ((((3 : Int32) - (1 : Int32)) + (-1 : Int32))).toNatClampNeg = 1), HB 1 (by decide)]
    show some (cl.slots.getD 1 _) = _
    rw [Array.getD_eq_getD_getElem?, hk]; rfl
  have hin33 := hin29
  have g_r : n0 ≤ r := by rw [hr0]; exact Z0
  have N4 : Fr n0 ([] ++ []) := Fr.app N0 N0
  obtain ⟨T6, h6, X6, e6, W6, st6⟩ := stB X4 hx hZ rfl ArB (j := (((3 : Int32) - (1 : Int32)) + (-1 : Int32))) hin33 (g := (mkF m 33 #[.val (.ref a1), .val (.int (((3 : Int32) - (1 : Int32)) + (-1 : Int32))), .val (.ref r)] [(.int ((w + (1 : Int32)).toInt8.toInt32)), (.int (((3 : Int32) - (1 : Int32)) + (-1 : Int32))), (.ref r)])) rfl rfl (hb hby d2_33)
  have N6 := Fr.snoc X6 N4 g_r
  have KW : Keep h0 h6 [] := KB.wr W6 (Or.inr (Nat.le_of_eq hr0.symm))
  obtain ⟨B', hB', -, -, hsz, -, hoth, hsm⟩ := wr_at W6 ArB.1
  have ArW : Arr Z h6 r B' .byte := by rw [(hsm rfl).1]; exact ArB.same W6
  obtain ⟨fs, hr, hrun, hended, hW, hsame⟩ := X6.leave (v := some (.ref r)) (fun h => by rw [Bd.returns] at h; cases h)
  refine ⟨_, _, pre0 _ ?_, hrun, hended, _, _, rfl, ?_, ⟨_, rfl⟩, hW, hsame.mono (by decide) (by decide)⟩
  · show Steps p.tables e below (s₁.setTop (mkF m 0 #[.val (.ref a1), .unset, .unset] [])) _
    refine XS.aloadN X0.here hx rfl (hb hby d2_0) rfl rfl ?_
    show Steps p.tables e below (s₁.setTop (mkF m 1 #[.val (.ref a1), .unset, .unset] [(.ref a1)])) _
    refine X0.arraylength hx (by rw [e0]; exact Ar.1) (State.isArrayOf_alike hZ.alike Ar.2.1) (g := (mkF m 1 #[.val (.ref a1), .unset, .unset] [(.ref a1)])) rfl rfl (hb hby d2_1) _ ?_
    rw [len_of Sz (by decide)]
    show Steps p.tables e below (s₁.setTop (mkF m 2 #[.val (.ref a1), .unset, .unset] [(.int (3 : Int32))])) _
    refine XS.iconst X0.here hx rfl (hb hby d2_2) ?_
    show Steps p.tables e below (s₁.setTop (mkF m 3 #[.val (.ref a1), .unset, .unset] [(.int (1 : Int32)), (.int (3 : Int32))])) _
    refine XS.isub X0.here hx rfl (hb hby d2_3) rfl ?_
    show Steps p.tables e below (s₁.setTop (mkF m 4 #[.val (.ref a1), .unset, .unset] [(.int ((3 : Int32) - (1 : Int32)))])) _
    refine XS.istoreN X0.here hx rfl (hb hby d2_4) rfl (l' := #[.val (.ref a1), .val (.int ((3 : Int32) - (1 : Int32))), .unset]) rfl ?_
    show Steps p.tables e below (s₁.setTop (mkF m 5 #[.val (.ref a1), .val (.int ((3 : Int32) - (1 : Int32))), .unset] [])) _
    refine XS.aloadN X0.here hx rfl (hb hby d2_5) rfl rfl ?_
    show Steps p.tables e below (s₁.setTop (mkF m 6 #[.val (.ref a1), .val (.int ((3 : Int32) - (1 : Int32))), .unset] [(.ref a1)])) _
    refine XS.iloadN X0.here hx rfl (hb hby d2_6) rfl ?_
    show Steps p.tables e below (s₁.setTop (mkF m 7 #[.val (.ref a1), .val (.int ((3 : Int32) - (1 : Int32))), .unset] [(.int ((3 : Int32) - (1 : Int32))), (.ref a1)])) _
    refine X0.baloadBytes hx (j := ((3 : Int32) - (1 : Int32))) (v := (.int (-1 : Int32))) (by rw [e0]; exact Ar.1) (State.isArrayOf_alike hZ.alike Ar.2.1) Ar.2.2 (by rw [Sz]; decide) (by rw [(by decide : (((3 : Int32) - (1 : Int32))).toNatClampNeg = 2)]; exact hl2) (g := (mkF m 7 #[.val (.ref a1), .val (.int ((3 : Int32) - (1 : Int32))), .unset] [(.int ((3 : Int32) - (1 : Int32))), (.ref a1)])) rfl rfl (hb hby d2_7) _ ?_
    show Steps p.tables e below (s₁.setTop (mkF m 8 #[.val (.ref a1), .val (.int ((3 : Int32) - (1 : Int32))), .unset] [(.int (-1 : Int32))])) _
    refine XS.iconst X0.here hx rfl (hb hby d2_8) ?_
    show Steps p.tables e below (s₁.setTop (mkF m 9 #[.val (.ref a1), .val (.int ((3 : Int32) - (1 : Int32))), .unset] [(.int (-1 : Int32)), (.int (-1 : Int32))])) _
    refine XS.icmpNo X0.here hx rfl (hb hby d2_9) rfl (teq (rfl : (-1 : Int32) = (-1 : Int32))).2 ?_
    show Steps p.tables e below (s₁.setTop (mkF m 12 #[.val (.ref a1), .val (.int ((3 : Int32) - (1 : Int32))), .unset] [])) _
    refine XS.iinc X0.here hx rfl (hb hby d2_12) rfl (l' := #[.val (.ref a1), .val (.int (((3 : Int32) - (1 : Int32)) + (-1 : Int32))), .unset]) rfl ?_
    show Steps p.tables e below (s₁.setTop (mkF m 15 #[.val (.ref a1), .val (.int (((3 : Int32) - (1 : Int32)) + (-1 : Int32))), .unset] [])) _
    refine XS.goto X0.here hx rfl (pc0 := 15) (pc' := 5) rfl (hb hby d2_15) (by decide) (by decide) ?_
    show Steps p.tables e below (s₁.setTop (mkF m 5 #[.val (.ref a1), .val (.int (((3 : Int32) - (1 : Int32)) + (-1 : Int32))), .unset] [])) _
    refine XS.aloadN X0.here hx rfl (hb hby d2_5) rfl rfl ?_
    show Steps p.tables e below (s₁.setTop (mkF m 6 #[.val (.ref a1), .val (.int (((3 : Int32) - (1 : Int32)) + (-1 : Int32))), .unset] [(.ref a1)])) _
    refine XS.iloadN X0.here hx rfl (hb hby d2_6) rfl ?_
    show Steps p.tables e below (s₁.setTop (mkF m 7 #[.val (.ref a1), .val (.int (((3 : Int32) - (1 : Int32)) + (-1 : Int32))), .unset] [(.int (((3 : Int32) - (1 : Int32)) + (-1 : Int32))), (.ref a1)])) _
    refine X0.baloadBytes hx (j := (((3 : Int32) - (1 : Int32)) + (-1 : Int32))) (v := (.int w)) (by rw [e0]; exact Ar.1) (State.isArrayOf_alike hZ.alike Ar.2.1) Ar.2.2 (by rw [Sz]; decide) (by rw [(by decide : ((((3 : Int32) - (1 : Int32)) + (-1 : Int32))).toNatClampNeg = 1)]; exact hk) (g := (mkF m 7 #[.val (.ref a1), .val (.int (((3 : Int32) - (1 : Int32)) + (-1 : Int32))), .unset] [(.int (((3 : Int32) - (1 : Int32)) + (-1 : Int32))), (.ref a1)])) rfl rfl (hb hby d2_7) _ ?_
    show Steps p.tables e below (s₁.setTop (mkF m 8 #[.val (.ref a1), .val (.int (((3 : Int32) - (1 : Int32)) + (-1 : Int32))), .unset] [(.int w)])) _
    refine XS.iconst X0.here hx rfl (hb hby d2_8) ?_
    show Steps p.tables e below (s₁.setTop (mkF m 9 #[.val (.ref a1), .val (.int (((3 : Int32) - (1 : Int32)) + (-1 : Int32))), .unset] [(.int (-1 : Int32)), (.int w)])) _
    refine XS.icmpYes X0.here hx rfl (pc0 := 9) (pc' := 18) rfl (hb hby d2_9) rfl (feq hne).2 (by decide) (by decide) ?_
    show Steps p.tables e below (s₁.setTop (mkF m 18 #[.val (.ref a1), .val (.int (((3 : Int32) - (1 : Int32)) + (-1 : Int32))), .unset] [])) _
    refine XS.aloadN X0.here hx rfl (hb hby d2_18) rfl rfl ?_
    show Steps p.tables e below (s₁.setTop (mkF m 19 #[.val (.ref a1), .val (.int (((3 : Int32) - (1 : Int32)) + (-1 : Int32))), .unset] [(.ref a1)])) _
    refine XS.iloadN X0.here hx rfl (hb hby d2_19) rfl ?_
    show Steps p.tables e below (s₁.setTop (mkF m 20 #[.val (.ref a1), .val (.int (((3 : Int32) - (1 : Int32)) + (-1 : Int32))), .unset] [(.int (((3 : Int32) - (1 : Int32)) + (-1 : Int32))), (.ref a1)])) _
    refine XS.iconst X0.here hx rfl (hb hby d2_20) ?_
    show Steps p.tables e below (s₁.setTop (mkF m 21 #[.val (.ref a1), .val (.int (((3 : Int32) - (1 : Int32)) + (-1 : Int32))), .unset] [(.int (1 : Int32)), (.int (((3 : Int32) - (1 : Int32)) + (-1 : Int32))), (.ref a1)])) _
    refine XS.iadd X0.here hx rfl (hb hby d2_21) rfl ?_
    show Steps p.tables e below (s₁.setTop (mkF m 22 #[.val (.ref a1), .val (.int (((3 : Int32) - (1 : Int32)) + (-1 : Int32))), .unset] [(.int ((((3 : Int32) - (1 : Int32)) + (-1 : Int32)) + (1 : Int32))), (.ref a1)])) _
    refine st4 _ ?_
    show Steps p.tables e below (T4.setTop (mkF m 25 #[.val (.ref a1), .val (.int (((3 : Int32) - (1 : Int32)) + (-1 : Int32))), .unset] [(.ref r)])) _
    refine XS.astoreN X4.here hx rfl (hb hby d2_25) rfl rfl (l' := #[.val (.ref a1), .val (.int (((3 : Int32) - (1 : Int32)) + (-1 : Int32))), .val (.ref r)]) rfl ?_
    show Steps p.tables e below (T4.setTop (mkF m 26 #[.val (.ref a1), .val (.int (((3 : Int32) - (1 : Int32)) + (-1 : Int32))), .val (.ref r)] [])) _
    refine XS.aloadN X4.here hx rfl (hb hby d2_26) rfl rfl ?_
    show Steps p.tables e below (T4.setTop (mkF m 27 #[.val (.ref a1), .val (.int (((3 : Int32) - (1 : Int32)) + (-1 : Int32))), .val (.ref r)] [(.ref r)])) _
    refine XS.iloadN X4.here hx rfl (hb hby d2_27) rfl ?_
    show Steps p.tables e below (T4.setTop (mkF m 28 #[.val (.ref a1), .val (.int (((3 : Int32) - (1 : Int32)) + (-1 : Int32))), .val (.ref r)] [(.int (((3 : Int32) - (1 : Int32)) + (-1 : Int32))), (.ref r)])) _
    jvm_step X4.here [X4.here.top, hx, (hb hby d2_28), Value.category]
    show Steps p.tables e below (T4.setTop (mkF m 29 #[.val (.ref a1), .val (.int (((3 : Int32) - (1 : Int32)) + (-1 : Int32))), .val (.ref r)] [(.int (((3 : Int32) - (1 : Int32)) + (-1 : Int32))), (.ref r), (.int (((3 : Int32) - (1 : Int32)) + (-1 : Int32))), (.ref r)])) _
    refine X4.baloadBytes hx (j := (((3 : Int32) - (1 : Int32)) + (-1 : Int32))) (v := (.int w)) ArB.1 (State.isArrayOf_alike hZ.alike ArB.2.1) ArB.2.2 hin29 hat29 (g := (mkF m 29 #[.val (.ref a1), .val (.int (((3 : Int32) - (1 : Int32)) + (-1 : Int32))), .val (.ref r)] [(.int (((3 : Int32) - (1 : Int32)) + (-1 : Int32))), (.ref r), (.int (((3 : Int32) - (1 : Int32)) + (-1 : Int32))), (.ref r)])) rfl rfl (hb hby d2_29) _ ?_
    show Steps p.tables e below (T4.setTop (mkF m 30 #[.val (.ref a1), .val (.int (((3 : Int32) - (1 : Int32)) + (-1 : Int32))), .val (.ref r)] [(.int w), (.int (((3 : Int32) - (1 : Int32)) + (-1 : Int32))), (.ref r)])) _
    refine XS.iconst X4.here hx rfl (hb hby d2_30) ?_
    show Steps p.tables e below (T4.setTop (mkF m 31 #[.val (.ref a1), .val (.int (((3 : Int32) - (1 : Int32)) + (-1 : Int32))), .val (.ref r)] [(.int (1 : Int32)), (.int w), (.int (((3 : Int32) - (1 : Int32)) + (-1 : Int32))), (.ref r)])) _
    refine XS.iadd X4.here hx rfl (hb hby d2_31) rfl ?_
    show Steps p.tables e below (T4.setTop (mkF m 32 #[.val (.ref a1), .val (.int (((3 : Int32) - (1 : Int32)) + (-1 : Int32))), .val (.ref r)] [(.int (w + (1 : Int32))), (.int (((3 : Int32) - (1 : Int32)) + (-1 : Int32))), (.ref r)])) _
    refine XS.i2b X4.here hx rfl (hb hby d2_32) rfl ?_
    show Steps p.tables e below (T4.setTop (mkF m 33 #[.val (.ref a1), .val (.int (((3 : Int32) - (1 : Int32)) + (-1 : Int32))), .val (.ref r)] [(.int ((w + (1 : Int32)).toInt8.toInt32)), (.int (((3 : Int32) - (1 : Int32)) + (-1 : Int32))), (.ref r)])) _
    refine st6 _ ?_
    show Steps p.tables e below (T6.setTop (mkF m 34 #[.val (.ref a1), .val (.int (((3 : Int32) - (1 : Int32)) + (-1 : Int32))), .val (.ref r)] [])) _
    refine XS.aloadN X6.here hx rfl (hb hby d2_34) rfl rfl ?_
    show Steps p.tables e below (T6.setTop (mkF m 35 #[.val (.ref a1), .val (.int (((3 : Int32) - (1 : Int32)) + (-1 : Int32))), .val (.ref r)] [(.ref r)])) _
    jvm_step X6.here [X6.here.top, hx, (hb hby d2_35), X6.method', Bd.returns, Value.isRef, FieldType.isReference]
    first | (intro acts; rw [hr _ acts rfl rfl rfl]) | rw [hr _ _ rfl rfl rfl]
    exact Steps.refl _
  · show Q2 Z cl 1 w r h0 n0 _ T6.heap _
    rw [e6]
    refine ⟨rfl, N6, KW, B', ArW, hsz.trans SB, fun j hj => ?_, ?_⟩
    · rw [hoth j (by rw [(by decide : ((((3 : Int32) - (1 : Int32)) + (-1 : Int32))).toNatClampNeg = 1)]; omega), HB j (by omega), Array.getD_eq_getD_getElem?]
      have hj' : j < cl.slots.size := by rw [Sz]; exact Nat.lt_of_lt_of_le hj (by decide)
      rw [Array.getElem?_eq_getElem hj']; rfl
    · have q := (hsm rfl).2.1
      rw [(by decide : ((((3 : Int32) - (1 : Int32)) + (-1 : Int32))).toNatClampNeg = 1)] at q
      rw [q]; exact congrArg (fun y => some (Value.int y)) (own_nar _)

set_option maxRecDepth 65536 in
set_option maxHeartbeats 40000000 in
theorem rm2_10 (l : Launch) (Z : State) (a0 : Array Value) (hw : ∀ d ∈ tables_1, d.before a0 Z = true) (ws : List Jvm.Cond) (a1 : Addr) (cl : Cell) (w : Int32) (r : Addr) (h0 : Heap) (n0 : Nat) (Z0 : n0 ≤ h0.size) (hr0 : r = h0.size) (Ar : Arr Z h0 a1 cl .byte) (Ex : Exa Z h0 a1 "[B") (Sz : cl.slots.size = (1 : Int32).toNatClampNeg) (Ty : ∀ (i : Nat) (v : Value), cl.slots[i]? = some v → fits .byte v = true) (hk : cl.slots[0]? = some (.int w)) (hne : ¬ (w = (-1 : Int32)))  :
    MetFree l (⟨"com/example/coord2/coord2/KeyRange", "successor", "([B)[B"⟩ : MethodName) (head1 (Jvm.Cond.code (⟨"com/example/coord2/coord2/KeyRange", "successor", "([B)[B"⟩ : MethodName) prog_1_method_4_code 3 (some (.array .byte)) :: ws) ({ frames := 2, cells := 1, slots := 3, locals := 54 } : Room)) (fun a U => a = #[(.ref a1)] ∧ Z.Warmed39 U.vm ∧ U.heap = h0) (fun _ _ _ _ _ => True) (fun _ U o U' => ∃ v L, o = .returned v ∧ Q2 Z cl 0 w r h0 n0 v U'.heap L ∧ FrameEnd U o U' L ({ frames := 2, cells := 1, slots := 3, locals := 54 } : Room).cells ({ frames := 2, cells := 1, slots := 3, locals := 54 } : Room).slots) := by
  refine MetFree.of_bodySF (plainFor_of_name pn_2) hisR ?_
  intro p e s m args below meth c s₁ Bd hml0 hP hK
  obtain ⟨rfl, hZ, hh⟩ := hP
  have hx := Bd.exec
  have hby := Bd.bytes
  have hml : c.maxLocals = 3 := hml0
  have hown : s.vm.findClass "com/example/coord2/coord2/KeyRange" = some m.cls := findClass_of_methodNamed Bd.named
  have hnm := (name_of_methodNamed Bd.named Bd.method).1
  have X0 : Stand p l e ({ frames := 2, cells := 1, slots := 3, locals := 54 } : Room) s m #[(.ref a1)] below meth c s₁ [] 0 0 := Stand.of_body Bd
  have e0 : s₁.heap = h0 := by rw [← hh, Bd.state]; rfl
  have N0 := Fr.nil n0
  have pre0 : ∀ t, Steps p.tables e below (s₁.setTop (mkF m 0 #[.val (.ref a1), .unset, .unset] [])) t → Steps p.tables e below (s₁.setTop (entryFrame m #[(.ref a1)] 3)) t := fun t k => castTop (ef_2 m a1) k
  obtain ⟨v3, vq3, ⟨T3, L3, k3, n3⟩, hv3, X3, ⟨hE3, l3, y3, z3⟩, st3⟩ := Jvm.LawKit.callS X0 hx (y := (⟨"java/util/Arrays", "copyOf", "([BI)[B"⟩ : MethodName)) hown (mvT hZ (hw _ (List.mem_of_getElem? (i := 10) rfl))) (mvT hZ (hw _ (List.mem_of_getElem? (i := 11) rfl))) (mvT hZ (hw _ (List.mem_of_getElem? (i := 12) rfl))) (mvT hZ (hw _ (List.mem_of_getElem? (i := 13) rfl))) (by decide) (Jvm.Free.JA.CopyOfB.pays (W := 0) a1 cl 1 (own_tab hZ hw) (by decide) (by decide)) (g := (mkF m 22 #[.val (.ref a1), .val (.int ((1 : Int32) - (1 : Int32))), .unset] [(.int (((1 : Int32) - (1 : Int32)) + (1 : Int32))), (.ref a1)])) rfl (by rw [hml]; rfl) (argsL := [(.ref a1), (.int (((1 : Int32) - (1 : Int32)) + (1 : Int32)))]) (rest := []) (lenOf pd_2_2 rfl) rfl (by show 2 * 0 + _ ≤ _; exact Nat.le_of_eq rfl) (hb hby d2_22) (fun vm₁ hv => ⟨Nat.le_of_ble_eq_true rfl, Nat.le_of_ble_eq_true rfl, own_P hZ hv e0 Ar Ex (by rw [Sz]; decide) Ty (by decide) (by decide)⟩)
  dsimp only [Pt.U, Pt.locs, Pt.cells, Pt.slots] at X3 l3 y3 z3 st3 hE3
  subst l3 y3 z3
  obtain ⟨hv, KB, B, ArB, SB, HB⟩ := own_new (show (s₁.setVm vq3).heap = h0 from e0) (hZ.alike.trans X3.warmed.alike) hE3
  rw [← hr0] at hv ArB
  subst hv
  have hin29 : ¬ (((1 : Int32) - (1 : Int32)) < 0 ∨ B.slots.size ≤ (((1 : Int32) - (1 : Int32))).toNatClampNeg) := by rw [SB]; decide
  have hat29 : B.slots[(((1 : Int32) - (1 : Int32))).toNatClampNeg]? = some (.int w) := by
    rw [(by decide : (((1 : Int32) - (1 : Int32))).toNatClampNeg = 0), HB 0 (by decide)]
    show some (cl.slots.getD 0 _) = _
    rw [Array.getD_eq_getD_getElem?, hk]; rfl
  have hin33 := hin29
  have g_r : n0 ≤ r := by rw [hr0]; exact Z0
  have N3 : Fr n0 ([] ++ []) := Fr.app N0 N0
  obtain ⟨T5, h5, X5, e5, W5, st5⟩ := stB X3 hx hZ rfl ArB (j := ((1 : Int32) - (1 : Int32))) hin33 (g := (mkF m 33 #[.val (.ref a1), .val (.int ((1 : Int32) - (1 : Int32))), .val (.ref r)] [(.int ((w + (1 : Int32)).toInt8.toInt32)), (.int ((1 : Int32) - (1 : Int32))), (.ref r)])) rfl rfl (hb hby d2_33)
  have N5 := Fr.snoc X5 N3 g_r
  have KW : Keep h0 h5 [] := KB.wr W5 (Or.inr (Nat.le_of_eq hr0.symm))
  obtain ⟨B', hB', -, -, hsz, -, hoth, hsm⟩ := wr_at W5 ArB.1
  have ArW : Arr Z h5 r B' .byte := by rw [(hsm rfl).1]; exact ArB.same W5
  obtain ⟨fs, hr, hrun, hended, hW, hsame⟩ := X5.leave (v := some (.ref r)) (fun h => by rw [Bd.returns] at h; cases h)
  refine ⟨_, _, pre0 _ ?_, hrun, hended, _, _, rfl, ?_, ⟨_, rfl⟩, hW, hsame.mono (by decide) (by decide)⟩
  · show Steps p.tables e below (s₁.setTop (mkF m 0 #[.val (.ref a1), .unset, .unset] [])) _
    refine XS.aloadN X0.here hx rfl (hb hby d2_0) rfl rfl ?_
    show Steps p.tables e below (s₁.setTop (mkF m 1 #[.val (.ref a1), .unset, .unset] [(.ref a1)])) _
    refine X0.arraylength hx (by rw [e0]; exact Ar.1) (State.isArrayOf_alike hZ.alike Ar.2.1) (g := (mkF m 1 #[.val (.ref a1), .unset, .unset] [(.ref a1)])) rfl rfl (hb hby d2_1) _ ?_
    rw [len_of Sz (by decide)]
    show Steps p.tables e below (s₁.setTop (mkF m 2 #[.val (.ref a1), .unset, .unset] [(.int (1 : Int32))])) _
    refine XS.iconst X0.here hx rfl (hb hby d2_2) ?_
    show Steps p.tables e below (s₁.setTop (mkF m 3 #[.val (.ref a1), .unset, .unset] [(.int (1 : Int32)), (.int (1 : Int32))])) _
    refine XS.isub X0.here hx rfl (hb hby d2_3) rfl ?_
    show Steps p.tables e below (s₁.setTop (mkF m 4 #[.val (.ref a1), .unset, .unset] [(.int ((1 : Int32) - (1 : Int32)))])) _
    refine XS.istoreN X0.here hx rfl (hb hby d2_4) rfl (l' := #[.val (.ref a1), .val (.int ((1 : Int32) - (1 : Int32))), .unset]) rfl ?_
    show Steps p.tables e below (s₁.setTop (mkF m 5 #[.val (.ref a1), .val (.int ((1 : Int32) - (1 : Int32))), .unset] [])) _
    refine XS.aloadN X0.here hx rfl (hb hby d2_5) rfl rfl ?_
    show Steps p.tables e below (s₁.setTop (mkF m 6 #[.val (.ref a1), .val (.int ((1 : Int32) - (1 : Int32))), .unset] [(.ref a1)])) _
    refine XS.iloadN X0.here hx rfl (hb hby d2_6) rfl ?_
    show Steps p.tables e below (s₁.setTop (mkF m 7 #[.val (.ref a1), .val (.int ((1 : Int32) - (1 : Int32))), .unset] [(.int ((1 : Int32) - (1 : Int32))), (.ref a1)])) _
    refine X0.baloadBytes hx (j := ((1 : Int32) - (1 : Int32))) (v := (.int w)) (by rw [e0]; exact Ar.1) (State.isArrayOf_alike hZ.alike Ar.2.1) Ar.2.2 (by rw [Sz]; decide) (by rw [(by decide : (((1 : Int32) - (1 : Int32))).toNatClampNeg = 0)]; exact hk) (g := (mkF m 7 #[.val (.ref a1), .val (.int ((1 : Int32) - (1 : Int32))), .unset] [(.int ((1 : Int32) - (1 : Int32))), (.ref a1)])) rfl rfl (hb hby d2_7) _ ?_
    show Steps p.tables e below (s₁.setTop (mkF m 8 #[.val (.ref a1), .val (.int ((1 : Int32) - (1 : Int32))), .unset] [(.int w)])) _
    refine XS.iconst X0.here hx rfl (hb hby d2_8) ?_
    show Steps p.tables e below (s₁.setTop (mkF m 9 #[.val (.ref a1), .val (.int ((1 : Int32) - (1 : Int32))), .unset] [(.int (-1 : Int32)), (.int w)])) _
    refine XS.icmpYes X0.here hx rfl (pc0 := 9) (pc' := 18) rfl (hb hby d2_9) rfl (feq hne).2 (by decide) (by decide) ?_
    show Steps p.tables e below (s₁.setTop (mkF m 18 #[.val (.ref a1), .val (.int ((1 : Int32) - (1 : Int32))), .unset] [])) _
    refine XS.aloadN X0.here hx rfl (hb hby d2_18) rfl rfl ?_
    show Steps p.tables e below (s₁.setTop (mkF m 19 #[.val (.ref a1), .val (.int ((1 : Int32) - (1 : Int32))), .unset] [(.ref a1)])) _
    refine XS.iloadN X0.here hx rfl (hb hby d2_19) rfl ?_
    show Steps p.tables e below (s₁.setTop (mkF m 20 #[.val (.ref a1), .val (.int ((1 : Int32) - (1 : Int32))), .unset] [(.int ((1 : Int32) - (1 : Int32))), (.ref a1)])) _
    refine XS.iconst X0.here hx rfl (hb hby d2_20) ?_
    show Steps p.tables e below (s₁.setTop (mkF m 21 #[.val (.ref a1), .val (.int ((1 : Int32) - (1 : Int32))), .unset] [(.int (1 : Int32)), (.int ((1 : Int32) - (1 : Int32))), (.ref a1)])) _
    refine XS.iadd X0.here hx rfl (hb hby d2_21) rfl ?_
    show Steps p.tables e below (s₁.setTop (mkF m 22 #[.val (.ref a1), .val (.int ((1 : Int32) - (1 : Int32))), .unset] [(.int (((1 : Int32) - (1 : Int32)) + (1 : Int32))), (.ref a1)])) _
    refine st3 _ ?_
    show Steps p.tables e below (T3.setTop (mkF m 25 #[.val (.ref a1), .val (.int ((1 : Int32) - (1 : Int32))), .unset] [(.ref r)])) _
    refine XS.astoreN X3.here hx rfl (hb hby d2_25) rfl rfl (l' := #[.val (.ref a1), .val (.int ((1 : Int32) - (1 : Int32))), .val (.ref r)]) rfl ?_
    show Steps p.tables e below (T3.setTop (mkF m 26 #[.val (.ref a1), .val (.int ((1 : Int32) - (1 : Int32))), .val (.ref r)] [])) _
    refine XS.aloadN X3.here hx rfl (hb hby d2_26) rfl rfl ?_
    show Steps p.tables e below (T3.setTop (mkF m 27 #[.val (.ref a1), .val (.int ((1 : Int32) - (1 : Int32))), .val (.ref r)] [(.ref r)])) _
    refine XS.iloadN X3.here hx rfl (hb hby d2_27) rfl ?_
    show Steps p.tables e below (T3.setTop (mkF m 28 #[.val (.ref a1), .val (.int ((1 : Int32) - (1 : Int32))), .val (.ref r)] [(.int ((1 : Int32) - (1 : Int32))), (.ref r)])) _
    jvm_step X3.here [X3.here.top, hx, (hb hby d2_28), Value.category]
    show Steps p.tables e below (T3.setTop (mkF m 29 #[.val (.ref a1), .val (.int ((1 : Int32) - (1 : Int32))), .val (.ref r)] [(.int ((1 : Int32) - (1 : Int32))), (.ref r), (.int ((1 : Int32) - (1 : Int32))), (.ref r)])) _
    refine X3.baloadBytes hx (j := ((1 : Int32) - (1 : Int32))) (v := (.int w)) ArB.1 (State.isArrayOf_alike hZ.alike ArB.2.1) ArB.2.2 hin29 hat29 (g := (mkF m 29 #[.val (.ref a1), .val (.int ((1 : Int32) - (1 : Int32))), .val (.ref r)] [(.int ((1 : Int32) - (1 : Int32))), (.ref r), (.int ((1 : Int32) - (1 : Int32))), (.ref r)])) rfl rfl (hb hby d2_29) _ ?_
    show Steps p.tables e below (T3.setTop (mkF m 30 #[.val (.ref a1), .val (.int ((1 : Int32) - (1 : Int32))), .val (.ref r)] [(.int w), (.int ((1 : Int32) - (1 : Int32))), (.ref r)])) _
    refine XS.iconst X3.here hx rfl (hb hby d2_30) ?_
    show Steps p.tables e below (T3.setTop (mkF m 31 #[.val (.ref a1), .val (.int ((1 : Int32) - (1 : Int32))), .val (.ref r)] [(.int (1 : Int32)), (.int w), (.int ((1 : Int32) - (1 : Int32))), (.ref r)])) _
    refine XS.iadd X3.here hx rfl (hb hby d2_31) rfl ?_
    show Steps p.tables e below (T3.setTop (mkF m 32 #[.val (.ref a1), .val (.int ((1 : Int32) - (1 : Int32))), .val (.ref r)] [(.int (w + (1 : Int32))), (.int ((1 : Int32) - (1 : Int32))), (.ref r)])) _
    refine XS.i2b X3.here hx rfl (hb hby d2_32) rfl ?_
    show Steps p.tables e below (T3.setTop (mkF m 33 #[.val (.ref a1), .val (.int ((1 : Int32) - (1 : Int32))), .val (.ref r)] [(.int ((w + (1 : Int32)).toInt8.toInt32)), (.int ((1 : Int32) - (1 : Int32))), (.ref r)])) _
    refine st5 _ ?_
    show Steps p.tables e below (T5.setTop (mkF m 34 #[.val (.ref a1), .val (.int ((1 : Int32) - (1 : Int32))), .val (.ref r)] [])) _
    refine XS.aloadN X5.here hx rfl (hb hby d2_34) rfl rfl ?_
    show Steps p.tables e below (T5.setTop (mkF m 35 #[.val (.ref a1), .val (.int ((1 : Int32) - (1 : Int32))), .val (.ref r)] [(.ref r)])) _
    jvm_step X5.here [X5.here.top, hx, (hb hby d2_35), X5.method', Bd.returns, Value.isRef, FieldType.isReference]
    first | (intro acts; rw [hr _ acts rfl rfl rfl]) | rw [hr _ _ rfl rfl rfl]
    exact Steps.refl _
  · show Q2 Z cl 0 w r h0 n0 _ T5.heap _
    rw [e5]
    refine ⟨rfl, N5, KW, B', ArW, hsz.trans SB, fun j hj => ?_, ?_⟩
    · rw [hoth j (by rw [(by decide : (((1 : Int32) - (1 : Int32))).toNatClampNeg = 0)]; omega), HB j (by omega), Array.getD_eq_getD_getElem?]
      have hj' : j < cl.slots.size := by rw [Sz]; exact Nat.lt_of_lt_of_le hj (by decide)
      rw [Array.getElem?_eq_getElem hj']; rfl
    · have q := (hsm rfl).2.1
      rw [(by decide : (((1 : Int32) - (1 : Int32))).toNatClampNeg = 0)] at q
      rw [q]; exact congrArg (fun y => some (Value.int y)) (own_nar _)

set_option maxRecDepth 65536 in
set_option maxHeartbeats 40000000 in
theorem rm2_21 (l : Launch) (Z : State) (a0 : Array Value) (hw : ∀ d ∈ tables_1, d.before a0 Z = true) (ws : List Jvm.Cond) (a1 : Addr) (cl : Cell) (w : Int32) (r : Addr) (h0 : Heap) (n0 : Nat) (Z0 : n0 ≤ h0.size) (hr0 : r = h0.size) (Ar : Arr Z h0 a1 cl .byte) (Ex : Exa Z h0 a1 "[B") (Sz : cl.slots.size = (2 : Int32).toNatClampNeg) (Ty : ∀ (i : Nat) (v : Value), cl.slots[i]? = some v → fits .byte v = true) (hk : cl.slots[1]? = some (.int w)) (hne : ¬ (w = (-1 : Int32)))  :
    MetFree l (⟨"com/example/coord2/coord2/KeyRange", "successor", "([B)[B"⟩ : MethodName) (head1 (Jvm.Cond.code (⟨"com/example/coord2/coord2/KeyRange", "successor", "([B)[B"⟩ : MethodName) prog_1_method_4_code 3 (some (.array .byte)) :: ws) ({ frames := 2, cells := 1, slots := 3, locals := 54 } : Room)) (fun a U => a = #[(.ref a1)] ∧ Z.Warmed39 U.vm ∧ U.heap = h0) (fun _ _ _ _ _ => True) (fun _ U o U' => ∃ v L, o = .returned v ∧ Q2 Z cl 1 w r h0 n0 v U'.heap L ∧ FrameEnd U o U' L ({ frames := 2, cells := 1, slots := 3, locals := 54 } : Room).cells ({ frames := 2, cells := 1, slots := 3, locals := 54 } : Room).slots) := by
  refine MetFree.of_bodySF (plainFor_of_name pn_2) hisR ?_
  intro p e s m args below meth c s₁ Bd hml0 hP hK
  obtain ⟨rfl, hZ, hh⟩ := hP
  have hx := Bd.exec
  have hby := Bd.bytes
  have hml : c.maxLocals = 3 := hml0
  have hown : s.vm.findClass "com/example/coord2/coord2/KeyRange" = some m.cls := findClass_of_methodNamed Bd.named
  have hnm := (name_of_methodNamed Bd.named Bd.method).1
  have X0 : Stand p l e ({ frames := 2, cells := 1, slots := 3, locals := 54 } : Room) s m #[(.ref a1)] below meth c s₁ [] 0 0 := Stand.of_body Bd
  have e0 : s₁.heap = h0 := by rw [← hh, Bd.state]; rfl
  have N0 := Fr.nil n0
  have pre0 : ∀ t, Steps p.tables e below (s₁.setTop (mkF m 0 #[.val (.ref a1), .unset, .unset] [])) t → Steps p.tables e below (s₁.setTop (entryFrame m #[(.ref a1)] 3)) t := fun t k => castTop (ef_2 m a1) k
  obtain ⟨v3, vq3, ⟨T3, L3, k3, n3⟩, hv3, X3, ⟨hE3, l3, y3, z3⟩, st3⟩ := Jvm.LawKit.callS X0 hx (y := (⟨"java/util/Arrays", "copyOf", "([BI)[B"⟩ : MethodName)) hown (mvT hZ (hw _ (List.mem_of_getElem? (i := 10) rfl))) (mvT hZ (hw _ (List.mem_of_getElem? (i := 11) rfl))) (mvT hZ (hw _ (List.mem_of_getElem? (i := 12) rfl))) (mvT hZ (hw _ (List.mem_of_getElem? (i := 13) rfl))) (by decide) (Jvm.Free.JA.CopyOfB.pays (W := 0) a1 cl 2 (own_tab hZ hw) (by decide) (by decide)) (g := (mkF m 22 #[.val (.ref a1), .val (.int ((2 : Int32) - (1 : Int32))), .unset] [(.int (((2 : Int32) - (1 : Int32)) + (1 : Int32))), (.ref a1)])) rfl (by rw [hml]; rfl) (argsL := [(.ref a1), (.int (((2 : Int32) - (1 : Int32)) + (1 : Int32)))]) (rest := []) (lenOf pd_2_2 rfl) rfl (by show 2 * 0 + _ ≤ _; exact Nat.le_of_eq rfl) (hb hby d2_22) (fun vm₁ hv => ⟨Nat.le_of_ble_eq_true rfl, Nat.le_of_ble_eq_true rfl, own_P hZ hv e0 Ar Ex (by rw [Sz]; decide) Ty (by decide) (by decide)⟩)
  dsimp only [Pt.U, Pt.locs, Pt.cells, Pt.slots] at X3 l3 y3 z3 st3 hE3
  subst l3 y3 z3
  obtain ⟨hv, KB, B, ArB, SB, HB⟩ := own_new (show (s₁.setVm vq3).heap = h0 from e0) (hZ.alike.trans X3.warmed.alike) hE3
  rw [← hr0] at hv ArB
  subst hv
  have hin29 : ¬ (((2 : Int32) - (1 : Int32)) < 0 ∨ B.slots.size ≤ (((2 : Int32) - (1 : Int32))).toNatClampNeg) := by rw [SB]; decide
  have hat29 : B.slots[(((2 : Int32) - (1 : Int32))).toNatClampNeg]? = some (.int w) := by
    rw [(by decide : (((2 : Int32) - (1 : Int32))).toNatClampNeg = 1), HB 1 (by decide)]
    show some (cl.slots.getD 1 _) = _
    rw [Array.getD_eq_getD_getElem?, hk]; rfl
  have hin33 := hin29
  have g_r : n0 ≤ r := by rw [hr0]; exact Z0
  have N3 : Fr n0 ([] ++ []) := Fr.app N0 N0
  obtain ⟨T5, h5, X5, e5, W5, st5⟩ := stB X3 hx hZ rfl ArB (j := ((2 : Int32) - (1 : Int32))) hin33 (g := (mkF m 33 #[.val (.ref a1), .val (.int ((2 : Int32) - (1 : Int32))), .val (.ref r)] [(.int ((w + (1 : Int32)).toInt8.toInt32)), (.int ((2 : Int32) - (1 : Int32))), (.ref r)])) rfl rfl (hb hby d2_33)
  have N5 := Fr.snoc X5 N3 g_r
  have KW : Keep h0 h5 [] := KB.wr W5 (Or.inr (Nat.le_of_eq hr0.symm))
  obtain ⟨B', hB', -, -, hsz, -, hoth, hsm⟩ := wr_at W5 ArB.1
  have ArW : Arr Z h5 r B' .byte := by rw [(hsm rfl).1]; exact ArB.same W5
  obtain ⟨fs, hr, hrun, hended, hW, hsame⟩ := X5.leave (v := some (.ref r)) (fun h => by rw [Bd.returns] at h; cases h)
  refine ⟨_, _, pre0 _ ?_, hrun, hended, _, _, rfl, ?_, ⟨_, rfl⟩, hW, hsame.mono (by decide) (by decide)⟩
  · show Steps p.tables e below (s₁.setTop (mkF m 0 #[.val (.ref a1), .unset, .unset] [])) _
    refine XS.aloadN X0.here hx rfl (hb hby d2_0) rfl rfl ?_
    show Steps p.tables e below (s₁.setTop (mkF m 1 #[.val (.ref a1), .unset, .unset] [(.ref a1)])) _
    refine X0.arraylength hx (by rw [e0]; exact Ar.1) (State.isArrayOf_alike hZ.alike Ar.2.1) (g := (mkF m 1 #[.val (.ref a1), .unset, .unset] [(.ref a1)])) rfl rfl (hb hby d2_1) _ ?_
    rw [len_of Sz (by decide)]
    show Steps p.tables e below (s₁.setTop (mkF m 2 #[.val (.ref a1), .unset, .unset] [(.int (2 : Int32))])) _
    refine XS.iconst X0.here hx rfl (hb hby d2_2) ?_
    show Steps p.tables e below (s₁.setTop (mkF m 3 #[.val (.ref a1), .unset, .unset] [(.int (1 : Int32)), (.int (2 : Int32))])) _
    refine XS.isub X0.here hx rfl (hb hby d2_3) rfl ?_
    show Steps p.tables e below (s₁.setTop (mkF m 4 #[.val (.ref a1), .unset, .unset] [(.int ((2 : Int32) - (1 : Int32)))])) _
    refine XS.istoreN X0.here hx rfl (hb hby d2_4) rfl (l' := #[.val (.ref a1), .val (.int ((2 : Int32) - (1 : Int32))), .unset]) rfl ?_
    show Steps p.tables e below (s₁.setTop (mkF m 5 #[.val (.ref a1), .val (.int ((2 : Int32) - (1 : Int32))), .unset] [])) _
    refine XS.aloadN X0.here hx rfl (hb hby d2_5) rfl rfl ?_
    show Steps p.tables e below (s₁.setTop (mkF m 6 #[.val (.ref a1), .val (.int ((2 : Int32) - (1 : Int32))), .unset] [(.ref a1)])) _
    refine XS.iloadN X0.here hx rfl (hb hby d2_6) rfl ?_
    show Steps p.tables e below (s₁.setTop (mkF m 7 #[.val (.ref a1), .val (.int ((2 : Int32) - (1 : Int32))), .unset] [(.int ((2 : Int32) - (1 : Int32))), (.ref a1)])) _
    refine X0.baloadBytes hx (j := ((2 : Int32) - (1 : Int32))) (v := (.int w)) (by rw [e0]; exact Ar.1) (State.isArrayOf_alike hZ.alike Ar.2.1) Ar.2.2 (by rw [Sz]; decide) (by rw [(by decide : (((2 : Int32) - (1 : Int32))).toNatClampNeg = 1)]; exact hk) (g := (mkF m 7 #[.val (.ref a1), .val (.int ((2 : Int32) - (1 : Int32))), .unset] [(.int ((2 : Int32) - (1 : Int32))), (.ref a1)])) rfl rfl (hb hby d2_7) _ ?_
    show Steps p.tables e below (s₁.setTop (mkF m 8 #[.val (.ref a1), .val (.int ((2 : Int32) - (1 : Int32))), .unset] [(.int w)])) _
    refine XS.iconst X0.here hx rfl (hb hby d2_8) ?_
    show Steps p.tables e below (s₁.setTop (mkF m 9 #[.val (.ref a1), .val (.int ((2 : Int32) - (1 : Int32))), .unset] [(.int (-1 : Int32)), (.int w)])) _
    refine XS.icmpYes X0.here hx rfl (pc0 := 9) (pc' := 18) rfl (hb hby d2_9) rfl (feq hne).2 (by decide) (by decide) ?_
    show Steps p.tables e below (s₁.setTop (mkF m 18 #[.val (.ref a1), .val (.int ((2 : Int32) - (1 : Int32))), .unset] [])) _
    refine XS.aloadN X0.here hx rfl (hb hby d2_18) rfl rfl ?_
    show Steps p.tables e below (s₁.setTop (mkF m 19 #[.val (.ref a1), .val (.int ((2 : Int32) - (1 : Int32))), .unset] [(.ref a1)])) _
    refine XS.iloadN X0.here hx rfl (hb hby d2_19) rfl ?_
    show Steps p.tables e below (s₁.setTop (mkF m 20 #[.val (.ref a1), .val (.int ((2 : Int32) - (1 : Int32))), .unset] [(.int ((2 : Int32) - (1 : Int32))), (.ref a1)])) _
    refine XS.iconst X0.here hx rfl (hb hby d2_20) ?_
    show Steps p.tables e below (s₁.setTop (mkF m 21 #[.val (.ref a1), .val (.int ((2 : Int32) - (1 : Int32))), .unset] [(.int (1 : Int32)), (.int ((2 : Int32) - (1 : Int32))), (.ref a1)])) _
    refine XS.iadd X0.here hx rfl (hb hby d2_21) rfl ?_
    show Steps p.tables e below (s₁.setTop (mkF m 22 #[.val (.ref a1), .val (.int ((2 : Int32) - (1 : Int32))), .unset] [(.int (((2 : Int32) - (1 : Int32)) + (1 : Int32))), (.ref a1)])) _
    refine st3 _ ?_
    show Steps p.tables e below (T3.setTop (mkF m 25 #[.val (.ref a1), .val (.int ((2 : Int32) - (1 : Int32))), .unset] [(.ref r)])) _
    refine XS.astoreN X3.here hx rfl (hb hby d2_25) rfl rfl (l' := #[.val (.ref a1), .val (.int ((2 : Int32) - (1 : Int32))), .val (.ref r)]) rfl ?_
    show Steps p.tables e below (T3.setTop (mkF m 26 #[.val (.ref a1), .val (.int ((2 : Int32) - (1 : Int32))), .val (.ref r)] [])) _
    refine XS.aloadN X3.here hx rfl (hb hby d2_26) rfl rfl ?_
    show Steps p.tables e below (T3.setTop (mkF m 27 #[.val (.ref a1), .val (.int ((2 : Int32) - (1 : Int32))), .val (.ref r)] [(.ref r)])) _
    refine XS.iloadN X3.here hx rfl (hb hby d2_27) rfl ?_
    show Steps p.tables e below (T3.setTop (mkF m 28 #[.val (.ref a1), .val (.int ((2 : Int32) - (1 : Int32))), .val (.ref r)] [(.int ((2 : Int32) - (1 : Int32))), (.ref r)])) _
    jvm_step X3.here [X3.here.top, hx, (hb hby d2_28), Value.category]
    show Steps p.tables e below (T3.setTop (mkF m 29 #[.val (.ref a1), .val (.int ((2 : Int32) - (1 : Int32))), .val (.ref r)] [(.int ((2 : Int32) - (1 : Int32))), (.ref r), (.int ((2 : Int32) - (1 : Int32))), (.ref r)])) _
    refine X3.baloadBytes hx (j := ((2 : Int32) - (1 : Int32))) (v := (.int w)) ArB.1 (State.isArrayOf_alike hZ.alike ArB.2.1) ArB.2.2 hin29 hat29 (g := (mkF m 29 #[.val (.ref a1), .val (.int ((2 : Int32) - (1 : Int32))), .val (.ref r)] [(.int ((2 : Int32) - (1 : Int32))), (.ref r), (.int ((2 : Int32) - (1 : Int32))), (.ref r)])) rfl rfl (hb hby d2_29) _ ?_
    show Steps p.tables e below (T3.setTop (mkF m 30 #[.val (.ref a1), .val (.int ((2 : Int32) - (1 : Int32))), .val (.ref r)] [(.int w), (.int ((2 : Int32) - (1 : Int32))), (.ref r)])) _
    refine XS.iconst X3.here hx rfl (hb hby d2_30) ?_
    show Steps p.tables e below (T3.setTop (mkF m 31 #[.val (.ref a1), .val (.int ((2 : Int32) - (1 : Int32))), .val (.ref r)] [(.int (1 : Int32)), (.int w), (.int ((2 : Int32) - (1 : Int32))), (.ref r)])) _
    refine XS.iadd X3.here hx rfl (hb hby d2_31) rfl ?_
    show Steps p.tables e below (T3.setTop (mkF m 32 #[.val (.ref a1), .val (.int ((2 : Int32) - (1 : Int32))), .val (.ref r)] [(.int (w + (1 : Int32))), (.int ((2 : Int32) - (1 : Int32))), (.ref r)])) _
    refine XS.i2b X3.here hx rfl (hb hby d2_32) rfl ?_
    show Steps p.tables e below (T3.setTop (mkF m 33 #[.val (.ref a1), .val (.int ((2 : Int32) - (1 : Int32))), .val (.ref r)] [(.int ((w + (1 : Int32)).toInt8.toInt32)), (.int ((2 : Int32) - (1 : Int32))), (.ref r)])) _
    refine st5 _ ?_
    show Steps p.tables e below (T5.setTop (mkF m 34 #[.val (.ref a1), .val (.int ((2 : Int32) - (1 : Int32))), .val (.ref r)] [])) _
    refine XS.aloadN X5.here hx rfl (hb hby d2_34) rfl rfl ?_
    show Steps p.tables e below (T5.setTop (mkF m 35 #[.val (.ref a1), .val (.int ((2 : Int32) - (1 : Int32))), .val (.ref r)] [(.ref r)])) _
    jvm_step X5.here [X5.here.top, hx, (hb hby d2_35), X5.method', Bd.returns, Value.isRef, FieldType.isReference]
    first | (intro acts; rw [hr _ acts rfl rfl rfl]) | rw [hr _ _ rfl rfl rfl]
    exact Steps.refl _
  · show Q2 Z cl 1 w r h0 n0 _ T5.heap _
    rw [e5]
    refine ⟨rfl, N5, KW, B', ArW, hsz.trans SB, fun j hj => ?_, ?_⟩
    · rw [hoth j (by rw [(by decide : (((2 : Int32) - (1 : Int32))).toNatClampNeg = 1)]; omega), HB j (by omega), Array.getD_eq_getD_getElem?]
      have hj' : j < cl.slots.size := by rw [Sz]; exact Nat.lt_of_lt_of_le hj (by decide)
      rw [Array.getElem?_eq_getElem hj']; rfl
    · have q := (hsm rfl).2.1
      rw [(by decide : (((2 : Int32) - (1 : Int32))).toNatClampNeg = 1)] at q
      rw [q]; exact congrArg (fun y => some (Value.int y)) (own_nar _)

set_option maxRecDepth 65536 in
set_option maxHeartbeats 40000000 in
theorem rm2_32 (l : Launch) (Z : State) (a0 : Array Value) (hw : ∀ d ∈ tables_1, d.before a0 Z = true) (ws : List Jvm.Cond) (a1 : Addr) (cl : Cell) (w : Int32) (r : Addr) (h0 : Heap) (n0 : Nat) (Z0 : n0 ≤ h0.size) (hr0 : r = h0.size) (Ar : Arr Z h0 a1 cl .byte) (Ex : Exa Z h0 a1 "[B") (Sz : cl.slots.size = (3 : Int32).toNatClampNeg) (Ty : ∀ (i : Nat) (v : Value), cl.slots[i]? = some v → fits .byte v = true) (hk : cl.slots[2]? = some (.int w)) (hne : ¬ (w = (-1 : Int32)))  :
    MetFree l (⟨"com/example/coord2/coord2/KeyRange", "successor", "([B)[B"⟩ : MethodName) (head1 (Jvm.Cond.code (⟨"com/example/coord2/coord2/KeyRange", "successor", "([B)[B"⟩ : MethodName) prog_1_method_4_code 3 (some (.array .byte)) :: ws) ({ frames := 2, cells := 1, slots := 3, locals := 54 } : Room)) (fun a U => a = #[(.ref a1)] ∧ Z.Warmed39 U.vm ∧ U.heap = h0) (fun _ _ _ _ _ => True) (fun _ U o U' => ∃ v L, o = .returned v ∧ Q2 Z cl 2 w r h0 n0 v U'.heap L ∧ FrameEnd U o U' L ({ frames := 2, cells := 1, slots := 3, locals := 54 } : Room).cells ({ frames := 2, cells := 1, slots := 3, locals := 54 } : Room).slots) := by
  refine MetFree.of_bodySF (plainFor_of_name pn_2) hisR ?_
  intro p e s m args below meth c s₁ Bd hml0 hP hK
  obtain ⟨rfl, hZ, hh⟩ := hP
  have hx := Bd.exec
  have hby := Bd.bytes
  have hml : c.maxLocals = 3 := hml0
  have hown : s.vm.findClass "com/example/coord2/coord2/KeyRange" = some m.cls := findClass_of_methodNamed Bd.named
  have hnm := (name_of_methodNamed Bd.named Bd.method).1
  have X0 : Stand p l e ({ frames := 2, cells := 1, slots := 3, locals := 54 } : Room) s m #[(.ref a1)] below meth c s₁ [] 0 0 := Stand.of_body Bd
  have e0 : s₁.heap = h0 := by rw [← hh, Bd.state]; rfl
  have N0 := Fr.nil n0
  have pre0 : ∀ t, Steps p.tables e below (s₁.setTop (mkF m 0 #[.val (.ref a1), .unset, .unset] [])) t → Steps p.tables e below (s₁.setTop (entryFrame m #[(.ref a1)] 3)) t := fun t k => castTop (ef_2 m a1) k
  obtain ⟨v3, vq3, ⟨T3, L3, k3, n3⟩, hv3, X3, ⟨hE3, l3, y3, z3⟩, st3⟩ := Jvm.LawKit.callS X0 hx (y := (⟨"java/util/Arrays", "copyOf", "([BI)[B"⟩ : MethodName)) hown (mvT hZ (hw _ (List.mem_of_getElem? (i := 10) rfl))) (mvT hZ (hw _ (List.mem_of_getElem? (i := 11) rfl))) (mvT hZ (hw _ (List.mem_of_getElem? (i := 12) rfl))) (mvT hZ (hw _ (List.mem_of_getElem? (i := 13) rfl))) (by decide) (Jvm.Free.JA.CopyOfB.pays (W := 0) a1 cl 3 (own_tab hZ hw) (by decide) (by decide)) (g := (mkF m 22 #[.val (.ref a1), .val (.int ((3 : Int32) - (1 : Int32))), .unset] [(.int (((3 : Int32) - (1 : Int32)) + (1 : Int32))), (.ref a1)])) rfl (by rw [hml]; rfl) (argsL := [(.ref a1), (.int (((3 : Int32) - (1 : Int32)) + (1 : Int32)))]) (rest := []) (lenOf pd_2_2 rfl) rfl (by show 2 * 0 + _ ≤ _; exact Nat.le_of_eq rfl) (hb hby d2_22) (fun vm₁ hv => ⟨Nat.le_of_ble_eq_true rfl, Nat.le_of_ble_eq_true rfl, own_P hZ hv e0 Ar Ex (by rw [Sz]; decide) Ty (by decide) (by decide)⟩)
  dsimp only [Pt.U, Pt.locs, Pt.cells, Pt.slots] at X3 l3 y3 z3 st3 hE3
  subst l3 y3 z3
  obtain ⟨hv, KB, B, ArB, SB, HB⟩ := own_new (show (s₁.setVm vq3).heap = h0 from e0) (hZ.alike.trans X3.warmed.alike) hE3
  rw [← hr0] at hv ArB
  subst hv
  have hin29 : ¬ (((3 : Int32) - (1 : Int32)) < 0 ∨ B.slots.size ≤ (((3 : Int32) - (1 : Int32))).toNatClampNeg) := by rw [SB]; decide
  have hat29 : B.slots[(((3 : Int32) - (1 : Int32))).toNatClampNeg]? = some (.int w) := by
    rw [(by decide : (((3 : Int32) - (1 : Int32))).toNatClampNeg = 2), HB 2 (by decide)]
    show some (cl.slots.getD 2 _) = _
    rw [Array.getD_eq_getD_getElem?, hk]; rfl
  have hin33 := hin29
  have g_r : n0 ≤ r := by rw [hr0]; exact Z0
  have N3 : Fr n0 ([] ++ []) := Fr.app N0 N0
  obtain ⟨T5, h5, X5, e5, W5, st5⟩ := stB X3 hx hZ rfl ArB (j := ((3 : Int32) - (1 : Int32))) hin33 (g := (mkF m 33 #[.val (.ref a1), .val (.int ((3 : Int32) - (1 : Int32))), .val (.ref r)] [(.int ((w + (1 : Int32)).toInt8.toInt32)), (.int ((3 : Int32) - (1 : Int32))), (.ref r)])) rfl rfl (hb hby d2_33)
  have N5 := Fr.snoc X5 N3 g_r
  have KW : Keep h0 h5 [] := KB.wr W5 (Or.inr (Nat.le_of_eq hr0.symm))
  obtain ⟨B', hB', -, -, hsz, -, hoth, hsm⟩ := wr_at W5 ArB.1
  have ArW : Arr Z h5 r B' .byte := by rw [(hsm rfl).1]; exact ArB.same W5
  obtain ⟨fs, hr, hrun, hended, hW, hsame⟩ := X5.leave (v := some (.ref r)) (fun h => by rw [Bd.returns] at h; cases h)
  refine ⟨_, _, pre0 _ ?_, hrun, hended, _, _, rfl, ?_, ⟨_, rfl⟩, hW, hsame.mono (by decide) (by decide)⟩
  · show Steps p.tables e below (s₁.setTop (mkF m 0 #[.val (.ref a1), .unset, .unset] [])) _
    refine XS.aloadN X0.here hx rfl (hb hby d2_0) rfl rfl ?_
    show Steps p.tables e below (s₁.setTop (mkF m 1 #[.val (.ref a1), .unset, .unset] [(.ref a1)])) _
    refine X0.arraylength hx (by rw [e0]; exact Ar.1) (State.isArrayOf_alike hZ.alike Ar.2.1) (g := (mkF m 1 #[.val (.ref a1), .unset, .unset] [(.ref a1)])) rfl rfl (hb hby d2_1) _ ?_
    rw [len_of Sz (by decide)]
    show Steps p.tables e below (s₁.setTop (mkF m 2 #[.val (.ref a1), .unset, .unset] [(.int (3 : Int32))])) _
    refine XS.iconst X0.here hx rfl (hb hby d2_2) ?_
    show Steps p.tables e below (s₁.setTop (mkF m 3 #[.val (.ref a1), .unset, .unset] [(.int (1 : Int32)), (.int (3 : Int32))])) _
    refine XS.isub X0.here hx rfl (hb hby d2_3) rfl ?_
    show Steps p.tables e below (s₁.setTop (mkF m 4 #[.val (.ref a1), .unset, .unset] [(.int ((3 : Int32) - (1 : Int32)))])) _
    refine XS.istoreN X0.here hx rfl (hb hby d2_4) rfl (l' := #[.val (.ref a1), .val (.int ((3 : Int32) - (1 : Int32))), .unset]) rfl ?_
    show Steps p.tables e below (s₁.setTop (mkF m 5 #[.val (.ref a1), .val (.int ((3 : Int32) - (1 : Int32))), .unset] [])) _
    refine XS.aloadN X0.here hx rfl (hb hby d2_5) rfl rfl ?_
    show Steps p.tables e below (s₁.setTop (mkF m 6 #[.val (.ref a1), .val (.int ((3 : Int32) - (1 : Int32))), .unset] [(.ref a1)])) _
    refine XS.iloadN X0.here hx rfl (hb hby d2_6) rfl ?_
    show Steps p.tables e below (s₁.setTop (mkF m 7 #[.val (.ref a1), .val (.int ((3 : Int32) - (1 : Int32))), .unset] [(.int ((3 : Int32) - (1 : Int32))), (.ref a1)])) _
    refine X0.baloadBytes hx (j := ((3 : Int32) - (1 : Int32))) (v := (.int w)) (by rw [e0]; exact Ar.1) (State.isArrayOf_alike hZ.alike Ar.2.1) Ar.2.2 (by rw [Sz]; decide) (by rw [(by decide : (((3 : Int32) - (1 : Int32))).toNatClampNeg = 2)]; exact hk) (g := (mkF m 7 #[.val (.ref a1), .val (.int ((3 : Int32) - (1 : Int32))), .unset] [(.int ((3 : Int32) - (1 : Int32))), (.ref a1)])) rfl rfl (hb hby d2_7) _ ?_
    show Steps p.tables e below (s₁.setTop (mkF m 8 #[.val (.ref a1), .val (.int ((3 : Int32) - (1 : Int32))), .unset] [(.int w)])) _
    refine XS.iconst X0.here hx rfl (hb hby d2_8) ?_
    show Steps p.tables e below (s₁.setTop (mkF m 9 #[.val (.ref a1), .val (.int ((3 : Int32) - (1 : Int32))), .unset] [(.int (-1 : Int32)), (.int w)])) _
    refine XS.icmpYes X0.here hx rfl (pc0 := 9) (pc' := 18) rfl (hb hby d2_9) rfl (feq hne).2 (by decide) (by decide) ?_
    show Steps p.tables e below (s₁.setTop (mkF m 18 #[.val (.ref a1), .val (.int ((3 : Int32) - (1 : Int32))), .unset] [])) _
    refine XS.aloadN X0.here hx rfl (hb hby d2_18) rfl rfl ?_
    show Steps p.tables e below (s₁.setTop (mkF m 19 #[.val (.ref a1), .val (.int ((3 : Int32) - (1 : Int32))), .unset] [(.ref a1)])) _
    refine XS.iloadN X0.here hx rfl (hb hby d2_19) rfl ?_
    show Steps p.tables e below (s₁.setTop (mkF m 20 #[.val (.ref a1), .val (.int ((3 : Int32) - (1 : Int32))), .unset] [(.int ((3 : Int32) - (1 : Int32))), (.ref a1)])) _
    refine XS.iconst X0.here hx rfl (hb hby d2_20) ?_
    show Steps p.tables e below (s₁.setTop (mkF m 21 #[.val (.ref a1), .val (.int ((3 : Int32) - (1 : Int32))), .unset] [(.int (1 : Int32)), (.int ((3 : Int32) - (1 : Int32))), (.ref a1)])) _
    refine XS.iadd X0.here hx rfl (hb hby d2_21) rfl ?_
    show Steps p.tables e below (s₁.setTop (mkF m 22 #[.val (.ref a1), .val (.int ((3 : Int32) - (1 : Int32))), .unset] [(.int (((3 : Int32) - (1 : Int32)) + (1 : Int32))), (.ref a1)])) _
    refine st3 _ ?_
    show Steps p.tables e below (T3.setTop (mkF m 25 #[.val (.ref a1), .val (.int ((3 : Int32) - (1 : Int32))), .unset] [(.ref r)])) _
    refine XS.astoreN X3.here hx rfl (hb hby d2_25) rfl rfl (l' := #[.val (.ref a1), .val (.int ((3 : Int32) - (1 : Int32))), .val (.ref r)]) rfl ?_
    show Steps p.tables e below (T3.setTop (mkF m 26 #[.val (.ref a1), .val (.int ((3 : Int32) - (1 : Int32))), .val (.ref r)] [])) _
    refine XS.aloadN X3.here hx rfl (hb hby d2_26) rfl rfl ?_
    show Steps p.tables e below (T3.setTop (mkF m 27 #[.val (.ref a1), .val (.int ((3 : Int32) - (1 : Int32))), .val (.ref r)] [(.ref r)])) _
    refine XS.iloadN X3.here hx rfl (hb hby d2_27) rfl ?_
    show Steps p.tables e below (T3.setTop (mkF m 28 #[.val (.ref a1), .val (.int ((3 : Int32) - (1 : Int32))), .val (.ref r)] [(.int ((3 : Int32) - (1 : Int32))), (.ref r)])) _
    jvm_step X3.here [X3.here.top, hx, (hb hby d2_28), Value.category]
    show Steps p.tables e below (T3.setTop (mkF m 29 #[.val (.ref a1), .val (.int ((3 : Int32) - (1 : Int32))), .val (.ref r)] [(.int ((3 : Int32) - (1 : Int32))), (.ref r), (.int ((3 : Int32) - (1 : Int32))), (.ref r)])) _
    refine X3.baloadBytes hx (j := ((3 : Int32) - (1 : Int32))) (v := (.int w)) ArB.1 (State.isArrayOf_alike hZ.alike ArB.2.1) ArB.2.2 hin29 hat29 (g := (mkF m 29 #[.val (.ref a1), .val (.int ((3 : Int32) - (1 : Int32))), .val (.ref r)] [(.int ((3 : Int32) - (1 : Int32))), (.ref r), (.int ((3 : Int32) - (1 : Int32))), (.ref r)])) rfl rfl (hb hby d2_29) _ ?_
    show Steps p.tables e below (T3.setTop (mkF m 30 #[.val (.ref a1), .val (.int ((3 : Int32) - (1 : Int32))), .val (.ref r)] [(.int w), (.int ((3 : Int32) - (1 : Int32))), (.ref r)])) _
    refine XS.iconst X3.here hx rfl (hb hby d2_30) ?_
    show Steps p.tables e below (T3.setTop (mkF m 31 #[.val (.ref a1), .val (.int ((3 : Int32) - (1 : Int32))), .val (.ref r)] [(.int (1 : Int32)), (.int w), (.int ((3 : Int32) - (1 : Int32))), (.ref r)])) _
    refine XS.iadd X3.here hx rfl (hb hby d2_31) rfl ?_
    show Steps p.tables e below (T3.setTop (mkF m 32 #[.val (.ref a1), .val (.int ((3 : Int32) - (1 : Int32))), .val (.ref r)] [(.int (w + (1 : Int32))), (.int ((3 : Int32) - (1 : Int32))), (.ref r)])) _
    refine XS.i2b X3.here hx rfl (hb hby d2_32) rfl ?_
    show Steps p.tables e below (T3.setTop (mkF m 33 #[.val (.ref a1), .val (.int ((3 : Int32) - (1 : Int32))), .val (.ref r)] [(.int ((w + (1 : Int32)).toInt8.toInt32)), (.int ((3 : Int32) - (1 : Int32))), (.ref r)])) _
    refine st5 _ ?_
    show Steps p.tables e below (T5.setTop (mkF m 34 #[.val (.ref a1), .val (.int ((3 : Int32) - (1 : Int32))), .val (.ref r)] [])) _
    refine XS.aloadN X5.here hx rfl (hb hby d2_34) rfl rfl ?_
    show Steps p.tables e below (T5.setTop (mkF m 35 #[.val (.ref a1), .val (.int ((3 : Int32) - (1 : Int32))), .val (.ref r)] [(.ref r)])) _
    jvm_step X5.here [X5.here.top, hx, (hb hby d2_35), X5.method', Bd.returns, Value.isRef, FieldType.isReference]
    first | (intro acts; rw [hr _ acts rfl rfl rfl]) | rw [hr _ _ rfl rfl rfl]
    exact Steps.refl _
  · show Q2 Z cl 2 w r h0 n0 _ T5.heap _
    rw [e5]
    refine ⟨rfl, N5, KW, B', ArW, hsz.trans SB, fun j hj => ?_, ?_⟩
    · rw [hoth j (by rw [(by decide : (((3 : Int32) - (1 : Int32))).toNatClampNeg = 2)]; omega), HB j (by omega), Array.getD_eq_getD_getElem?]
      have hj' : j < cl.slots.size := by rw [Sz]; exact Nat.lt_of_lt_of_le hj (by decide)
      rw [Array.getElem?_eq_getElem hj']; rfl
    · have q := (hsm rfl).2.1
      rw [(by decide : (((3 : Int32) - (1 : Int32))).toNatClampNeg = 2)] at q
      rw [q]; exact congrArg (fun y => some (Value.int y)) (own_nar _)

set_option maxRecDepth 65536 in
set_option maxHeartbeats 40000000 in
theorem rm2 (l : Launch) (Z : State) (a0 : Array Value) (hw : ∀ d ∈ tables_1, d.before a0 Z = true) (ws : List Jvm.Cond) (a1 : Addr) (cl : Cell) (z : Int32) (k : Nat) (w : Int32) (r : Addr) (h0 : Heap) (n0 : Nat) (Z0 : n0 ≤ h0.size) (hr0 : r = h0.size) (Ar : Arr Z h0 a1 cl .byte) (Ex : Exa Z h0 a1 "[B") (Sz : cl.slots.size = z.toNatClampNeg) (Ty : ∀ (i : Nat) (v : Value), cl.slots[i]? = some v → fits .byte v = true) (hzk : (z = 1 ∧ k = 0) ∨ (z = 2 ∧ k = 1) ∨ (z = 2 ∧ k = 0) ∨ (z = 3 ∧ k = 2) ∨ (z = 3 ∧ k = 1) ∨ (z = 3 ∧ k = 0)) (hk : cl.slots[k]? = some (.int w)) (hne : ¬ (w = (-1 : Int32))) (hl : ∀ j : Nat, k < j → j < cl.slots.size → cl.slots[j]? = some (.int (-1 : Int32))) :
    MetFree l (⟨"com/example/coord2/coord2/KeyRange", "successor", "([B)[B"⟩ : MethodName) (head1 (Jvm.Cond.code (⟨"com/example/coord2/coord2/KeyRange", "successor", "([B)[B"⟩ : MethodName) prog_1_method_4_code 3 (some (.array .byte)) :: ws) ({ frames := 2, cells := 1, slots := 3, locals := 54 } : Room)) (fun a U => a = #[(.ref a1)] ∧ Z.Warmed39 U.vm ∧ U.heap = h0) (fun _ _ _ _ _ => True) (fun _ U o U' => ∃ v L, o = .returned v ∧ Q2 Z cl k w r h0 n0 v U'.heap L ∧ FrameEnd U o U' L ({ frames := 2, cells := 1, slots := 3, locals := 54 } : Room).cells ({ frames := 2, cells := 1, slots := 3, locals := 54 } : Room).slots) := by
  rcases hzk with ⟨rfl, rfl⟩ | ⟨rfl, rfl⟩ | ⟨rfl, rfl⟩ | ⟨rfl, rfl⟩ | ⟨rfl, rfl⟩ | ⟨rfl, rfl⟩
  · exact rm2_10 l Z a0 hw ws a1 cl w r h0 n0 Z0 hr0 Ar Ex Sz Ty hk hne
  · exact rm2_21 l Z a0 hw ws a1 cl w r h0 n0 Z0 hr0 Ar Ex Sz Ty hk hne
  · exact rm2_20 l Z a0 hw ws a1 cl w r h0 n0 Z0 hr0 Ar Ex Sz Ty hk hne (hl 1 (by decide) (by rw [Sz]; decide))
  · exact rm2_32 l Z a0 hw ws a1 cl w r h0 n0 Z0 hr0 Ar Ex Sz Ty hk hne
  · exact rm2_31 l Z a0 hw ws a1 cl w r h0 n0 Z0 hr0 Ar Ex Sz Ty hk hne (hl 2 (by decide) (by rw [Sz]; decide))
  · exact rm2_30 l Z a0 hw ws a1 cl w r h0 n0 Z0 hr0 Ar Ex Sz Ty hk hne (hl 1 (by decide) (by rw [Sz]; decide)) (hl 2 (by decide) (by rw [Sz]; decide))
theorem d1_0 : decode prog_1_method_2_code 0 = .ok (.new 8, 3) := by decide +kernel
theorem d1_3 : decode prog_1_method_2_code 3 = .ok (.dup, 1) := by decide +kernel
theorem d1_4 : decode prog_1_method_2_code 4 = .ok (.aload_n 0, 1) := by decide +kernel
theorem d1_5 : decode prog_1_method_2_code 5 = .ok (.aload_n 0, 1) := by decide +kernel
theorem d1_6 : decode prog_1_method_2_code 6 = .ok (.invokestatic 16, 3) := by decide +kernel
theorem d1_9 : decode prog_1_method_2_code 9 = .ok (.invokespecial 20, 3) := by decide +kernel
theorem d1_12 : decode prog_1_method_2_code 12 = .ok (.areturn, 1) := by decide +kernel
theorem pn_1 : plainName "com/example/coord2/coord2/KeyRange" = true := by first | (simp [plainName, overriddenIn]; done) | decide +kernel
theorem pd_1_1 : parseMethodDescriptor "([B)[B" = some ⟨[(.array .byte)], some (.array .byte)⟩ := by decide +kernel
theorem pd_1_4 : parseMethodDescriptor "([B[B)V" = some ⟨[(.array .byte), (.array .byte)], none⟩ := by decide +kernel
theorem ef_1 (m : MethodId) (x0 : Addr) : entryFrame m #[(.ref x0)] 1 = mkF m 0 #[.val (.ref x0)] [] := by first | (simp [entryFrame, mkF, argsToLocals, Value.category]; done) | rfl
def Q1 (Z : State) (a1 : Addr) (cl : Cell) (k : Nat) (w : Int32) (r : Addr) (h0 : Heap) (n0 : Nat) (v : Option Value) (h : Heap) (L : List Loc) : Prop := v = some (.ref r) ∧ Fr n0 L ∧ Keep h0 h [] ∧ Exa Z h r "com/example/coord2/coord2/KeyRange" ∧ Fld Z h r "com/example/coord2/coord2/KeyRange" "lower" "[B" (.ref a1) ∧ ∃ (ub : Addr) (B : Cell), Fld Z h r "com/example/coord2/coord2/KeyRange" "upper" "[B" (.ref ub) ∧ Arr Z h ub B .byte ∧ B.slots.size = k + 1 ∧ (∀ j : Nat, j < k → B.slots[j]? = cl.slots[j]?) ∧ B.slots[k]? = some (.int ((w + (1 : Int32)).toInt8.toInt32))
set_option maxRecDepth 65536 in
set_option maxHeartbeats 40000000 in
theorem rm1 (l : Launch) (Z : State) (a0 : Array Value) (hw : ∀ d ∈ tables_1, d.before a0 Z = true) (ws : List Jvm.Cond) (a1 : Addr) (cl : Cell) (z : Int32) (k : Nat) (w : Int32) (b2 : Addr) (h0 : Heap) (n0 : Nat) (Z0 : n0 ≤ h0.size) (g2 : b2 = h0.size) (Ar : Arr Z h0 a1 cl .byte) (Ex : Exa Z h0 a1 "[B") (Sz : cl.slots.size = z.toNatClampNeg) (Ty : ∀ (i : Nat) (v : Value), cl.slots[i]? = some v → fits .byte v = true) (hzk : (z = 1 ∧ k = 0) ∨ (z = 2 ∧ k = 1) ∨ (z = 2 ∧ k = 0) ∨ (z = 3 ∧ k = 2) ∨ (z = 3 ∧ k = 1) ∨ (z = 3 ∧ k = 0)) (hk : cl.slots[k]? = some (.int w)) (hne : ¬ (w = (-1 : Int32))) (hl : ∀ j : Nat, k < j → j < cl.slots.size → cl.slots[j]? = some (.int (-1 : Int32))) :
    MetFree l (⟨"com/example/coord2/coord2/KeyRange", "prefix", "([B)Lcom/example/coord2/coord2/KeyRange;"⟩ : MethodName) (head1 (Jvm.Cond.code (⟨"com/example/coord2/coord2/KeyRange", "prefix", "([B)Lcom/example/coord2/coord2/KeyRange;"⟩ : MethodName) prog_1_method_2_code 1 (some (.object "com/example/coord2/coord2/KeyRange")) :: ws) ({ frames := 3, cells := 2, slots := 5, locals := 71 } : Room)) (fun a U => a = #[(.ref a1)] ∧ Z.Warmed39 U.vm ∧ U.heap = h0) (fun _ _ _ _ _ => True) (fun _ U o U' => ∃ v L, o = .returned v ∧ Q1 Z a1 cl k w b2 h0 n0 v U'.heap L ∧ FrameEnd U o U' L ({ frames := 3, cells := 2, slots := 5, locals := 71 } : Room).cells ({ frames := 3, cells := 2, slots := 5, locals := 71 } : Room).slots) := by
  refine MetFree.of_bodySF (plainFor_of_name pn_1) hisR ?_
  intro p e s m args below meth c s₁ Bd hml0 hP hK
  obtain ⟨rfl, hZ, hh⟩ := hP
  have hx := Bd.exec
  have hby := Bd.bytes
  have hml : c.maxLocals = 1 := hml0
  have hown : s.vm.findClass "com/example/coord2/coord2/KeyRange" = some m.cls := findClass_of_methodNamed Bd.named
  have hnm := (name_of_methodNamed Bd.named Bd.method).1
  have X0 : Stand p l e ({ frames := 3, cells := 2, slots := 5, locals := 71 } : Room) s m #[(.ref a1)] below meth c s₁ [] 0 0 := Stand.of_body Bd
  have e0 : s₁.heap = h0 := by rw [← hh, Bd.state]; rfl
  have N0 := Fr.nil n0
  have pre0 : ∀ t, Steps p.tables e below (s₁.setTop (mkF m 0 #[.val (.ref a1)] [])) t → Steps p.tables e below (s₁.setTop (entryFrame m #[(.ref a1)] 1)) t := fun t k => castTop (ef_1 m a1) k
  obtain ⟨T2, h2, X2, e2, E2, A2, D2, -, st2⟩ := newO X0 hx hZ hown (hw _ (List.mem_of_getElem? (i := 5) rfl)) (hw _ (List.mem_of_getElem? (i := 6) rfl)) (hw _ (List.mem_of_getElem? (i := 3) rfl)) e0 (g := (mkF m 0 #[.val (.ref a1)] [])) rfl (hb hby d1_0) (by decide) (by decide)
  rw [← g2] at A2 D2 st2
  have F_lower_b2 : Fld Z h2 b2 "com/example/coord2/coord2/KeyRange" "lower" "[B" .null := D2 (Or.inr (hw _ (List.mem_of_getElem? (i := 35) rfl))) (ty := (.array .byte)) (by decide)
  have F_upper_b2 : Fld Z h2 b2 "com/example/coord2/coord2/KeyRange" "upper" "[B" .null := D2 (Or.inr (hw _ (List.mem_of_getElem? (i := 37) rfl))) (ty := (.array .byte)) (by decide)
  have E_b2 := A2
  have g_b2 : n0 ≤ b2 := Nat.le_trans Z0 (Nat.le_of_eq g2.symm)
  have sz_b2 : h0.size ≤ b2 := (Nat.le_trans (Keep.refl h0 []).1 (Nat.le_of_eq g2.symm))
  have K2 : Keep h0 h2 [] := (Keep.refl h0 []).ext E2
  obtain ⟨u3, gu3⟩ : ∃ z, z = h2.size := ⟨_, rfl⟩
  obtain ⟨_, _, ⟨T3, L3, k3, n3⟩, -, X3, ⟨Lc3, hQ3, l3, y3, z3⟩, st3⟩ := Jvm.LawKit.callS X2 hx (y := (⟨"com/example/coord2/coord2/KeyRange", "successor", "([B)[B"⟩ : MethodName)) hown (mvT hZ (hw _ (List.mem_of_getElem? (i := 7) rfl))) (mvT hZ (hw _ (List.mem_of_getElem? (i := 8) rfl))) (mvT hZ (hw _ (List.mem_of_getElem? (i := 3) rfl))) (mvT hZ (hw _ (List.mem_of_getElem? (i := 9) rfl))) (by decide) (backOf (W := 3) (rm2 l Z a0 hw [] a1 cl z k w u3 h2 n0 (Nat.le_trans Z0 E2.1) gu3 (Ar.ext E2) (Ex.ext E2) Sz Ty hzk hk hne hl) hZ (hw _ (List.mem_of_getElem? (i := 9) rfl)) (hw _ (List.mem_of_getElem? (i := 3) rfl)) (by decide) (by decide)) (g := (mkF m 6 #[.val (.ref a1)] [(.ref a1), (.ref a1), (.ref b2), (.ref b2)])) rfl (by rw [hml]; rfl) (argsL := [(.ref a1)]) (rest := [(.ref a1), (.ref b2), (.ref b2)]) (lenOf pd_1_1 rfl) rfl (by show 2 * 0 + _ ≤ _; exact Nat.le_of_eq rfl) (hb hby d1_6) (fun _ _ => ⟨rfl, e2, (Nat.le_of_ble_eq_true rfl), (Nat.le_of_ble_eq_true rfl)⟩)
  dsimp only [Pt.U, Pt.locs, Pt.cells, Pt.slots] at X3 l3 y3 z3 st3 hQ3
  subst l3 y3 z3
  obtain ⟨rfl, N3q, KC3, B, ArB, SB, HB, HK⟩ := hQ3
  have N3 := Fr.app N0 N3q
  obtain ⟨_, _, ⟨T4, L4, k4, n4⟩, -, X4, ⟨Lc4, hQ4, l4, y4, z4⟩, st4⟩ := X3.specialBack hx (y := (⟨"com/example/coord2/coord2/KeyRange", "<init>", "([B[B)V"⟩ : MethodName)) rfl hown (mvT hZ (hw _ (List.mem_of_getElem? (i := 23) rfl))) (mvT hZ (hw _ (List.mem_of_getElem? (i := 24) rfl))) (mvT hZ (hw _ (List.mem_of_getElem? (i := 25) rfl))) (by decide) (backOf (W := 1) (rm4 l Z a0 hw [] b2 a1 u3 .null .null T3.heap n0 (Nat.le_trans (Nat.le_trans Z0 E2.1) KC3.1) (E_b2.keep KC3) (F_lower_b2.keep KC3 List.not_mem_nil) g_b2 (F_upper_b2.keep KC3 List.not_mem_nil)) hZ (hw _ (List.mem_of_getElem? (i := 25) rfl)) (hw _ (List.mem_of_getElem? (i := 3) rfl)) (by decide) (by decide)) (g := (mkF m 9 #[.val (.ref a1)] [(.ref u3), (.ref a1), (.ref b2), (.ref b2)])) rfl (by rw [hml]; rfl) (Steps.refl _) (a := b2) (argsL := [(.ref a1), (.ref u3)]) (rest := [(.ref b2)]) (lenOf pd_1_4 rfl) rfl (by show 2 * 0 + _ ≤ _; exact Nat.le_of_eq rfl) (hb hby d1_9) (fun _ _ => ⟨rfl, rfl, (Nat.le_of_ble_eq_true rfl), (Nat.le_of_ble_eq_true rfl)⟩)
  dsimp only [Pt.U, Pt.locs, Pt.cells, Pt.slots] at X4 l4 y4 z4 st4 hQ4
  subst l4 y4 z4
  obtain ⟨rfl, N4q, KC4, EX4, FL4, FU4⟩ := hQ4
  have nu : u3 ∉ [b2] := fun q => Nat.ne_of_gt (Nat.lt_of_lt_of_le E_b2.lt (Nat.le_of_eq gu3.symm)) (List.mem_singleton.mp q)
  have KK : Keep h0 T4.heap [] := (K2.trans KC3 (fun x hx => absurd hx List.not_mem_nil)).trans KC4 (fun x hx => by cases List.mem_singleton.mp hx; exact Or.inr sz_b2)
  have N4 := Fr.app N3 N4q
  obtain ⟨fs, hr, hrun, hended, hW, hsame⟩ := X4.leave (v := some (.ref b2)) (fun h => by rw [Bd.returns] at h; cases h)
  refine ⟨_, _, pre0 _ ?_, hrun, hended, _, _, rfl, ?_, ⟨_, rfl⟩, hW, hsame.mono (by decide) (by decide)⟩
  · show Steps p.tables e below (s₁.setTop (mkF m 0 #[.val (.ref a1)] [])) _
    refine st2 _ ?_
    show Steps p.tables e below (T2.setTop (mkF m 3 #[.val (.ref a1)] [(.ref b2)])) _
    refine XS.dup X2.here hx rfl (hb hby d1_3) rfl rfl ?_
    show Steps p.tables e below (T2.setTop (mkF m 4 #[.val (.ref a1)] [(.ref b2), (.ref b2)])) _
    refine XS.aloadN X2.here hx rfl (hb hby d1_4) rfl rfl ?_
    show Steps p.tables e below (T2.setTop (mkF m 5 #[.val (.ref a1)] [(.ref a1), (.ref b2), (.ref b2)])) _
    refine XS.aloadN X2.here hx rfl (hb hby d1_5) rfl rfl ?_
    show Steps p.tables e below (T2.setTop (mkF m 6 #[.val (.ref a1)] [(.ref a1), (.ref a1), (.ref b2), (.ref b2)])) _
    refine st3 _ ?_
    show Steps p.tables e below (T3.setTop (mkF m 9 #[.val (.ref a1)] [(.ref u3), (.ref a1), (.ref b2), (.ref b2)])) _
    refine st4.trans ?_
    show Steps p.tables e below (T4.setTop (mkF m 12 #[.val (.ref a1)] [(.ref b2)])) _
    jvm_step X4.here [X4.here.top, hx, (hb hby d1_12), X4.method', Bd.returns, Value.isRef, FieldType.isReference]
    first | (intro acts; rw [hr _ acts rfl rfl rfl]) | rw [hr _ _ rfl rfl rfl]
    exact Steps.refl _
  · show Q1 Z a1 cl k w b2 h0 n0 _ T4.heap _
    exact ⟨rfl, N4, KK, EX4, FL4, u3, B, FU4, own_arr ArB KC4 nu, SB, HB, HK⟩
theorem pn_0 : plainName "com/example/coord2/coord2/KeyRangePrefixPinLaw" = true := by first | (simp [plainName, overriddenIn]; done) | decide +kernel
theorem pd_0_0 : parseMethodDescriptor "([B)Lcom/example/coord2/coord2/KeyRange;" = some ⟨[(.array .byte)], some (.object "com/example/coord2/coord2/KeyRange")⟩ := by decide +kernel
theorem pd_0_6 : parseMethodDescriptor "()[B" = some ⟨[], some (.array .byte)⟩ := by decide +kernel
theorem pd_0_7 : parseMethodDescriptor "([BIBBB)Z" = some ⟨[(.array .byte), .int, .byte, .byte, .byte], some .boolean⟩ := by decide +kernel
theorem ef_0 (m : MethodId) (x0 : Int32) (x1 : Int32) (x2 : Int32) (x3 : Int32) : entryFrame m #[(.int x0), (.int x1), (.int x2), (.int x3)] maxLocals = mkF m 0 #[.val (.int x0), .val (.int x1), .val (.int x2), .val (.int x3), .unset, .unset, .unset, .unset, .unset, .unset, .unset, .unset, .unset, .unset, .unset, .unset] [] := by first | (simp [entryFrame, mkF, argsToLocals, Value.category, maxLocals]; done) | rfl









def Q0 (h0 : Heap) (n0 : Nat) (v : Option Value) (h : Heap) (L : List Loc) : Prop := v = some (.int (1 : Int32)) ∧ Fr n0 L
set_option maxRecDepth 65536 in
set_option maxHeartbeats 40000000 in
theorem rm0_10 (l : Launch) (Z : State) (a0 : Array Value) (hw : ∀ d ∈ tables_1, d.before a0 Z = true) (ws : List Jvm.Cond) (p1 : Int32) (p2 : Int32) (p3 : Int32) (p4 : Int32) (h0 : Heap) (n0 : Nat) (Z0 : n0 ≤ h0.size) (hlen : ((1 : Int32) + ((p4 &&& (3 : Int32)) % (3 : Int32))) = (1 : Int32)) (nk0 : ¬ ((p1.toInt8.toInt32) = (-1 : Int32))) :
    MetFree l x (head1 (Jvm.Cond.code x code maxLocals ret :: ws) room_1) (fun a U => a = #[(.int p1), (.int p2), (.int p3), (.int p4)] ∧ Z.Warmed39 U.vm ∧ U.heap = h0) (fun _ _ _ _ _ => True) (fun _ U o U' => ∃ v L, o = .returned v ∧ Q0 h0 n0 v U'.heap L ∧ FrameEnd U o U' L room_1.cells room_1.slots) := by
  refine MetFree.of_bodySF (plainFor_of_name pn_0) hisR ?_
  intro p e s m args below meth c s₁ Bd hml0 hP hK
  obtain ⟨rfl, hZ, hh⟩ := hP
  have hx := Bd.exec
  have hby := Bd.bytes
  have hml : c.maxLocals = 16 := hml0
  have hown : s.vm.findClass "com/example/coord2/coord2/KeyRangePrefixPinLaw" = some m.cls := findClass_of_methodNamed Bd.named
  have hnm := (name_of_methodNamed Bd.named Bd.method).1
  have X0 : Stand p l e room_1 s m #[(.int p1), (.int p2), (.int p3), (.int p4)] below meth c s₁ [] 0 0 := Stand.of_body Bd
  have e0 : s₁.heap = h0 := by rw [← hh, Bd.state]; rfl
  have N0 := Fr.nil n0
  have pre0 : ∀ t, Steps p.tables e below (s₁.setTop (mkF m 0 #[.val (.int p1), .val (.int p2), .val (.int p3), .val (.int p4), .unset, .unset, .unset, .unset, .unset, .unset, .unset, .unset, .unset, .unset, .unset, .unset] [])) t → Steps p.tables e below (s₁.setTop (entryFrame m #[(.int p1), (.int p2), (.int p3), (.int p4)] maxLocals)) t := fun t k => castTop (ef_0 m p1 p2 p3 p4) k
  obtain ⟨T5, h5, k5, X5, e5, E5, A5, EA5, st5⟩ := newPE X0 hx hZ (hw _ (List.mem_of_getElem? (i := 0) rfl)) e0 (g := (mkF m 23 #[.val (.int p1), .val (.int p2), .val (.int p3), .val (.int p4), .val (.int (1 : Int32)), .val (.int (p1.toInt8.toInt32)), .val (.int (p2.toInt8.toInt32)), .val (.int (p3.toInt8.toInt32)), .unset, .unset, .unset, .unset, .unset, .unset, .unset, .unset] [(.int (1 : Int32))])) rfl (hb hby at_23) rfl (by decide) (cap := 3) (by decide) (by decide) (by decide) (by decide) (ad := "[B") rfl
  obtain ⟨b5, g5⟩ : ∃ z, z = h0.size := ⟨_, rfl⟩
  rw [← g5] at A5 EA5 st5
  have V_b5 : Arv Z h5 b5 k5 .byte (1 : Int32) [(.int (0 : Int32))] (.int (0 : Int32)) := (Arv.new A5 (by decide)).pad (pad_rep [] (.int (0 : Int32)) 1)
  have g_b5 : n0 ≤ b5 := Nat.le_trans Z0 (Nat.le_of_eq g5.symm)
  have sz_b5 : h0.size ≤ b5 := (Nat.le_trans (Keep.refl h0 []).1 (Nat.le_of_eq g5.symm))
  have K5 : Keep h0 h5 [] := (Keep.refl h0 []).ext E5
  obtain ⟨cl_b5_32, Ar_b5, q_b5, S_b5, N_b5, H_b5, G_b5⟩ := V_b5
  have hin32 : ¬ ((0 : Int32) < 0 ∨ cl_b5_32.slots.size ≤ ((0 : Int32)).toNatClampNeg) := inb_of S_b5 ⟨by decide, by decide⟩
  obtain ⟨T6, h6, X6, e6, W6, st6⟩ := stB X5 hx hZ e5 Ar_b5 (j := (0 : Int32)) hin32 (g := (mkF m 32 #[.val (.int p1), .val (.int p2), .val (.int p3), .val (.int p4), .val (.int (1 : Int32)), .val (.int (p1.toInt8.toInt32)), .val (.int (p2.toInt8.toInt32)), .val (.int (p3.toInt8.toInt32)), .val (.ref b5), .unset, .unset, .unset, .unset, .unset, .unset, .unset] [(.int (p1.toInt8.toInt32)), (.int (0 : Int32)), (.ref b5)])) rfl rfl (hb hby at_32)
  have V_b5_6 := Arv.set Ar_b5 q_b5 S_b5 N_b5 H_b5 G_b5 (fits_nar_byte _) W6 0 rfl (Nat.le_of_ble_eq_true rfl)
  have K6 : Keep h0 h6 [] := K5.wr W6 (Or.inr sz_b5)
  have N6 := Fr.snoc X6 N0 g_b5
  obtain ⟨cl, ArP, -, SP, -, HP, GP⟩ := V_b5_6
  have TyP : ∀ (i : Nat) (v : Value), cl.slots[i]? = some v → fits .byte v = true := fun i v hv => by
    obtain ⟨hi, -⟩ := Array.getElem?_eq_some_iff.mp hv
    rw [HP i hi] at hv; cases hv; exact GP i hi
  have c0 : cl.slots[0]? = some (.int (p1.toInt8.toInt32)) := (HP 0 (by rw [SP]; decide)).trans (congrArg (fun q => some (Value.int q)) (own_nar _))
  have hlat : ∀ j : Nat, 0 < j → j < cl.slots.size → cl.slots[j]? = some (.int (-1 : Int32)) := fun j h1 h2 => by
      rw [SP] at h2
      have h2 : j < 1 := h2
      omega
  have ExP : Exa Z h6 b5 "[B" := (EA5.wr W6)
  obtain ⟨r, gr⟩ : ∃ q, q = h6.size := ⟨_, rfl⟩
  obtain ⟨_, _, ⟨T7, L7, k7, n7⟩, -, X7, ⟨Lc7, hQ7, l7, y7, z7⟩, st7⟩ := Jvm.LawKit.callS X6 hx (y := (⟨"com/example/coord2/coord2/KeyRange", "prefix", "([B)Lcom/example/coord2/coord2/KeyRange;"⟩ : MethodName)) hown (mvT hZ (hw _ (List.mem_of_getElem? (i := 1) rfl))) (mvT hZ (hw _ (List.mem_of_getElem? (i := 2) rfl))) (mvT hZ (hw _ (List.mem_of_getElem? (i := 3) rfl))) (mvT hZ (hw _ (List.mem_of_getElem? (i := 4) rfl))) (by decide) (backOf (W := 0) (rm1 l Z a0 hw [] b5 cl (1 : Int32) 0 (p1.toInt8.toInt32) r h6 n0 (Nat.le_trans Z0 K6.1) gr ArP ExP SP TyP (Or.inl ⟨rfl, rfl⟩) c0 nk0 hlat) hZ (hw _ (List.mem_of_getElem? (i := 4) rfl)) (hw _ (List.mem_of_getElem? (i := 3) rfl)) (by decide) (by decide)) (g := (mkF m 159 #[.val (.int p1), .val (.int p2), .val (.int p3), .val (.int p4), .val (.int (1 : Int32)), .val (.int (p1.toInt8.toInt32)), .val (.int (p2.toInt8.toInt32)), .val (.int (p3.toInt8.toInt32)), .val (.ref b5), .val (.int (0 : Int32)), .val (.int (((p1.toInt8.toInt32) + (1 : Int32)).toInt8.toInt32)), .val (.int (p2.toInt8.toInt32)), .val (.int (p3.toInt8.toInt32)), .unset, .unset, .unset] [(.ref b5)])) rfl (by rw [hml]; rfl) (argsL := [(.ref b5)]) (rest := []) (lenOf pd_0_0 rfl) rfl (by show 2 * 0 + _ ≤ _; exact Nat.le_of_eq rfl) (hb hby at_159) (fun _ _ => ⟨rfl, e6, (Nat.le_of_ble_eq_true rfl), (Nat.le_of_ble_eq_true rfl)⟩)
  dsimp only [Pt.U, Pt.locs, Pt.cells, Pt.slots] at X7 l7 y7 z7 st7 hQ7
  subst l7 y7 z7
  obtain ⟨rfl, N7q, KC, EX, FL, ub, B, FU, ArU, SU, HU, UK⟩ := hQ7
  have ArP' : Arr Z T7.heap b5 cl .byte := own_arr ArP KC List.not_mem_nil
  have ZT : n0 ≤ T7.heap.size := Nat.le_trans (Nat.le_trans Z0 K6.1) KC.1
  have eq7 : T7.heap = T7.heap := rfl
  have N7 := Fr.app N6 N7q
  obtain ⟨cq8, kq8, q8a, q8b, q8c⟩ := isOf hZ rfl (by rw [eq7]; exact EX : Exa Z T7.heap r "com/example/coord2/coord2/KeyRange")
  obtain ⟨_, _, ⟨T8, L8, k8, n8⟩, -, X8, ⟨Lc8, hQ8, l8, y8, z8⟩, st8⟩ := X7.virtualBack hx (y := (⟨"com/example/coord2/coord2/KeyRange", "lower", "()[B"⟩ : MethodName)) (z := (⟨"com/example/coord2/coord2/KeyRange", "lower", "()[B"⟩ : MethodName)) hown (mvT hZ (hw _ (List.mem_of_getElem? (i := 38) rfl))) (mvT hZ (hw _ (List.mem_of_getElem? (i := 39) rfl))) (notFace_of_selects (args := #[]) (mvT hZ (hw _ (List.mem_of_getElem? (i := 41) rfl)))) (mvT hZ (hw _ (List.mem_of_getElem? (i := 41) rfl))) (mvT hZ (hw _ (List.mem_of_getElem? (i := 40) rfl))) (by decide) (backOf (W := 0) (rm7 l Z a0 hw [] r b5 T7.heap n0 ZT FL) hZ (hw _ (List.mem_of_getElem? (i := 42) rfl)) (hw _ (List.mem_of_getElem? (i := 3) rfl)) (by decide) (by decide)) q8a q8c (g := (mkF m 166 #[.val (.int p1), .val (.int p2), .val (.int p3), .val (.int p4), .val (.int (1 : Int32)), .val (.int (p1.toInt8.toInt32)), .val (.int (p2.toInt8.toInt32)), .val (.int (p3.toInt8.toInt32)), .val (.ref b5), .val (.int (0 : Int32)), .val (.int (((p1.toInt8.toInt32) + (1 : Int32)).toInt8.toInt32)), .val (.int (p2.toInt8.toInt32)), .val (.int (p3.toInt8.toInt32)), .val (.ref r), .unset, .unset] [(.ref r)])) rfl (by rw [hml]; rfl) (Steps.refl _) (argsL := []) (rest := []) (lenOf pd_0_6 rfl) rfl (by show 2 * 0 + _ ≤ _; exact Nat.le_of_eq rfl) (hb hby at_166) (fun _ _ => ⟨rfl, rfl, (Nat.le_of_ble_eq_true rfl), (Nat.le_of_ble_eq_true rfl)⟩)
  dsimp only [Pt.U, Pt.locs, Pt.cells, Pt.slots] at X8 l8 y8 z8 st8 hQ8
  subst l8 y8 z8
  obtain ⟨rfl, N8q, hq8⟩ := hQ8
  have eq8 : T8.heap = T7.heap := hq8.trans eq7
  have N8 := Fr.app N7 N8q
  obtain ⟨cq9, kq9, q9a, q9b, q9c⟩ := isOf hZ rfl (by rw [eq8]; exact EX : Exa Z T8.heap r "com/example/coord2/coord2/KeyRange")
  obtain ⟨_, _, ⟨T9, L9, k9, n9⟩, -, X9, ⟨Lc9, hQ9, l9, y9, z9⟩, st9⟩ := X8.virtualBack hx (y := (⟨"com/example/coord2/coord2/KeyRange", "upper", "()[B"⟩ : MethodName)) (z := (⟨"com/example/coord2/coord2/KeyRange", "upper", "()[B"⟩ : MethodName)) hown (mvT hZ (hw _ (List.mem_of_getElem? (i := 43) rfl))) (mvT hZ (hw _ (List.mem_of_getElem? (i := 44) rfl))) (notFace_of_selects (args := #[]) (mvT hZ (hw _ (List.mem_of_getElem? (i := 46) rfl)))) (mvT hZ (hw _ (List.mem_of_getElem? (i := 46) rfl))) (mvT hZ (hw _ (List.mem_of_getElem? (i := 45) rfl))) (by decide) (backOf (W := 0) (rm8 l Z a0 hw [] r ub T8.heap n0 (by rw [eq8]; exact ZT) (by rw [eq8]; exact FU)) hZ (hw _ (List.mem_of_getElem? (i := 47) rfl)) (hw _ (List.mem_of_getElem? (i := 3) rfl)) (by decide) (by decide)) q9a q9c (g := (mkF m 173 #[.val (.int p1), .val (.int p2), .val (.int p3), .val (.int p4), .val (.int (1 : Int32)), .val (.int (p1.toInt8.toInt32)), .val (.int (p2.toInt8.toInt32)), .val (.int (p3.toInt8.toInt32)), .val (.ref b5), .val (.int (0 : Int32)), .val (.int (((p1.toInt8.toInt32) + (1 : Int32)).toInt8.toInt32)), .val (.int (p2.toInt8.toInt32)), .val (.int (p3.toInt8.toInt32)), .val (.ref r), .val (.ref b5), .unset] [(.ref r)])) rfl (by rw [hml]; rfl) (Steps.refl _) (argsL := []) (rest := []) (lenOf pd_0_6 rfl) rfl (by show 2 * 0 + _ ≤ _; exact Nat.le_of_eq rfl) (hb hby at_173) (fun _ _ => ⟨rfl, rfl, (Nat.le_of_ble_eq_true rfl), (Nat.le_of_ble_eq_true rfl)⟩)
  dsimp only [Pt.U, Pt.locs, Pt.cells, Pt.slots] at X9 l9 y9 z9 st9 hQ9
  subst l9 y9 z9
  obtain ⟨rfl, N9q, hq9⟩ := hQ9
  have eq9 : T9.heap = T7.heap := hq9.trans eq8
  have N9 := Fr.app N8 N9q
  obtain ⟨_, _, ⟨T10, L10, k10, n10⟩, -, X10, ⟨Lc10, hQ10, l10, y10, z10⟩, st10⟩ := Jvm.LawKit.callS X9 hx (y := (⟨"com/example/coord2/coord2/KeyRangePrefixPinLaw", "same", "([BIBBB)Z"⟩ : MethodName)) hown (mvT hZ (hw _ (List.mem_of_getElem? (i := 48) rfl))) (mvT hZ (hw _ (List.mem_of_getElem? (i := 49) rfl))) (mvT hZ (hw _ (List.mem_of_getElem? (i := 50) rfl))) (mvT hZ (hw _ (List.mem_of_getElem? (i := 51) rfl))) (by decide) (backOf (W := 0) (rm9 l Z a0 hw [] b5 (1 : Int32) (p1.toInt8.toInt32) (p2.toInt8.toInt32) (p3.toInt8.toInt32) cl T9.heap n0 (by rw [eq9]; exact ZT) (by rw [eq9]; exact ArP') SP (Or.inl rfl) c0 (Or.inl rfl) (Or.inl rfl)) hZ (hw _ (List.mem_of_getElem? (i := 51) rfl)) (hw _ (List.mem_of_getElem? (i := 50) rfl)) (by decide) (by decide)) (g := (mkF m 188 #[.val (.int p1), .val (.int p2), .val (.int p3), .val (.int p4), .val (.int (1 : Int32)), .val (.int (p1.toInt8.toInt32)), .val (.int (p2.toInt8.toInt32)), .val (.int (p3.toInt8.toInt32)), .val (.ref b5), .val (.int (0 : Int32)), .val (.int (((p1.toInt8.toInt32) + (1 : Int32)).toInt8.toInt32)), .val (.int (p2.toInt8.toInt32)), .val (.int (p3.toInt8.toInt32)), .val (.ref r), .val (.ref b5), .val (.ref ub)] [(.int (p3.toInt8.toInt32)), (.int (p2.toInt8.toInt32)), (.int (p1.toInt8.toInt32)), (.int (1 : Int32)), (.ref b5)])) rfl (by rw [hml]; rfl) (argsL := [(.ref b5), (.int (1 : Int32)), (.int (p1.toInt8.toInt32)), (.int (p2.toInt8.toInt32)), (.int (p3.toInt8.toInt32))]) (rest := []) (lenOf pd_0_7 rfl) rfl (by show 2 * 0 + _ ≤ _; exact Nat.le_of_eq rfl) (hb hby at_188) (fun _ _ => ⟨rfl, rfl, (Nat.le_of_ble_eq_true rfl), (Nat.le_of_ble_eq_true rfl)⟩)
  dsimp only [Pt.U, Pt.locs, Pt.cells, Pt.slots] at X10 l10 y10 z10 st10 hQ10
  subst l10 y10 z10
  obtain ⟨rfl, N10q, hq10⟩ := hQ10
  have eq10 : T10.heap = T7.heap := hq10.trans eq9
  have N10 := Fr.app N9 N10q
  obtain ⟨_, _, ⟨T11, L11, k11, n11⟩, -, X11, ⟨Lc11, hQ11, l11, y11, z11⟩, st11⟩ := Jvm.LawKit.callS X10 hx (y := (⟨"com/example/coord2/coord2/KeyRangePrefixPinLaw", "same", "([BIBBB)Z"⟩ : MethodName)) hown (mvT hZ (hw _ (List.mem_of_getElem? (i := 48) rfl))) (mvT hZ (hw _ (List.mem_of_getElem? (i := 49) rfl))) (mvT hZ (hw _ (List.mem_of_getElem? (i := 50) rfl))) (mvT hZ (hw _ (List.mem_of_getElem? (i := 51) rfl))) (by decide) (backOf (W := 0) (rm9 l Z a0 hw [] b5 (1 : Int32) (p1.toInt8.toInt32) (p2.toInt8.toInt32) (p3.toInt8.toInt32) cl T10.heap n0 (by rw [eq10]; exact ZT) (by rw [eq10]; exact ArP') SP (Or.inl rfl) c0 (Or.inl rfl) (Or.inl rfl)) hZ (hw _ (List.mem_of_getElem? (i := 51) rfl)) (hw _ (List.mem_of_getElem? (i := 50) rfl)) (by decide) (by decide)) (g := (mkF m 204 #[.val (.int p1), .val (.int p2), .val (.int p3), .val (.int p4), .val (.int (1 : Int32)), .val (.int (p1.toInt8.toInt32)), .val (.int (p2.toInt8.toInt32)), .val (.int (p3.toInt8.toInt32)), .val (.ref b5), .val (.int (0 : Int32)), .val (.int (((p1.toInt8.toInt32) + (1 : Int32)).toInt8.toInt32)), .val (.int (p2.toInt8.toInt32)), .val (.int (p3.toInt8.toInt32)), .val (.ref r), .val (.ref b5), .val (.ref ub)] [(.int (p3.toInt8.toInt32)), (.int (p2.toInt8.toInt32)), (.int (p1.toInt8.toInt32)), (.int (1 : Int32)), (.ref b5)])) rfl (by rw [hml]; rfl) (argsL := [(.ref b5), (.int (1 : Int32)), (.int (p1.toInt8.toInt32)), (.int (p2.toInt8.toInt32)), (.int (p3.toInt8.toInt32))]) (rest := []) (lenOf pd_0_7 rfl) rfl (by show 2 * 0 + _ ≤ _; exact Nat.le_of_eq rfl) (hb hby at_204) (fun _ _ => ⟨rfl, rfl, (Nat.le_of_ble_eq_true rfl), (Nat.le_of_ble_eq_true rfl)⟩)
  dsimp only [Pt.U, Pt.locs, Pt.cells, Pt.slots] at X11 l11 y11 z11 st11 hQ11
  subst l11 y11 z11
  obtain ⟨rfl, N11q, hq11⟩ := hQ11
  have eq11 : T11.heap = T7.heap := hq11.trans eq10
  have N11 := Fr.app N10 N11q
  obtain ⟨_, _, ⟨T12, L12, k12, n12⟩, -, X12, ⟨Lc12, hQ12, l12, y12, z12⟩, st12⟩ := Jvm.LawKit.callS X11 hx (y := (⟨"com/example/coord2/coord2/KeyRangePrefixPinLaw", "same", "([BIBBB)Z"⟩ : MethodName)) hown (mvT hZ (hw _ (List.mem_of_getElem? (i := 48) rfl))) (mvT hZ (hw _ (List.mem_of_getElem? (i := 49) rfl))) (mvT hZ (hw _ (List.mem_of_getElem? (i := 50) rfl))) (mvT hZ (hw _ (List.mem_of_getElem? (i := 51) rfl))) (by decide) (backOf (W := 0) (rm9 l Z a0 hw [] ub ((0 : Int32) + (1 : Int32)) (((p1.toInt8.toInt32) + (1 : Int32)).toInt8.toInt32) (p2.toInt8.toInt32) (p3.toInt8.toInt32) B T11.heap n0 (by rw [eq11]; exact ZT) (by rw [eq11]; exact ArU) (by rw [SU]; decide) (Or.inl (by decide)) UK (Or.inl (by decide)) (Or.inl (by decide))) hZ (hw _ (List.mem_of_getElem? (i := 51) rfl)) (hw _ (List.mem_of_getElem? (i := 50) rfl)) (by decide) (by decide)) (g := (mkF m 222 #[.val (.int p1), .val (.int p2), .val (.int p3), .val (.int p4), .val (.int (1 : Int32)), .val (.int (p1.toInt8.toInt32)), .val (.int (p2.toInt8.toInt32)), .val (.int (p3.toInt8.toInt32)), .val (.ref b5), .val (.int (0 : Int32)), .val (.int (((p1.toInt8.toInt32) + (1 : Int32)).toInt8.toInt32)), .val (.int (p2.toInt8.toInt32)), .val (.int (p3.toInt8.toInt32)), .val (.ref r), .val (.ref b5), .val (.ref ub)] [(.int (p3.toInt8.toInt32)), (.int (p2.toInt8.toInt32)), (.int (((p1.toInt8.toInt32) + (1 : Int32)).toInt8.toInt32)), (.int ((0 : Int32) + (1 : Int32))), (.ref ub)])) rfl (by rw [hml]; rfl) (argsL := [(.ref ub), (.int ((0 : Int32) + (1 : Int32))), (.int (((p1.toInt8.toInt32) + (1 : Int32)).toInt8.toInt32)), (.int (p2.toInt8.toInt32)), (.int (p3.toInt8.toInt32))]) (rest := []) (lenOf pd_0_7 rfl) rfl (by show 2 * 0 + _ ≤ _; exact Nat.le_of_eq rfl) (hb hby at_222) (fun _ _ => ⟨rfl, rfl, (Nat.le_of_ble_eq_true rfl), (Nat.le_of_ble_eq_true rfl)⟩)
  dsimp only [Pt.U, Pt.locs, Pt.cells, Pt.slots] at X12 l12 y12 z12 st12 hQ12
  subst l12 y12 z12
  obtain ⟨rfl, N12q, hq12⟩ := hQ12
  have eq12 : T12.heap = T7.heap := hq12.trans eq11
  have N12 := Fr.app N11 N12q
  obtain ⟨fs, hr, hrun, hended, hW, hsame⟩ := X12.leave (v := some (.int (1 : Int32))) (fun h => by rw [Bd.returns] at h; cases h)
  refine ⟨_, _, pre0 _ ?_, hrun, hended, _, _, rfl, ?_, ⟨_, rfl⟩, hW, hsame.mono (by decide) (by decide)⟩
  · show Steps p.tables e below (s₁.setTop (mkF m 0 #[.val (.int p1), .val (.int p2), .val (.int p3), .val (.int p4), .unset, .unset, .unset, .unset, .unset, .unset, .unset, .unset, .unset, .unset, .unset, .unset] [])) _
    refine XS.iconst X0.here hx rfl (hb hby at_0) ?_
    show Steps p.tables e below (s₁.setTop (mkF m 1 #[.val (.int p1), .val (.int p2), .val (.int p3), .val (.int p4), .unset, .unset, .unset, .unset, .unset, .unset, .unset, .unset, .unset, .unset, .unset, .unset] [(.int (1 : Int32))])) _
    refine XS.iloadN X0.here hx rfl (hb hby at_1) rfl ?_
    show Steps p.tables e below (s₁.setTop (mkF m 2 #[.val (.int p1), .val (.int p2), .val (.int p3), .val (.int p4), .unset, .unset, .unset, .unset, .unset, .unset, .unset, .unset, .unset, .unset, .unset, .unset] [(.int p4), (.int (1 : Int32))])) _
    refine XS.iconst X0.here hx rfl (hb hby at_2) ?_
    show Steps p.tables e below (s₁.setTop (mkF m 3 #[.val (.int p1), .val (.int p2), .val (.int p3), .val (.int p4), .unset, .unset, .unset, .unset, .unset, .unset, .unset, .unset, .unset, .unset, .unset, .unset] [(.int (3 : Int32)), (.int p4), (.int (1 : Int32))])) _
    refine XS.iand X0.here hx rfl (hb hby at_3) rfl ?_
    show Steps p.tables e below (s₁.setTop (mkF m 4 #[.val (.int p1), .val (.int p2), .val (.int p3), .val (.int p4), .unset, .unset, .unset, .unset, .unset, .unset, .unset, .unset, .unset, .unset, .unset, .unset] [(.int (p4 &&& (3 : Int32))), (.int (1 : Int32))])) _
    refine XS.iconst X0.here hx rfl (hb hby at_4) ?_
    show Steps p.tables e below (s₁.setTop (mkF m 5 #[.val (.int p1), .val (.int p2), .val (.int p3), .val (.int p4), .unset, .unset, .unset, .unset, .unset, .unset, .unset, .unset, .unset, .unset, .unset, .unset] [(.int (3 : Int32)), (.int (p4 &&& (3 : Int32))), (.int (1 : Int32))])) _
    refine iremM X0 hx rfl (hb hby at_5) rfl (by decide) ?_
    show Steps p.tables e below (s₁.setTop (mkF m 6 #[.val (.int p1), .val (.int p2), .val (.int p3), .val (.int p4), .unset, .unset, .unset, .unset, .unset, .unset, .unset, .unset, .unset, .unset, .unset, .unset] [(.int ((p4 &&& (3 : Int32)) % (3 : Int32))), (.int (1 : Int32))])) _
    refine XS.iadd X0.here hx rfl (hb hby at_6) rfl ?_
    show Steps p.tables e below (s₁.setTop (mkF m 7 #[.val (.int p1), .val (.int p2), .val (.int p3), .val (.int p4), .unset, .unset, .unset, .unset, .unset, .unset, .unset, .unset, .unset, .unset, .unset, .unset] [(.int ((1 : Int32) + ((p4 &&& (3 : Int32)) % (3 : Int32))))])) _
    rw [hlen]
    refine XS.istore X0.here hx rfl (hb hby at_7) rfl (l' := #[.val (.int p1), .val (.int p2), .val (.int p3), .val (.int p4), .val (.int (1 : Int32)), .unset, .unset, .unset, .unset, .unset, .unset, .unset, .unset, .unset, .unset, .unset]) rfl ?_
    show Steps p.tables e below (s₁.setTop (mkF m 9 #[.val (.int p1), .val (.int p2), .val (.int p3), .val (.int p4), .val (.int (1 : Int32)), .unset, .unset, .unset, .unset, .unset, .unset, .unset, .unset, .unset, .unset, .unset] [])) _
    refine XS.iloadN X0.here hx rfl (hb hby at_9) rfl ?_
    show Steps p.tables e below (s₁.setTop (mkF m 10 #[.val (.int p1), .val (.int p2), .val (.int p3), .val (.int p4), .val (.int (1 : Int32)), .unset, .unset, .unset, .unset, .unset, .unset, .unset, .unset, .unset, .unset, .unset] [(.int p1)])) _
    refine XS.i2b X0.here hx rfl (hb hby at_10) rfl ?_
    show Steps p.tables e below (s₁.setTop (mkF m 11 #[.val (.int p1), .val (.int p2), .val (.int p3), .val (.int p4), .val (.int (1 : Int32)), .unset, .unset, .unset, .unset, .unset, .unset, .unset, .unset, .unset, .unset, .unset] [(.int (p1.toInt8.toInt32))])) _
    refine XS.istore X0.here hx rfl (hb hby at_11) rfl (l' := #[.val (.int p1), .val (.int p2), .val (.int p3), .val (.int p4), .val (.int (1 : Int32)), .val (.int (p1.toInt8.toInt32)), .unset, .unset, .unset, .unset, .unset, .unset, .unset, .unset, .unset, .unset]) rfl ?_
    show Steps p.tables e below (s₁.setTop (mkF m 13 #[.val (.int p1), .val (.int p2), .val (.int p3), .val (.int p4), .val (.int (1 : Int32)), .val (.int (p1.toInt8.toInt32)), .unset, .unset, .unset, .unset, .unset, .unset, .unset, .unset, .unset, .unset] [])) _
    refine XS.iloadN X0.here hx rfl (hb hby at_13) rfl ?_
    show Steps p.tables e below (s₁.setTop (mkF m 14 #[.val (.int p1), .val (.int p2), .val (.int p3), .val (.int p4), .val (.int (1 : Int32)), .val (.int (p1.toInt8.toInt32)), .unset, .unset, .unset, .unset, .unset, .unset, .unset, .unset, .unset, .unset] [(.int p2)])) _
    refine XS.i2b X0.here hx rfl (hb hby at_14) rfl ?_
    show Steps p.tables e below (s₁.setTop (mkF m 15 #[.val (.int p1), .val (.int p2), .val (.int p3), .val (.int p4), .val (.int (1 : Int32)), .val (.int (p1.toInt8.toInt32)), .unset, .unset, .unset, .unset, .unset, .unset, .unset, .unset, .unset, .unset] [(.int (p2.toInt8.toInt32))])) _
    refine XS.istore X0.here hx rfl (hb hby at_15) rfl (l' := #[.val (.int p1), .val (.int p2), .val (.int p3), .val (.int p4), .val (.int (1 : Int32)), .val (.int (p1.toInt8.toInt32)), .val (.int (p2.toInt8.toInt32)), .unset, .unset, .unset, .unset, .unset, .unset, .unset, .unset, .unset]) rfl ?_
    show Steps p.tables e below (s₁.setTop (mkF m 17 #[.val (.int p1), .val (.int p2), .val (.int p3), .val (.int p4), .val (.int (1 : Int32)), .val (.int (p1.toInt8.toInt32)), .val (.int (p2.toInt8.toInt32)), .unset, .unset, .unset, .unset, .unset, .unset, .unset, .unset, .unset] [])) _
    refine XS.iloadN X0.here hx rfl (hb hby at_17) rfl ?_
    show Steps p.tables e below (s₁.setTop (mkF m 18 #[.val (.int p1), .val (.int p2), .val (.int p3), .val (.int p4), .val (.int (1 : Int32)), .val (.int (p1.toInt8.toInt32)), .val (.int (p2.toInt8.toInt32)), .unset, .unset, .unset, .unset, .unset, .unset, .unset, .unset, .unset] [(.int p3)])) _
    refine XS.i2b X0.here hx rfl (hb hby at_18) rfl ?_
    show Steps p.tables e below (s₁.setTop (mkF m 19 #[.val (.int p1), .val (.int p2), .val (.int p3), .val (.int p4), .val (.int (1 : Int32)), .val (.int (p1.toInt8.toInt32)), .val (.int (p2.toInt8.toInt32)), .unset, .unset, .unset, .unset, .unset, .unset, .unset, .unset, .unset] [(.int (p3.toInt8.toInt32))])) _
    refine XS.istore X0.here hx rfl (hb hby at_19) rfl (l' := #[.val (.int p1), .val (.int p2), .val (.int p3), .val (.int p4), .val (.int (1 : Int32)), .val (.int (p1.toInt8.toInt32)), .val (.int (p2.toInt8.toInt32)), .val (.int (p3.toInt8.toInt32)), .unset, .unset, .unset, .unset, .unset, .unset, .unset, .unset]) rfl ?_
    show Steps p.tables e below (s₁.setTop (mkF m 21 #[.val (.int p1), .val (.int p2), .val (.int p3), .val (.int p4), .val (.int (1 : Int32)), .val (.int (p1.toInt8.toInt32)), .val (.int (p2.toInt8.toInt32)), .val (.int (p3.toInt8.toInt32)), .unset, .unset, .unset, .unset, .unset, .unset, .unset, .unset] [])) _
    refine XS.iload X0.here hx rfl (hb hby at_21) rfl ?_
    show Steps p.tables e below (s₁.setTop (mkF m 23 #[.val (.int p1), .val (.int p2), .val (.int p3), .val (.int p4), .val (.int (1 : Int32)), .val (.int (p1.toInt8.toInt32)), .val (.int (p2.toInt8.toInt32)), .val (.int (p3.toInt8.toInt32)), .unset, .unset, .unset, .unset, .unset, .unset, .unset, .unset] [(.int (1 : Int32))])) _
    refine st5 _ ?_
    show Steps p.tables e below (T5.setTop (mkF m 25 #[.val (.int p1), .val (.int p2), .val (.int p3), .val (.int p4), .val (.int (1 : Int32)), .val (.int (p1.toInt8.toInt32)), .val (.int (p2.toInt8.toInt32)), .val (.int (p3.toInt8.toInt32)), .unset, .unset, .unset, .unset, .unset, .unset, .unset, .unset] [(.ref b5)])) _
    refine XS.astore X5.here hx rfl (hb hby at_25) rfl rfl (l' := #[.val (.int p1), .val (.int p2), .val (.int p3), .val (.int p4), .val (.int (1 : Int32)), .val (.int (p1.toInt8.toInt32)), .val (.int (p2.toInt8.toInt32)), .val (.int (p3.toInt8.toInt32)), .val (.ref b5), .unset, .unset, .unset, .unset, .unset, .unset, .unset]) rfl ?_
    show Steps p.tables e below (T5.setTop (mkF m 27 #[.val (.int p1), .val (.int p2), .val (.int p3), .val (.int p4), .val (.int (1 : Int32)), .val (.int (p1.toInt8.toInt32)), .val (.int (p2.toInt8.toInt32)), .val (.int (p3.toInt8.toInt32)), .val (.ref b5), .unset, .unset, .unset, .unset, .unset, .unset, .unset] [])) _
    refine XS.aload X5.here hx rfl (hb hby at_27) rfl rfl ?_
    show Steps p.tables e below (T5.setTop (mkF m 29 #[.val (.int p1), .val (.int p2), .val (.int p3), .val (.int p4), .val (.int (1 : Int32)), .val (.int (p1.toInt8.toInt32)), .val (.int (p2.toInt8.toInt32)), .val (.int (p3.toInt8.toInt32)), .val (.ref b5), .unset, .unset, .unset, .unset, .unset, .unset, .unset] [(.ref b5)])) _
    refine XS.iconst X5.here hx rfl (hb hby at_29) ?_
    show Steps p.tables e below (T5.setTop (mkF m 30 #[.val (.int p1), .val (.int p2), .val (.int p3), .val (.int p4), .val (.int (1 : Int32)), .val (.int (p1.toInt8.toInt32)), .val (.int (p2.toInt8.toInt32)), .val (.int (p3.toInt8.toInt32)), .val (.ref b5), .unset, .unset, .unset, .unset, .unset, .unset, .unset] [(.int (0 : Int32)), (.ref b5)])) _
    refine XS.iload X5.here hx rfl (hb hby at_30) rfl ?_
    show Steps p.tables e below (T5.setTop (mkF m 32 #[.val (.int p1), .val (.int p2), .val (.int p3), .val (.int p4), .val (.int (1 : Int32)), .val (.int (p1.toInt8.toInt32)), .val (.int (p2.toInt8.toInt32)), .val (.int (p3.toInt8.toInt32)), .val (.ref b5), .unset, .unset, .unset, .unset, .unset, .unset, .unset] [(.int (p1.toInt8.toInt32)), (.int (0 : Int32)), (.ref b5)])) _
    refine st6 _ ?_
    show Steps p.tables e below (T6.setTop (mkF m 33 #[.val (.int p1), .val (.int p2), .val (.int p3), .val (.int p4), .val (.int (1 : Int32)), .val (.int (p1.toInt8.toInt32)), .val (.int (p2.toInt8.toInt32)), .val (.int (p3.toInt8.toInt32)), .val (.ref b5), .unset, .unset, .unset, .unset, .unset, .unset, .unset] [])) _
    refine XS.iload X6.here hx rfl (hb hby at_33) rfl ?_
    show Steps p.tables e below (T6.setTop (mkF m 35 #[.val (.int p1), .val (.int p2), .val (.int p3), .val (.int p4), .val (.int (1 : Int32)), .val (.int (p1.toInt8.toInt32)), .val (.int (p2.toInt8.toInt32)), .val (.int (p3.toInt8.toInt32)), .val (.ref b5), .unset, .unset, .unset, .unset, .unset, .unset, .unset] [(.int (1 : Int32))])) _
    refine XS.iconst X6.here hx rfl (hb hby at_35) ?_
    show Steps p.tables e below (T6.setTop (mkF m 36 #[.val (.int p1), .val (.int p2), .val (.int p3), .val (.int p4), .val (.int (1 : Int32)), .val (.int (p1.toInt8.toInt32)), .val (.int (p2.toInt8.toInt32)), .val (.int (p3.toInt8.toInt32)), .val (.ref b5), .unset, .unset, .unset, .unset, .unset, .unset, .unset] [(.int (1 : Int32)), (.int (1 : Int32))])) _
    refine XS.icmpYes X6.here hx rfl (pc0 := 36) (pc' := 45) rfl (hb hby at_36) rfl (flt (by decide)).2.2.2 (by decide) (by decide) ?_
    show Steps p.tables e below (T6.setTop (mkF m 45 #[.val (.int p1), .val (.int p2), .val (.int p3), .val (.int p4), .val (.int (1 : Int32)), .val (.int (p1.toInt8.toInt32)), .val (.int (p2.toInt8.toInt32)), .val (.int (p3.toInt8.toInt32)), .val (.ref b5), .unset, .unset, .unset, .unset, .unset, .unset, .unset] [])) _
    refine XS.iload X6.here hx rfl (hb hby at_45) rfl ?_
    show Steps p.tables e below (T6.setTop (mkF m 47 #[.val (.int p1), .val (.int p2), .val (.int p3), .val (.int p4), .val (.int (1 : Int32)), .val (.int (p1.toInt8.toInt32)), .val (.int (p2.toInt8.toInt32)), .val (.int (p3.toInt8.toInt32)), .val (.ref b5), .unset, .unset, .unset, .unset, .unset, .unset, .unset] [(.int (1 : Int32))])) _
    refine XS.iconst X6.here hx rfl (hb hby at_47) ?_
    show Steps p.tables e below (T6.setTop (mkF m 48 #[.val (.int p1), .val (.int p2), .val (.int p3), .val (.int p4), .val (.int (1 : Int32)), .val (.int (p1.toInt8.toInt32)), .val (.int (p2.toInt8.toInt32)), .val (.int (p3.toInt8.toInt32)), .val (.ref b5), .unset, .unset, .unset, .unset, .unset, .unset, .unset] [(.int (2 : Int32)), (.int (1 : Int32))])) _
    refine XS.icmpYes X6.here hx rfl (pc0 := 48) (pc' := 57) rfl (hb hby at_48) rfl (flt (by decide)).2.2.2 (by decide) (by decide) ?_
    show Steps p.tables e below (T6.setTop (mkF m 57 #[.val (.int p1), .val (.int p2), .val (.int p3), .val (.int p4), .val (.int (1 : Int32)), .val (.int (p1.toInt8.toInt32)), .val (.int (p2.toInt8.toInt32)), .val (.int (p3.toInt8.toInt32)), .val (.ref b5), .unset, .unset, .unset, .unset, .unset, .unset, .unset] [])) _
    refine XS.iload X6.here hx rfl (hb hby at_57) rfl ?_
    show Steps p.tables e below (T6.setTop (mkF m 59 #[.val (.int p1), .val (.int p2), .val (.int p3), .val (.int p4), .val (.int (1 : Int32)), .val (.int (p1.toInt8.toInt32)), .val (.int (p2.toInt8.toInt32)), .val (.int (p3.toInt8.toInt32)), .val (.ref b5), .unset, .unset, .unset, .unset, .unset, .unset, .unset] [(.int (1 : Int32))])) _
    refine XS.iconst X6.here hx rfl (hb hby at_59) ?_
    show Steps p.tables e below (T6.setTop (mkF m 60 #[.val (.int p1), .val (.int p2), .val (.int p3), .val (.int p4), .val (.int (1 : Int32)), .val (.int (p1.toInt8.toInt32)), .val (.int (p2.toInt8.toInt32)), .val (.int (p3.toInt8.toInt32)), .val (.ref b5), .unset, .unset, .unset, .unset, .unset, .unset, .unset] [(.int (3 : Int32)), (.int (1 : Int32))])) _
    refine XS.icmpYes X6.here hx rfl (pc0 := 60) (pc' := 75) rfl (hb hby at_60) rfl (feq (by decide)).2 (by decide) (by decide) ?_
    show Steps p.tables e below (T6.setTop (mkF m 75 #[.val (.int p1), .val (.int p2), .val (.int p3), .val (.int p4), .val (.int (1 : Int32)), .val (.int (p1.toInt8.toInt32)), .val (.int (p2.toInt8.toInt32)), .val (.int (p3.toInt8.toInt32)), .val (.ref b5), .unset, .unset, .unset, .unset, .unset, .unset, .unset] [])) _
    refine XS.iload X6.here hx rfl (hb hby at_75) rfl ?_
    show Steps p.tables e below (T6.setTop (mkF m 77 #[.val (.int p1), .val (.int p2), .val (.int p3), .val (.int p4), .val (.int (1 : Int32)), .val (.int (p1.toInt8.toInt32)), .val (.int (p2.toInt8.toInt32)), .val (.int (p3.toInt8.toInt32)), .val (.ref b5), .unset, .unset, .unset, .unset, .unset, .unset, .unset] [(.int (1 : Int32))])) _
    refine XS.iconst X6.here hx rfl (hb hby at_77) ?_
    show Steps p.tables e below (T6.setTop (mkF m 78 #[.val (.int p1), .val (.int p2), .val (.int p3), .val (.int p4), .val (.int (1 : Int32)), .val (.int (p1.toInt8.toInt32)), .val (.int (p2.toInt8.toInt32)), .val (.int (p3.toInt8.toInt32)), .val (.ref b5), .unset, .unset, .unset, .unset, .unset, .unset, .unset] [(.int (2 : Int32)), (.int (1 : Int32))])) _
    refine XS.icmpYes X6.here hx rfl (pc0 := 78) (pc' := 93) rfl (hb hby at_78) rfl (tlt (by decide)).1 (by decide) (by decide) ?_
    show Steps p.tables e below (T6.setTop (mkF m 93 #[.val (.int p1), .val (.int p2), .val (.int p3), .val (.int p4), .val (.int (1 : Int32)), .val (.int (p1.toInt8.toInt32)), .val (.int (p2.toInt8.toInt32)), .val (.int (p3.toInt8.toInt32)), .val (.ref b5), .unset, .unset, .unset, .unset, .unset, .unset, .unset] [])) _
    refine XS.iload X6.here hx rfl (hb hby at_93) rfl ?_
    show Steps p.tables e below (T6.setTop (mkF m 95 #[.val (.int p1), .val (.int p2), .val (.int p3), .val (.int p4), .val (.int (1 : Int32)), .val (.int (p1.toInt8.toInt32)), .val (.int (p2.toInt8.toInt32)), .val (.int (p3.toInt8.toInt32)), .val (.ref b5), .unset, .unset, .unset, .unset, .unset, .unset, .unset] [(.int (p1.toInt8.toInt32))])) _
    refine XS.iconst X6.here hx rfl (hb hby at_95) ?_
    show Steps p.tables e below (T6.setTop (mkF m 96 #[.val (.int p1), .val (.int p2), .val (.int p3), .val (.int p4), .val (.int (1 : Int32)), .val (.int (p1.toInt8.toInt32)), .val (.int (p2.toInt8.toInt32)), .val (.int (p3.toInt8.toInt32)), .val (.ref b5), .unset, .unset, .unset, .unset, .unset, .unset, .unset] [(.int (-1 : Int32)), (.int (p1.toInt8.toInt32))])) _
    refine XS.icmpNo X6.here hx rfl (hb hby at_96) rfl (feq nk0).1 ?_
    show Steps p.tables e below (T6.setTop (mkF m 99 #[.val (.int p1), .val (.int p2), .val (.int p3), .val (.int p4), .val (.int (1 : Int32)), .val (.int (p1.toInt8.toInt32)), .val (.int (p2.toInt8.toInt32)), .val (.int (p3.toInt8.toInt32)), .val (.ref b5), .unset, .unset, .unset, .unset, .unset, .unset, .unset] [])) _
    refine XS.iconst X6.here hx rfl (hb hby at_99) ?_
    show Steps p.tables e below (T6.setTop (mkF m 100 #[.val (.int p1), .val (.int p2), .val (.int p3), .val (.int p4), .val (.int (1 : Int32)), .val (.int (p1.toInt8.toInt32)), .val (.int (p2.toInt8.toInt32)), .val (.int (p3.toInt8.toInt32)), .val (.ref b5), .unset, .unset, .unset, .unset, .unset, .unset, .unset] [(.int (0 : Int32))])) _
    refine XS.istore X6.here hx rfl (hb hby at_100) rfl (l' := #[.val (.int p1), .val (.int p2), .val (.int p3), .val (.int p4), .val (.int (1 : Int32)), .val (.int (p1.toInt8.toInt32)), .val (.int (p2.toInt8.toInt32)), .val (.int (p3.toInt8.toInt32)), .val (.ref b5), .val (.int (0 : Int32)), .unset, .unset, .unset, .unset, .unset, .unset]) rfl ?_
    show Steps p.tables e below (T6.setTop (mkF m 102 #[.val (.int p1), .val (.int p2), .val (.int p3), .val (.int p4), .val (.int (1 : Int32)), .val (.int (p1.toInt8.toInt32)), .val (.int (p2.toInt8.toInt32)), .val (.int (p3.toInt8.toInt32)), .val (.ref b5), .val (.int (0 : Int32)), .unset, .unset, .unset, .unset, .unset, .unset] [])) _
    refine XS.goto X6.here hx rfl (pc0 := 102) (pc' := 107) rfl (hb hby at_102) (by decide) (by decide) ?_
    show Steps p.tables e below (T6.setTop (mkF m 107 #[.val (.int p1), .val (.int p2), .val (.int p3), .val (.int p4), .val (.int (1 : Int32)), .val (.int (p1.toInt8.toInt32)), .val (.int (p2.toInt8.toInt32)), .val (.int (p3.toInt8.toInt32)), .val (.ref b5), .val (.int (0 : Int32)), .unset, .unset, .unset, .unset, .unset, .unset] [])) _
    refine XS.iload X6.here hx rfl (hb hby at_107) rfl ?_
    show Steps p.tables e below (T6.setTop (mkF m 109 #[.val (.int p1), .val (.int p2), .val (.int p3), .val (.int p4), .val (.int (1 : Int32)), .val (.int (p1.toInt8.toInt32)), .val (.int (p2.toInt8.toInt32)), .val (.int (p3.toInt8.toInt32)), .val (.ref b5), .val (.int (0 : Int32)), .unset, .unset, .unset, .unset, .unset, .unset] [(.int (p1.toInt8.toInt32))])) _
    refine XS.istore X6.here hx rfl (hb hby at_109) rfl (l' := #[.val (.int p1), .val (.int p2), .val (.int p3), .val (.int p4), .val (.int (1 : Int32)), .val (.int (p1.toInt8.toInt32)), .val (.int (p2.toInt8.toInt32)), .val (.int (p3.toInt8.toInt32)), .val (.ref b5), .val (.int (0 : Int32)), .val (.int (p1.toInt8.toInt32)), .unset, .unset, .unset, .unset, .unset]) rfl ?_
    show Steps p.tables e below (T6.setTop (mkF m 111 #[.val (.int p1), .val (.int p2), .val (.int p3), .val (.int p4), .val (.int (1 : Int32)), .val (.int (p1.toInt8.toInt32)), .val (.int (p2.toInt8.toInt32)), .val (.int (p3.toInt8.toInt32)), .val (.ref b5), .val (.int (0 : Int32)), .val (.int (p1.toInt8.toInt32)), .unset, .unset, .unset, .unset, .unset] [])) _
    refine XS.iload X6.here hx rfl (hb hby at_111) rfl ?_
    show Steps p.tables e below (T6.setTop (mkF m 113 #[.val (.int p1), .val (.int p2), .val (.int p3), .val (.int p4), .val (.int (1 : Int32)), .val (.int (p1.toInt8.toInt32)), .val (.int (p2.toInt8.toInt32)), .val (.int (p3.toInt8.toInt32)), .val (.ref b5), .val (.int (0 : Int32)), .val (.int (p1.toInt8.toInt32)), .unset, .unset, .unset, .unset, .unset] [(.int (p2.toInt8.toInt32))])) _
    refine XS.istore X6.here hx rfl (hb hby at_113) rfl (l' := #[.val (.int p1), .val (.int p2), .val (.int p3), .val (.int p4), .val (.int (1 : Int32)), .val (.int (p1.toInt8.toInt32)), .val (.int (p2.toInt8.toInt32)), .val (.int (p3.toInt8.toInt32)), .val (.ref b5), .val (.int (0 : Int32)), .val (.int (p1.toInt8.toInt32)), .val (.int (p2.toInt8.toInt32)), .unset, .unset, .unset, .unset]) rfl ?_
    show Steps p.tables e below (T6.setTop (mkF m 115 #[.val (.int p1), .val (.int p2), .val (.int p3), .val (.int p4), .val (.int (1 : Int32)), .val (.int (p1.toInt8.toInt32)), .val (.int (p2.toInt8.toInt32)), .val (.int (p3.toInt8.toInt32)), .val (.ref b5), .val (.int (0 : Int32)), .val (.int (p1.toInt8.toInt32)), .val (.int (p2.toInt8.toInt32)), .unset, .unset, .unset, .unset] [])) _
    refine XS.iload X6.here hx rfl (hb hby at_115) rfl ?_
    show Steps p.tables e below (T6.setTop (mkF m 117 #[.val (.int p1), .val (.int p2), .val (.int p3), .val (.int p4), .val (.int (1 : Int32)), .val (.int (p1.toInt8.toInt32)), .val (.int (p2.toInt8.toInt32)), .val (.int (p3.toInt8.toInt32)), .val (.ref b5), .val (.int (0 : Int32)), .val (.int (p1.toInt8.toInt32)), .val (.int (p2.toInt8.toInt32)), .unset, .unset, .unset, .unset] [(.int (p3.toInt8.toInt32))])) _
    refine XS.istore X6.here hx rfl (hb hby at_117) rfl (l' := #[.val (.int p1), .val (.int p2), .val (.int p3), .val (.int p4), .val (.int (1 : Int32)), .val (.int (p1.toInt8.toInt32)), .val (.int (p2.toInt8.toInt32)), .val (.int (p3.toInt8.toInt32)), .val (.ref b5), .val (.int (0 : Int32)), .val (.int (p1.toInt8.toInt32)), .val (.int (p2.toInt8.toInt32)), .val (.int (p3.toInt8.toInt32)), .unset, .unset, .unset]) rfl ?_
    show Steps p.tables e below (T6.setTop (mkF m 119 #[.val (.int p1), .val (.int p2), .val (.int p3), .val (.int p4), .val (.int (1 : Int32)), .val (.int (p1.toInt8.toInt32)), .val (.int (p2.toInt8.toInt32)), .val (.int (p3.toInt8.toInt32)), .val (.ref b5), .val (.int (0 : Int32)), .val (.int (p1.toInt8.toInt32)), .val (.int (p2.toInt8.toInt32)), .val (.int (p3.toInt8.toInt32)), .unset, .unset, .unset] [])) _
    refine XS.iload X6.here hx rfl (hb hby at_119) rfl ?_
    show Steps p.tables e below (T6.setTop (mkF m 121 #[.val (.int p1), .val (.int p2), .val (.int p3), .val (.int p4), .val (.int (1 : Int32)), .val (.int (p1.toInt8.toInt32)), .val (.int (p2.toInt8.toInt32)), .val (.int (p3.toInt8.toInt32)), .val (.ref b5), .val (.int (0 : Int32)), .val (.int (p1.toInt8.toInt32)), .val (.int (p2.toInt8.toInt32)), .val (.int (p3.toInt8.toInt32)), .unset, .unset, .unset] [(.int (0 : Int32))])) _
    refine XS.ifNo X6.here hx rfl (hb hby at_121) rfl ((if0 _ _).trans (teq (rfl : (0 : Int32) = (0 : Int32))).2) ?_
    show Steps p.tables e below (T6.setTop (mkF m 124 #[.val (.int p1), .val (.int p2), .val (.int p3), .val (.int p4), .val (.int (1 : Int32)), .val (.int (p1.toInt8.toInt32)), .val (.int (p2.toInt8.toInt32)), .val (.int (p3.toInt8.toInt32)), .val (.ref b5), .val (.int (0 : Int32)), .val (.int (p1.toInt8.toInt32)), .val (.int (p2.toInt8.toInt32)), .val (.int (p3.toInt8.toInt32)), .unset, .unset, .unset] [])) _
    refine XS.iload X6.here hx rfl (hb hby at_124) rfl ?_
    show Steps p.tables e below (T6.setTop (mkF m 126 #[.val (.int p1), .val (.int p2), .val (.int p3), .val (.int p4), .val (.int (1 : Int32)), .val (.int (p1.toInt8.toInt32)), .val (.int (p2.toInt8.toInt32)), .val (.int (p3.toInt8.toInt32)), .val (.ref b5), .val (.int (0 : Int32)), .val (.int (p1.toInt8.toInt32)), .val (.int (p2.toInt8.toInt32)), .val (.int (p3.toInt8.toInt32)), .unset, .unset, .unset] [(.int (p1.toInt8.toInt32))])) _
    refine XS.iconst X6.here hx rfl (hb hby at_126) ?_
    show Steps p.tables e below (T6.setTop (mkF m 127 #[.val (.int p1), .val (.int p2), .val (.int p3), .val (.int p4), .val (.int (1 : Int32)), .val (.int (p1.toInt8.toInt32)), .val (.int (p2.toInt8.toInt32)), .val (.int (p3.toInt8.toInt32)), .val (.ref b5), .val (.int (0 : Int32)), .val (.int (p1.toInt8.toInt32)), .val (.int (p2.toInt8.toInt32)), .val (.int (p3.toInt8.toInt32)), .unset, .unset, .unset] [(.int (1 : Int32)), (.int (p1.toInt8.toInt32))])) _
    refine XS.iadd X6.here hx rfl (hb hby at_127) rfl ?_
    show Steps p.tables e below (T6.setTop (mkF m 128 #[.val (.int p1), .val (.int p2), .val (.int p3), .val (.int p4), .val (.int (1 : Int32)), .val (.int (p1.toInt8.toInt32)), .val (.int (p2.toInt8.toInt32)), .val (.int (p3.toInt8.toInt32)), .val (.ref b5), .val (.int (0 : Int32)), .val (.int (p1.toInt8.toInt32)), .val (.int (p2.toInt8.toInt32)), .val (.int (p3.toInt8.toInt32)), .unset, .unset, .unset] [(.int ((p1.toInt8.toInt32) + (1 : Int32)))])) _
    refine XS.i2b X6.here hx rfl (hb hby at_128) rfl ?_
    show Steps p.tables e below (T6.setTop (mkF m 129 #[.val (.int p1), .val (.int p2), .val (.int p3), .val (.int p4), .val (.int (1 : Int32)), .val (.int (p1.toInt8.toInt32)), .val (.int (p2.toInt8.toInt32)), .val (.int (p3.toInt8.toInt32)), .val (.ref b5), .val (.int (0 : Int32)), .val (.int (p1.toInt8.toInt32)), .val (.int (p2.toInt8.toInt32)), .val (.int (p3.toInt8.toInt32)), .unset, .unset, .unset] [(.int (((p1.toInt8.toInt32) + (1 : Int32)).toInt8.toInt32))])) _
    refine XS.istore X6.here hx rfl (hb hby at_129) rfl (l' := #[.val (.int p1), .val (.int p2), .val (.int p3), .val (.int p4), .val (.int (1 : Int32)), .val (.int (p1.toInt8.toInt32)), .val (.int (p2.toInt8.toInt32)), .val (.int (p3.toInt8.toInt32)), .val (.ref b5), .val (.int (0 : Int32)), .val (.int (((p1.toInt8.toInt32) + (1 : Int32)).toInt8.toInt32)), .val (.int (p2.toInt8.toInt32)), .val (.int (p3.toInt8.toInt32)), .unset, .unset, .unset]) rfl ?_
    show Steps p.tables e below (T6.setTop (mkF m 131 #[.val (.int p1), .val (.int p2), .val (.int p3), .val (.int p4), .val (.int (1 : Int32)), .val (.int (p1.toInt8.toInt32)), .val (.int (p2.toInt8.toInt32)), .val (.int (p3.toInt8.toInt32)), .val (.ref b5), .val (.int (0 : Int32)), .val (.int (((p1.toInt8.toInt32) + (1 : Int32)).toInt8.toInt32)), .val (.int (p2.toInt8.toInt32)), .val (.int (p3.toInt8.toInt32)), .unset, .unset, .unset] [])) _
    refine XS.goto X6.here hx rfl (pc0 := 131) (pc' := 157) rfl (hb hby at_131) (by decide) (by decide) ?_
    show Steps p.tables e below (T6.setTop (mkF m 157 #[.val (.int p1), .val (.int p2), .val (.int p3), .val (.int p4), .val (.int (1 : Int32)), .val (.int (p1.toInt8.toInt32)), .val (.int (p2.toInt8.toInt32)), .val (.int (p3.toInt8.toInt32)), .val (.ref b5), .val (.int (0 : Int32)), .val (.int (((p1.toInt8.toInt32) + (1 : Int32)).toInt8.toInt32)), .val (.int (p2.toInt8.toInt32)), .val (.int (p3.toInt8.toInt32)), .unset, .unset, .unset] [])) _
    refine XS.aload X6.here hx rfl (hb hby at_157) rfl rfl ?_
    show Steps p.tables e below (T6.setTop (mkF m 159 #[.val (.int p1), .val (.int p2), .val (.int p3), .val (.int p4), .val (.int (1 : Int32)), .val (.int (p1.toInt8.toInt32)), .val (.int (p2.toInt8.toInt32)), .val (.int (p3.toInt8.toInt32)), .val (.ref b5), .val (.int (0 : Int32)), .val (.int (((p1.toInt8.toInt32) + (1 : Int32)).toInt8.toInt32)), .val (.int (p2.toInt8.toInt32)), .val (.int (p3.toInt8.toInt32)), .unset, .unset, .unset] [(.ref b5)])) _
    refine st7 _ ?_
    show Steps p.tables e below (T7.setTop (mkF m 162 #[.val (.int p1), .val (.int p2), .val (.int p3), .val (.int p4), .val (.int (1 : Int32)), .val (.int (p1.toInt8.toInt32)), .val (.int (p2.toInt8.toInt32)), .val (.int (p3.toInt8.toInt32)), .val (.ref b5), .val (.int (0 : Int32)), .val (.int (((p1.toInt8.toInt32) + (1 : Int32)).toInt8.toInt32)), .val (.int (p2.toInt8.toInt32)), .val (.int (p3.toInt8.toInt32)), .unset, .unset, .unset] [(.ref r)])) _
    refine XS.astore X7.here hx rfl (hb hby at_162) rfl rfl (l' := #[.val (.int p1), .val (.int p2), .val (.int p3), .val (.int p4), .val (.int (1 : Int32)), .val (.int (p1.toInt8.toInt32)), .val (.int (p2.toInt8.toInt32)), .val (.int (p3.toInt8.toInt32)), .val (.ref b5), .val (.int (0 : Int32)), .val (.int (((p1.toInt8.toInt32) + (1 : Int32)).toInt8.toInt32)), .val (.int (p2.toInt8.toInt32)), .val (.int (p3.toInt8.toInt32)), .val (.ref r), .unset, .unset]) rfl ?_
    show Steps p.tables e below (T7.setTop (mkF m 164 #[.val (.int p1), .val (.int p2), .val (.int p3), .val (.int p4), .val (.int (1 : Int32)), .val (.int (p1.toInt8.toInt32)), .val (.int (p2.toInt8.toInt32)), .val (.int (p3.toInt8.toInt32)), .val (.ref b5), .val (.int (0 : Int32)), .val (.int (((p1.toInt8.toInt32) + (1 : Int32)).toInt8.toInt32)), .val (.int (p2.toInt8.toInt32)), .val (.int (p3.toInt8.toInt32)), .val (.ref r), .unset, .unset] [])) _
    refine XS.aload X7.here hx rfl (hb hby at_164) rfl rfl ?_
    show Steps p.tables e below (T7.setTop (mkF m 166 #[.val (.int p1), .val (.int p2), .val (.int p3), .val (.int p4), .val (.int (1 : Int32)), .val (.int (p1.toInt8.toInt32)), .val (.int (p2.toInt8.toInt32)), .val (.int (p3.toInt8.toInt32)), .val (.ref b5), .val (.int (0 : Int32)), .val (.int (((p1.toInt8.toInt32) + (1 : Int32)).toInt8.toInt32)), .val (.int (p2.toInt8.toInt32)), .val (.int (p3.toInt8.toInt32)), .val (.ref r), .unset, .unset] [(.ref r)])) _
    refine st8.trans ?_
    show Steps p.tables e below (T8.setTop (mkF m 169 #[.val (.int p1), .val (.int p2), .val (.int p3), .val (.int p4), .val (.int (1 : Int32)), .val (.int (p1.toInt8.toInt32)), .val (.int (p2.toInt8.toInt32)), .val (.int (p3.toInt8.toInt32)), .val (.ref b5), .val (.int (0 : Int32)), .val (.int (((p1.toInt8.toInt32) + (1 : Int32)).toInt8.toInt32)), .val (.int (p2.toInt8.toInt32)), .val (.int (p3.toInt8.toInt32)), .val (.ref r), .unset, .unset] [(.ref b5)])) _
    refine XS.astore X8.here hx rfl (hb hby at_169) rfl rfl (l' := #[.val (.int p1), .val (.int p2), .val (.int p3), .val (.int p4), .val (.int (1 : Int32)), .val (.int (p1.toInt8.toInt32)), .val (.int (p2.toInt8.toInt32)), .val (.int (p3.toInt8.toInt32)), .val (.ref b5), .val (.int (0 : Int32)), .val (.int (((p1.toInt8.toInt32) + (1 : Int32)).toInt8.toInt32)), .val (.int (p2.toInt8.toInt32)), .val (.int (p3.toInt8.toInt32)), .val (.ref r), .val (.ref b5), .unset]) rfl ?_
    show Steps p.tables e below (T8.setTop (mkF m 171 #[.val (.int p1), .val (.int p2), .val (.int p3), .val (.int p4), .val (.int (1 : Int32)), .val (.int (p1.toInt8.toInt32)), .val (.int (p2.toInt8.toInt32)), .val (.int (p3.toInt8.toInt32)), .val (.ref b5), .val (.int (0 : Int32)), .val (.int (((p1.toInt8.toInt32) + (1 : Int32)).toInt8.toInt32)), .val (.int (p2.toInt8.toInt32)), .val (.int (p3.toInt8.toInt32)), .val (.ref r), .val (.ref b5), .unset] [])) _
    refine XS.aload X8.here hx rfl (hb hby at_171) rfl rfl ?_
    show Steps p.tables e below (T8.setTop (mkF m 173 #[.val (.int p1), .val (.int p2), .val (.int p3), .val (.int p4), .val (.int (1 : Int32)), .val (.int (p1.toInt8.toInt32)), .val (.int (p2.toInt8.toInt32)), .val (.int (p3.toInt8.toInt32)), .val (.ref b5), .val (.int (0 : Int32)), .val (.int (((p1.toInt8.toInt32) + (1 : Int32)).toInt8.toInt32)), .val (.int (p2.toInt8.toInt32)), .val (.int (p3.toInt8.toInt32)), .val (.ref r), .val (.ref b5), .unset] [(.ref r)])) _
    refine st9.trans ?_
    show Steps p.tables e below (T9.setTop (mkF m 176 #[.val (.int p1), .val (.int p2), .val (.int p3), .val (.int p4), .val (.int (1 : Int32)), .val (.int (p1.toInt8.toInt32)), .val (.int (p2.toInt8.toInt32)), .val (.int (p3.toInt8.toInt32)), .val (.ref b5), .val (.int (0 : Int32)), .val (.int (((p1.toInt8.toInt32) + (1 : Int32)).toInt8.toInt32)), .val (.int (p2.toInt8.toInt32)), .val (.int (p3.toInt8.toInt32)), .val (.ref r), .val (.ref b5), .unset] [(.ref ub)])) _
    refine XS.astore X9.here hx rfl (hb hby at_176) rfl rfl (l' := #[.val (.int p1), .val (.int p2), .val (.int p3), .val (.int p4), .val (.int (1 : Int32)), .val (.int (p1.toInt8.toInt32)), .val (.int (p2.toInt8.toInt32)), .val (.int (p3.toInt8.toInt32)), .val (.ref b5), .val (.int (0 : Int32)), .val (.int (((p1.toInt8.toInt32) + (1 : Int32)).toInt8.toInt32)), .val (.int (p2.toInt8.toInt32)), .val (.int (p3.toInt8.toInt32)), .val (.ref r), .val (.ref b5), .val (.ref ub)]) rfl ?_
    show Steps p.tables e below (T9.setTop (mkF m 178 #[.val (.int p1), .val (.int p2), .val (.int p3), .val (.int p4), .val (.int (1 : Int32)), .val (.int (p1.toInt8.toInt32)), .val (.int (p2.toInt8.toInt32)), .val (.int (p3.toInt8.toInt32)), .val (.ref b5), .val (.int (0 : Int32)), .val (.int (((p1.toInt8.toInt32) + (1 : Int32)).toInt8.toInt32)), .val (.int (p2.toInt8.toInt32)), .val (.int (p3.toInt8.toInt32)), .val (.ref r), .val (.ref b5), .val (.ref ub)] [])) _
    refine XS.aload X9.here hx rfl (hb hby at_178) rfl rfl ?_
    show Steps p.tables e below (T9.setTop (mkF m 180 #[.val (.int p1), .val (.int p2), .val (.int p3), .val (.int p4), .val (.int (1 : Int32)), .val (.int (p1.toInt8.toInt32)), .val (.int (p2.toInt8.toInt32)), .val (.int (p3.toInt8.toInt32)), .val (.ref b5), .val (.int (0 : Int32)), .val (.int (((p1.toInt8.toInt32) + (1 : Int32)).toInt8.toInt32)), .val (.int (p2.toInt8.toInt32)), .val (.int (p3.toInt8.toInt32)), .val (.ref r), .val (.ref b5), .val (.ref ub)] [(.ref b5)])) _
    refine XS.iload X9.here hx rfl (hb hby at_180) rfl ?_
    show Steps p.tables e below (T9.setTop (mkF m 182 #[.val (.int p1), .val (.int p2), .val (.int p3), .val (.int p4), .val (.int (1 : Int32)), .val (.int (p1.toInt8.toInt32)), .val (.int (p2.toInt8.toInt32)), .val (.int (p3.toInt8.toInt32)), .val (.ref b5), .val (.int (0 : Int32)), .val (.int (((p1.toInt8.toInt32) + (1 : Int32)).toInt8.toInt32)), .val (.int (p2.toInt8.toInt32)), .val (.int (p3.toInt8.toInt32)), .val (.ref r), .val (.ref b5), .val (.ref ub)] [(.int (1 : Int32)), (.ref b5)])) _
    refine XS.iload X9.here hx rfl (hb hby at_182) rfl ?_
    show Steps p.tables e below (T9.setTop (mkF m 184 #[.val (.int p1), .val (.int p2), .val (.int p3), .val (.int p4), .val (.int (1 : Int32)), .val (.int (p1.toInt8.toInt32)), .val (.int (p2.toInt8.toInt32)), .val (.int (p3.toInt8.toInt32)), .val (.ref b5), .val (.int (0 : Int32)), .val (.int (((p1.toInt8.toInt32) + (1 : Int32)).toInt8.toInt32)), .val (.int (p2.toInt8.toInt32)), .val (.int (p3.toInt8.toInt32)), .val (.ref r), .val (.ref b5), .val (.ref ub)] [(.int (p1.toInt8.toInt32)), (.int (1 : Int32)), (.ref b5)])) _
    refine XS.iload X9.here hx rfl (hb hby at_184) rfl ?_
    show Steps p.tables e below (T9.setTop (mkF m 186 #[.val (.int p1), .val (.int p2), .val (.int p3), .val (.int p4), .val (.int (1 : Int32)), .val (.int (p1.toInt8.toInt32)), .val (.int (p2.toInt8.toInt32)), .val (.int (p3.toInt8.toInt32)), .val (.ref b5), .val (.int (0 : Int32)), .val (.int (((p1.toInt8.toInt32) + (1 : Int32)).toInt8.toInt32)), .val (.int (p2.toInt8.toInt32)), .val (.int (p3.toInt8.toInt32)), .val (.ref r), .val (.ref b5), .val (.ref ub)] [(.int (p2.toInt8.toInt32)), (.int (p1.toInt8.toInt32)), (.int (1 : Int32)), (.ref b5)])) _
    refine XS.iload X9.here hx rfl (hb hby at_186) rfl ?_
    show Steps p.tables e below (T9.setTop (mkF m 188 #[.val (.int p1), .val (.int p2), .val (.int p3), .val (.int p4), .val (.int (1 : Int32)), .val (.int (p1.toInt8.toInt32)), .val (.int (p2.toInt8.toInt32)), .val (.int (p3.toInt8.toInt32)), .val (.ref b5), .val (.int (0 : Int32)), .val (.int (((p1.toInt8.toInt32) + (1 : Int32)).toInt8.toInt32)), .val (.int (p2.toInt8.toInt32)), .val (.int (p3.toInt8.toInt32)), .val (.ref r), .val (.ref b5), .val (.ref ub)] [(.int (p3.toInt8.toInt32)), (.int (p2.toInt8.toInt32)), (.int (p1.toInt8.toInt32)), (.int (1 : Int32)), (.ref b5)])) _
    refine st10 _ ?_
    show Steps p.tables e below (T10.setTop (mkF m 191 #[.val (.int p1), .val (.int p2), .val (.int p3), .val (.int p4), .val (.int (1 : Int32)), .val (.int (p1.toInt8.toInt32)), .val (.int (p2.toInt8.toInt32)), .val (.int (p3.toInt8.toInt32)), .val (.ref b5), .val (.int (0 : Int32)), .val (.int (((p1.toInt8.toInt32) + (1 : Int32)).toInt8.toInt32)), .val (.int (p2.toInt8.toInt32)), .val (.int (p3.toInt8.toInt32)), .val (.ref r), .val (.ref b5), .val (.ref ub)] [(.int (1 : Int32))])) _
    refine XS.ifNo X10.here hx rfl (hb hby at_191) rfl ((if0 _ _).trans (feq (by decide : ¬ ((1 : Int32) = (0 : Int32)))).1) ?_
    show Steps p.tables e below (T10.setTop (mkF m 194 #[.val (.int p1), .val (.int p2), .val (.int p3), .val (.int p4), .val (.int (1 : Int32)), .val (.int (p1.toInt8.toInt32)), .val (.int (p2.toInt8.toInt32)), .val (.int (p3.toInt8.toInt32)), .val (.ref b5), .val (.int (0 : Int32)), .val (.int (((p1.toInt8.toInt32) + (1 : Int32)).toInt8.toInt32)), .val (.int (p2.toInt8.toInt32)), .val (.int (p3.toInt8.toInt32)), .val (.ref r), .val (.ref b5), .val (.ref ub)] [])) _
    refine XS.aload X10.here hx rfl (hb hby at_194) rfl rfl ?_
    show Steps p.tables e below (T10.setTop (mkF m 196 #[.val (.int p1), .val (.int p2), .val (.int p3), .val (.int p4), .val (.int (1 : Int32)), .val (.int (p1.toInt8.toInt32)), .val (.int (p2.toInt8.toInt32)), .val (.int (p3.toInt8.toInt32)), .val (.ref b5), .val (.int (0 : Int32)), .val (.int (((p1.toInt8.toInt32) + (1 : Int32)).toInt8.toInt32)), .val (.int (p2.toInt8.toInt32)), .val (.int (p3.toInt8.toInt32)), .val (.ref r), .val (.ref b5), .val (.ref ub)] [(.ref b5)])) _
    refine XS.iload X10.here hx rfl (hb hby at_196) rfl ?_
    show Steps p.tables e below (T10.setTop (mkF m 198 #[.val (.int p1), .val (.int p2), .val (.int p3), .val (.int p4), .val (.int (1 : Int32)), .val (.int (p1.toInt8.toInt32)), .val (.int (p2.toInt8.toInt32)), .val (.int (p3.toInt8.toInt32)), .val (.ref b5), .val (.int (0 : Int32)), .val (.int (((p1.toInt8.toInt32) + (1 : Int32)).toInt8.toInt32)), .val (.int (p2.toInt8.toInt32)), .val (.int (p3.toInt8.toInt32)), .val (.ref r), .val (.ref b5), .val (.ref ub)] [(.int (1 : Int32)), (.ref b5)])) _
    refine XS.iload X10.here hx rfl (hb hby at_198) rfl ?_
    show Steps p.tables e below (T10.setTop (mkF m 200 #[.val (.int p1), .val (.int p2), .val (.int p3), .val (.int p4), .val (.int (1 : Int32)), .val (.int (p1.toInt8.toInt32)), .val (.int (p2.toInt8.toInt32)), .val (.int (p3.toInt8.toInt32)), .val (.ref b5), .val (.int (0 : Int32)), .val (.int (((p1.toInt8.toInt32) + (1 : Int32)).toInt8.toInt32)), .val (.int (p2.toInt8.toInt32)), .val (.int (p3.toInt8.toInt32)), .val (.ref r), .val (.ref b5), .val (.ref ub)] [(.int (p1.toInt8.toInt32)), (.int (1 : Int32)), (.ref b5)])) _
    refine XS.iload X10.here hx rfl (hb hby at_200) rfl ?_
    show Steps p.tables e below (T10.setTop (mkF m 202 #[.val (.int p1), .val (.int p2), .val (.int p3), .val (.int p4), .val (.int (1 : Int32)), .val (.int (p1.toInt8.toInt32)), .val (.int (p2.toInt8.toInt32)), .val (.int (p3.toInt8.toInt32)), .val (.ref b5), .val (.int (0 : Int32)), .val (.int (((p1.toInt8.toInt32) + (1 : Int32)).toInt8.toInt32)), .val (.int (p2.toInt8.toInt32)), .val (.int (p3.toInt8.toInt32)), .val (.ref r), .val (.ref b5), .val (.ref ub)] [(.int (p2.toInt8.toInt32)), (.int (p1.toInt8.toInt32)), (.int (1 : Int32)), (.ref b5)])) _
    refine XS.iload X10.here hx rfl (hb hby at_202) rfl ?_
    show Steps p.tables e below (T10.setTop (mkF m 204 #[.val (.int p1), .val (.int p2), .val (.int p3), .val (.int p4), .val (.int (1 : Int32)), .val (.int (p1.toInt8.toInt32)), .val (.int (p2.toInt8.toInt32)), .val (.int (p3.toInt8.toInt32)), .val (.ref b5), .val (.int (0 : Int32)), .val (.int (((p1.toInt8.toInt32) + (1 : Int32)).toInt8.toInt32)), .val (.int (p2.toInt8.toInt32)), .val (.int (p3.toInt8.toInt32)), .val (.ref r), .val (.ref b5), .val (.ref ub)] [(.int (p3.toInt8.toInt32)), (.int (p2.toInt8.toInt32)), (.int (p1.toInt8.toInt32)), (.int (1 : Int32)), (.ref b5)])) _
    refine st11 _ ?_
    show Steps p.tables e below (T11.setTop (mkF m 207 #[.val (.int p1), .val (.int p2), .val (.int p3), .val (.int p4), .val (.int (1 : Int32)), .val (.int (p1.toInt8.toInt32)), .val (.int (p2.toInt8.toInt32)), .val (.int (p3.toInt8.toInt32)), .val (.ref b5), .val (.int (0 : Int32)), .val (.int (((p1.toInt8.toInt32) + (1 : Int32)).toInt8.toInt32)), .val (.int (p2.toInt8.toInt32)), .val (.int (p3.toInt8.toInt32)), .val (.ref r), .val (.ref b5), .val (.ref ub)] [(.int (1 : Int32))])) _
    refine XS.ifNo X11.here hx rfl (hb hby at_207) rfl ((if0 _ _).trans (feq (by decide : ¬ ((1 : Int32) = (0 : Int32)))).1) ?_
    show Steps p.tables e below (T11.setTop (mkF m 210 #[.val (.int p1), .val (.int p2), .val (.int p3), .val (.int p4), .val (.int (1 : Int32)), .val (.int (p1.toInt8.toInt32)), .val (.int (p2.toInt8.toInt32)), .val (.int (p3.toInt8.toInt32)), .val (.ref b5), .val (.int (0 : Int32)), .val (.int (((p1.toInt8.toInt32) + (1 : Int32)).toInt8.toInt32)), .val (.int (p2.toInt8.toInt32)), .val (.int (p3.toInt8.toInt32)), .val (.ref r), .val (.ref b5), .val (.ref ub)] [])) _
    refine XS.aload X11.here hx rfl (hb hby at_210) rfl rfl ?_
    show Steps p.tables e below (T11.setTop (mkF m 212 #[.val (.int p1), .val (.int p2), .val (.int p3), .val (.int p4), .val (.int (1 : Int32)), .val (.int (p1.toInt8.toInt32)), .val (.int (p2.toInt8.toInt32)), .val (.int (p3.toInt8.toInt32)), .val (.ref b5), .val (.int (0 : Int32)), .val (.int (((p1.toInt8.toInt32) + (1 : Int32)).toInt8.toInt32)), .val (.int (p2.toInt8.toInt32)), .val (.int (p3.toInt8.toInt32)), .val (.ref r), .val (.ref b5), .val (.ref ub)] [(.ref ub)])) _
    refine XS.iload X11.here hx rfl (hb hby at_212) rfl ?_
    show Steps p.tables e below (T11.setTop (mkF m 214 #[.val (.int p1), .val (.int p2), .val (.int p3), .val (.int p4), .val (.int (1 : Int32)), .val (.int (p1.toInt8.toInt32)), .val (.int (p2.toInt8.toInt32)), .val (.int (p3.toInt8.toInt32)), .val (.ref b5), .val (.int (0 : Int32)), .val (.int (((p1.toInt8.toInt32) + (1 : Int32)).toInt8.toInt32)), .val (.int (p2.toInt8.toInt32)), .val (.int (p3.toInt8.toInt32)), .val (.ref r), .val (.ref b5), .val (.ref ub)] [(.int (0 : Int32)), (.ref ub)])) _
    refine XS.iconst X11.here hx rfl (hb hby at_214) ?_
    show Steps p.tables e below (T11.setTop (mkF m 215 #[.val (.int p1), .val (.int p2), .val (.int p3), .val (.int p4), .val (.int (1 : Int32)), .val (.int (p1.toInt8.toInt32)), .val (.int (p2.toInt8.toInt32)), .val (.int (p3.toInt8.toInt32)), .val (.ref b5), .val (.int (0 : Int32)), .val (.int (((p1.toInt8.toInt32) + (1 : Int32)).toInt8.toInt32)), .val (.int (p2.toInt8.toInt32)), .val (.int (p3.toInt8.toInt32)), .val (.ref r), .val (.ref b5), .val (.ref ub)] [(.int (1 : Int32)), (.int (0 : Int32)), (.ref ub)])) _
    refine XS.iadd X11.here hx rfl (hb hby at_215) rfl ?_
    show Steps p.tables e below (T11.setTop (mkF m 216 #[.val (.int p1), .val (.int p2), .val (.int p3), .val (.int p4), .val (.int (1 : Int32)), .val (.int (p1.toInt8.toInt32)), .val (.int (p2.toInt8.toInt32)), .val (.int (p3.toInt8.toInt32)), .val (.ref b5), .val (.int (0 : Int32)), .val (.int (((p1.toInt8.toInt32) + (1 : Int32)).toInt8.toInt32)), .val (.int (p2.toInt8.toInt32)), .val (.int (p3.toInt8.toInt32)), .val (.ref r), .val (.ref b5), .val (.ref ub)] [(.int ((0 : Int32) + (1 : Int32))), (.ref ub)])) _
    refine XS.iload X11.here hx rfl (hb hby at_216) rfl ?_
    show Steps p.tables e below (T11.setTop (mkF m 218 #[.val (.int p1), .val (.int p2), .val (.int p3), .val (.int p4), .val (.int (1 : Int32)), .val (.int (p1.toInt8.toInt32)), .val (.int (p2.toInt8.toInt32)), .val (.int (p3.toInt8.toInt32)), .val (.ref b5), .val (.int (0 : Int32)), .val (.int (((p1.toInt8.toInt32) + (1 : Int32)).toInt8.toInt32)), .val (.int (p2.toInt8.toInt32)), .val (.int (p3.toInt8.toInt32)), .val (.ref r), .val (.ref b5), .val (.ref ub)] [(.int (((p1.toInt8.toInt32) + (1 : Int32)).toInt8.toInt32)), (.int ((0 : Int32) + (1 : Int32))), (.ref ub)])) _
    refine XS.iload X11.here hx rfl (hb hby at_218) rfl ?_
    show Steps p.tables e below (T11.setTop (mkF m 220 #[.val (.int p1), .val (.int p2), .val (.int p3), .val (.int p4), .val (.int (1 : Int32)), .val (.int (p1.toInt8.toInt32)), .val (.int (p2.toInt8.toInt32)), .val (.int (p3.toInt8.toInt32)), .val (.ref b5), .val (.int (0 : Int32)), .val (.int (((p1.toInt8.toInt32) + (1 : Int32)).toInt8.toInt32)), .val (.int (p2.toInt8.toInt32)), .val (.int (p3.toInt8.toInt32)), .val (.ref r), .val (.ref b5), .val (.ref ub)] [(.int (p2.toInt8.toInt32)), (.int (((p1.toInt8.toInt32) + (1 : Int32)).toInt8.toInt32)), (.int ((0 : Int32) + (1 : Int32))), (.ref ub)])) _
    refine XS.iload X11.here hx rfl (hb hby at_220) rfl ?_
    show Steps p.tables e below (T11.setTop (mkF m 222 #[.val (.int p1), .val (.int p2), .val (.int p3), .val (.int p4), .val (.int (1 : Int32)), .val (.int (p1.toInt8.toInt32)), .val (.int (p2.toInt8.toInt32)), .val (.int (p3.toInt8.toInt32)), .val (.ref b5), .val (.int (0 : Int32)), .val (.int (((p1.toInt8.toInt32) + (1 : Int32)).toInt8.toInt32)), .val (.int (p2.toInt8.toInt32)), .val (.int (p3.toInt8.toInt32)), .val (.ref r), .val (.ref b5), .val (.ref ub)] [(.int (p3.toInt8.toInt32)), (.int (p2.toInt8.toInt32)), (.int (((p1.toInt8.toInt32) + (1 : Int32)).toInt8.toInt32)), (.int ((0 : Int32) + (1 : Int32))), (.ref ub)])) _
    refine st12 _ ?_
    show Steps p.tables e below (T12.setTop (mkF m 225 #[.val (.int p1), .val (.int p2), .val (.int p3), .val (.int p4), .val (.int (1 : Int32)), .val (.int (p1.toInt8.toInt32)), .val (.int (p2.toInt8.toInt32)), .val (.int (p3.toInt8.toInt32)), .val (.ref b5), .val (.int (0 : Int32)), .val (.int (((p1.toInt8.toInt32) + (1 : Int32)).toInt8.toInt32)), .val (.int (p2.toInt8.toInt32)), .val (.int (p3.toInt8.toInt32)), .val (.ref r), .val (.ref b5), .val (.ref ub)] [(.int (1 : Int32))])) _
    refine XS.ifNo X12.here hx rfl (hb hby at_225) rfl ((if0 _ _).trans (feq (by decide : ¬ ((1 : Int32) = (0 : Int32)))).1) ?_
    show Steps p.tables e below (T12.setTop (mkF m 228 #[.val (.int p1), .val (.int p2), .val (.int p3), .val (.int p4), .val (.int (1 : Int32)), .val (.int (p1.toInt8.toInt32)), .val (.int (p2.toInt8.toInt32)), .val (.int (p3.toInt8.toInt32)), .val (.ref b5), .val (.int (0 : Int32)), .val (.int (((p1.toInt8.toInt32) + (1 : Int32)).toInt8.toInt32)), .val (.int (p2.toInt8.toInt32)), .val (.int (p3.toInt8.toInt32)), .val (.ref r), .val (.ref b5), .val (.ref ub)] [])) _
    refine XS.iconst X12.here hx rfl (hb hby at_228) ?_
    show Steps p.tables e below (T12.setTop (mkF m 229 #[.val (.int p1), .val (.int p2), .val (.int p3), .val (.int p4), .val (.int (1 : Int32)), .val (.int (p1.toInt8.toInt32)), .val (.int (p2.toInt8.toInt32)), .val (.int (p3.toInt8.toInt32)), .val (.ref b5), .val (.int (0 : Int32)), .val (.int (((p1.toInt8.toInt32) + (1 : Int32)).toInt8.toInt32)), .val (.int (p2.toInt8.toInt32)), .val (.int (p3.toInt8.toInt32)), .val (.ref r), .val (.ref b5), .val (.ref ub)] [(.int (1 : Int32))])) _
    refine XS.goto X12.here hx rfl (pc0 := 229) (pc' := 233) rfl (hb hby at_229) (by decide) (by decide) ?_
    show Steps p.tables e below (T12.setTop (mkF m 233 #[.val (.int p1), .val (.int p2), .val (.int p3), .val (.int p4), .val (.int (1 : Int32)), .val (.int (p1.toInt8.toInt32)), .val (.int (p2.toInt8.toInt32)), .val (.int (p3.toInt8.toInt32)), .val (.ref b5), .val (.int (0 : Int32)), .val (.int (((p1.toInt8.toInt32) + (1 : Int32)).toInt8.toInt32)), .val (.int (p2.toInt8.toInt32)), .val (.int (p3.toInt8.toInt32)), .val (.ref r), .val (.ref b5), .val (.ref ub)] [(.int (1 : Int32))])) _
    exact retN X12 hx (t := .boolean) Bd.returns (by simp) (hb hby at_233) hr
  · show Q0 h0 n0 _ T12.heap _
    exact ⟨rfl, N12⟩

set_option maxRecDepth 65536 in
set_option maxHeartbeats 40000000 in
theorem rm0_21 (l : Launch) (Z : State) (a0 : Array Value) (hw : ∀ d ∈ tables_1, d.before a0 Z = true) (ws : List Jvm.Cond) (p1 : Int32) (p2 : Int32) (p3 : Int32) (p4 : Int32) (h0 : Heap) (n0 : Nat) (Z0 : n0 ≤ h0.size) (hlen : ((1 : Int32) + ((p4 &&& (3 : Int32)) % (3 : Int32))) = (2 : Int32)) (nk1 : ¬ ((p2.toInt8.toInt32) = (-1 : Int32))) :
    MetFree l x (head1 (Jvm.Cond.code x code maxLocals ret :: ws) room_1) (fun a U => a = #[(.int p1), (.int p2), (.int p3), (.int p4)] ∧ Z.Warmed39 U.vm ∧ U.heap = h0) (fun _ _ _ _ _ => True) (fun _ U o U' => ∃ v L, o = .returned v ∧ Q0 h0 n0 v U'.heap L ∧ FrameEnd U o U' L room_1.cells room_1.slots) := by
  refine MetFree.of_bodySF (plainFor_of_name pn_0) hisR ?_
  intro p e s m args below meth c s₁ Bd hml0 hP hK
  obtain ⟨rfl, hZ, hh⟩ := hP
  have hx := Bd.exec
  have hby := Bd.bytes
  have hml : c.maxLocals = 16 := hml0
  have hown : s.vm.findClass "com/example/coord2/coord2/KeyRangePrefixPinLaw" = some m.cls := findClass_of_methodNamed Bd.named
  have hnm := (name_of_methodNamed Bd.named Bd.method).1
  have X0 : Stand p l e room_1 s m #[(.int p1), (.int p2), (.int p3), (.int p4)] below meth c s₁ [] 0 0 := Stand.of_body Bd
  have e0 : s₁.heap = h0 := by rw [← hh, Bd.state]; rfl
  have N0 := Fr.nil n0
  have pre0 : ∀ t, Steps p.tables e below (s₁.setTop (mkF m 0 #[.val (.int p1), .val (.int p2), .val (.int p3), .val (.int p4), .unset, .unset, .unset, .unset, .unset, .unset, .unset, .unset, .unset, .unset, .unset, .unset] [])) t → Steps p.tables e below (s₁.setTop (entryFrame m #[(.int p1), (.int p2), (.int p3), (.int p4)] maxLocals)) t := fun t k => castTop (ef_0 m p1 p2 p3 p4) k
  obtain ⟨T5, h5, k5, X5, e5, E5, A5, EA5, st5⟩ := newPE X0 hx hZ (hw _ (List.mem_of_getElem? (i := 0) rfl)) e0 (g := (mkF m 23 #[.val (.int p1), .val (.int p2), .val (.int p3), .val (.int p4), .val (.int (2 : Int32)), .val (.int (p1.toInt8.toInt32)), .val (.int (p2.toInt8.toInt32)), .val (.int (p3.toInt8.toInt32)), .unset, .unset, .unset, .unset, .unset, .unset, .unset, .unset] [(.int (2 : Int32))])) rfl (hb hby at_23) rfl (by decide) (cap := 3) (by decide) (by decide) (by decide) (by decide) (ad := "[B") rfl
  obtain ⟨b5, g5⟩ : ∃ z, z = h0.size := ⟨_, rfl⟩
  rw [← g5] at A5 EA5 st5
  have V_b5 : Arv Z h5 b5 k5 .byte (2 : Int32) [(.int (0 : Int32)), (.int (0 : Int32))] (.int (0 : Int32)) := (Arv.new A5 (by decide)).pad (pad_rep [] (.int (0 : Int32)) 2)
  have g_b5 : n0 ≤ b5 := Nat.le_trans Z0 (Nat.le_of_eq g5.symm)
  have sz_b5 : h0.size ≤ b5 := (Nat.le_trans (Keep.refl h0 []).1 (Nat.le_of_eq g5.symm))
  have K5 : Keep h0 h5 [] := (Keep.refl h0 []).ext E5
  obtain ⟨cl_b5_32, Ar_b5, q_b5, S_b5, N_b5, H_b5, G_b5⟩ := V_b5
  have hin32 : ¬ ((0 : Int32) < 0 ∨ cl_b5_32.slots.size ≤ ((0 : Int32)).toNatClampNeg) := inb_of S_b5 ⟨by decide, by decide⟩
  obtain ⟨T6, h6, X6, e6, W6, st6⟩ := stB X5 hx hZ e5 Ar_b5 (j := (0 : Int32)) hin32 (g := (mkF m 32 #[.val (.int p1), .val (.int p2), .val (.int p3), .val (.int p4), .val (.int (2 : Int32)), .val (.int (p1.toInt8.toInt32)), .val (.int (p2.toInt8.toInt32)), .val (.int (p3.toInt8.toInt32)), .val (.ref b5), .unset, .unset, .unset, .unset, .unset, .unset, .unset] [(.int (p1.toInt8.toInt32)), (.int (0 : Int32)), (.ref b5)])) rfl rfl (hb hby at_32)
  have V_b5_6 := Arv.set Ar_b5 q_b5 S_b5 N_b5 H_b5 G_b5 (fits_nar_byte _) W6 0 rfl (Nat.le_of_ble_eq_true rfl)
  have K6 : Keep h0 h6 [] := K5.wr W6 (Or.inr sz_b5)
  have N6 := Fr.snoc X6 N0 g_b5
  obtain ⟨cl_b5_44, Ar_b5, q_b5, S_b5, N_b5, H_b5, G_b5⟩ := V_b5_6
  have hin44 : ¬ ((1 : Int32) < 0 ∨ cl_b5_44.slots.size ≤ ((1 : Int32)).toNatClampNeg) := inb_of S_b5 ⟨by decide, by decide⟩
  obtain ⟨T7, h7, X7, e7, W7, st7⟩ := stB X6 hx hZ e6 Ar_b5 (j := (1 : Int32)) hin44 (g := (mkF m 44 #[.val (.int p1), .val (.int p2), .val (.int p3), .val (.int p4), .val (.int (2 : Int32)), .val (.int (p1.toInt8.toInt32)), .val (.int (p2.toInt8.toInt32)), .val (.int (p3.toInt8.toInt32)), .val (.ref b5), .unset, .unset, .unset, .unset, .unset, .unset, .unset] [(.int (p2.toInt8.toInt32)), (.int (1 : Int32)), (.ref b5)])) rfl rfl (hb hby at_44)
  have V_b5_7 := Arv.set Ar_b5 q_b5 S_b5 N_b5 H_b5 G_b5 (fits_nar_byte _) W7 1 rfl (Nat.le_of_ble_eq_true rfl)
  have K7 : Keep h0 h7 [] := K6.wr W7 (Or.inr sz_b5)
  have N7 := Fr.snoc X7 N6 g_b5
  obtain ⟨cl, ArP, -, SP, -, HP, GP⟩ := V_b5_7
  have TyP : ∀ (i : Nat) (v : Value), cl.slots[i]? = some v → fits .byte v = true := fun i v hv => by
    obtain ⟨hi, -⟩ := Array.getElem?_eq_some_iff.mp hv
    rw [HP i hi] at hv; cases hv; exact GP i hi
  have c0 : cl.slots[0]? = some (.int (p1.toInt8.toInt32)) := (HP 0 (by rw [SP]; decide)).trans (congrArg (fun q => some (Value.int q)) (own_nar _))
  have c1 : cl.slots[1]? = some (.int (p2.toInt8.toInt32)) := (HP 1 (by rw [SP]; decide)).trans (congrArg (fun q => some (Value.int q)) (own_nar _))
  have hlat : ∀ j : Nat, 1 < j → j < cl.slots.size → cl.slots[j]? = some (.int (-1 : Int32)) := fun j h1 h2 => by
      rw [SP] at h2
      have h2 : j < 2 := h2
      omega
  have ExP : Exa Z h7 b5 "[B" := ((EA5.wr W6).wr W7)
  obtain ⟨r, gr⟩ : ∃ q, q = h7.size := ⟨_, rfl⟩
  obtain ⟨_, _, ⟨T8, L8, k8, n8⟩, -, X8, ⟨Lc8, hQ8, l8, y8, z8⟩, st8⟩ := Jvm.LawKit.callS X7 hx (y := (⟨"com/example/coord2/coord2/KeyRange", "prefix", "([B)Lcom/example/coord2/coord2/KeyRange;"⟩ : MethodName)) hown (mvT hZ (hw _ (List.mem_of_getElem? (i := 1) rfl))) (mvT hZ (hw _ (List.mem_of_getElem? (i := 2) rfl))) (mvT hZ (hw _ (List.mem_of_getElem? (i := 3) rfl))) (mvT hZ (hw _ (List.mem_of_getElem? (i := 4) rfl))) (by decide) (backOf (W := 0) (rm1 l Z a0 hw [] b5 cl (2 : Int32) 1 (p2.toInt8.toInt32) r h7 n0 (Nat.le_trans Z0 K7.1) gr ArP ExP SP TyP (Or.inr (Or.inl ⟨rfl, rfl⟩)) c1 nk1 hlat) hZ (hw _ (List.mem_of_getElem? (i := 4) rfl)) (hw _ (List.mem_of_getElem? (i := 3) rfl)) (by decide) (by decide)) (g := (mkF m 159 #[.val (.int p1), .val (.int p2), .val (.int p3), .val (.int p4), .val (.int (2 : Int32)), .val (.int (p1.toInt8.toInt32)), .val (.int (p2.toInt8.toInt32)), .val (.int (p3.toInt8.toInt32)), .val (.ref b5), .val (.int (1 : Int32)), .val (.int (p1.toInt8.toInt32)), .val (.int (((p2.toInt8.toInt32) + (1 : Int32)).toInt8.toInt32)), .val (.int (p3.toInt8.toInt32)), .unset, .unset, .unset] [(.ref b5)])) rfl (by rw [hml]; rfl) (argsL := [(.ref b5)]) (rest := []) (lenOf pd_0_0 rfl) rfl (by show 2 * 0 + _ ≤ _; exact Nat.le_of_eq rfl) (hb hby at_159) (fun _ _ => ⟨rfl, e7, (Nat.le_of_ble_eq_true rfl), (Nat.le_of_ble_eq_true rfl)⟩)
  dsimp only [Pt.U, Pt.locs, Pt.cells, Pt.slots] at X8 l8 y8 z8 st8 hQ8
  subst l8 y8 z8
  obtain ⟨rfl, N8q, KC, EX, FL, ub, B, FU, ArU, SU, HU, UK⟩ := hQ8
  have ArP' : Arr Z T8.heap b5 cl .byte := own_arr ArP KC List.not_mem_nil
  have ZT : n0 ≤ T8.heap.size := Nat.le_trans (Nat.le_trans Z0 K7.1) KC.1
  have eq8 : T8.heap = T8.heap := rfl
  have N8 := Fr.app N7 N8q
  obtain ⟨cq9, kq9, q9a, q9b, q9c⟩ := isOf hZ rfl (by rw [eq8]; exact EX : Exa Z T8.heap r "com/example/coord2/coord2/KeyRange")
  obtain ⟨_, _, ⟨T9, L9, k9, n9⟩, -, X9, ⟨Lc9, hQ9, l9, y9, z9⟩, st9⟩ := X8.virtualBack hx (y := (⟨"com/example/coord2/coord2/KeyRange", "lower", "()[B"⟩ : MethodName)) (z := (⟨"com/example/coord2/coord2/KeyRange", "lower", "()[B"⟩ : MethodName)) hown (mvT hZ (hw _ (List.mem_of_getElem? (i := 38) rfl))) (mvT hZ (hw _ (List.mem_of_getElem? (i := 39) rfl))) (notFace_of_selects (args := #[]) (mvT hZ (hw _ (List.mem_of_getElem? (i := 41) rfl)))) (mvT hZ (hw _ (List.mem_of_getElem? (i := 41) rfl))) (mvT hZ (hw _ (List.mem_of_getElem? (i := 40) rfl))) (by decide) (backOf (W := 0) (rm7 l Z a0 hw [] r b5 T8.heap n0 ZT FL) hZ (hw _ (List.mem_of_getElem? (i := 42) rfl)) (hw _ (List.mem_of_getElem? (i := 3) rfl)) (by decide) (by decide)) q9a q9c (g := (mkF m 166 #[.val (.int p1), .val (.int p2), .val (.int p3), .val (.int p4), .val (.int (2 : Int32)), .val (.int (p1.toInt8.toInt32)), .val (.int (p2.toInt8.toInt32)), .val (.int (p3.toInt8.toInt32)), .val (.ref b5), .val (.int (1 : Int32)), .val (.int (p1.toInt8.toInt32)), .val (.int (((p2.toInt8.toInt32) + (1 : Int32)).toInt8.toInt32)), .val (.int (p3.toInt8.toInt32)), .val (.ref r), .unset, .unset] [(.ref r)])) rfl (by rw [hml]; rfl) (Steps.refl _) (argsL := []) (rest := []) (lenOf pd_0_6 rfl) rfl (by show 2 * 0 + _ ≤ _; exact Nat.le_of_eq rfl) (hb hby at_166) (fun _ _ => ⟨rfl, rfl, (Nat.le_of_ble_eq_true rfl), (Nat.le_of_ble_eq_true rfl)⟩)
  dsimp only [Pt.U, Pt.locs, Pt.cells, Pt.slots] at X9 l9 y9 z9 st9 hQ9
  subst l9 y9 z9
  obtain ⟨rfl, N9q, hq9⟩ := hQ9
  have eq9 : T9.heap = T8.heap := hq9.trans eq8
  have N9 := Fr.app N8 N9q
  obtain ⟨cq10, kq10, q10a, q10b, q10c⟩ := isOf hZ rfl (by rw [eq9]; exact EX : Exa Z T9.heap r "com/example/coord2/coord2/KeyRange")
  obtain ⟨_, _, ⟨T10, L10, k10, n10⟩, -, X10, ⟨Lc10, hQ10, l10, y10, z10⟩, st10⟩ := X9.virtualBack hx (y := (⟨"com/example/coord2/coord2/KeyRange", "upper", "()[B"⟩ : MethodName)) (z := (⟨"com/example/coord2/coord2/KeyRange", "upper", "()[B"⟩ : MethodName)) hown (mvT hZ (hw _ (List.mem_of_getElem? (i := 43) rfl))) (mvT hZ (hw _ (List.mem_of_getElem? (i := 44) rfl))) (notFace_of_selects (args := #[]) (mvT hZ (hw _ (List.mem_of_getElem? (i := 46) rfl)))) (mvT hZ (hw _ (List.mem_of_getElem? (i := 46) rfl))) (mvT hZ (hw _ (List.mem_of_getElem? (i := 45) rfl))) (by decide) (backOf (W := 0) (rm8 l Z a0 hw [] r ub T9.heap n0 (by rw [eq9]; exact ZT) (by rw [eq9]; exact FU)) hZ (hw _ (List.mem_of_getElem? (i := 47) rfl)) (hw _ (List.mem_of_getElem? (i := 3) rfl)) (by decide) (by decide)) q10a q10c (g := (mkF m 173 #[.val (.int p1), .val (.int p2), .val (.int p3), .val (.int p4), .val (.int (2 : Int32)), .val (.int (p1.toInt8.toInt32)), .val (.int (p2.toInt8.toInt32)), .val (.int (p3.toInt8.toInt32)), .val (.ref b5), .val (.int (1 : Int32)), .val (.int (p1.toInt8.toInt32)), .val (.int (((p2.toInt8.toInt32) + (1 : Int32)).toInt8.toInt32)), .val (.int (p3.toInt8.toInt32)), .val (.ref r), .val (.ref b5), .unset] [(.ref r)])) rfl (by rw [hml]; rfl) (Steps.refl _) (argsL := []) (rest := []) (lenOf pd_0_6 rfl) rfl (by show 2 * 0 + _ ≤ _; exact Nat.le_of_eq rfl) (hb hby at_173) (fun _ _ => ⟨rfl, rfl, (Nat.le_of_ble_eq_true rfl), (Nat.le_of_ble_eq_true rfl)⟩)
  dsimp only [Pt.U, Pt.locs, Pt.cells, Pt.slots] at X10 l10 y10 z10 st10 hQ10
  subst l10 y10 z10
  obtain ⟨rfl, N10q, hq10⟩ := hQ10
  have eq10 : T10.heap = T8.heap := hq10.trans eq9
  have N10 := Fr.app N9 N10q
  obtain ⟨_, _, ⟨T11, L11, k11, n11⟩, -, X11, ⟨Lc11, hQ11, l11, y11, z11⟩, st11⟩ := Jvm.LawKit.callS X10 hx (y := (⟨"com/example/coord2/coord2/KeyRangePrefixPinLaw", "same", "([BIBBB)Z"⟩ : MethodName)) hown (mvT hZ (hw _ (List.mem_of_getElem? (i := 48) rfl))) (mvT hZ (hw _ (List.mem_of_getElem? (i := 49) rfl))) (mvT hZ (hw _ (List.mem_of_getElem? (i := 50) rfl))) (mvT hZ (hw _ (List.mem_of_getElem? (i := 51) rfl))) (by decide) (backOf (W := 0) (rm9 l Z a0 hw [] b5 (2 : Int32) (p1.toInt8.toInt32) (p2.toInt8.toInt32) (p3.toInt8.toInt32) cl T10.heap n0 (by rw [eq10]; exact ZT) (by rw [eq10]; exact ArP') SP (Or.inr (Or.inl rfl)) c0 (Or.inr c1) (Or.inr (Or.inl rfl))) hZ (hw _ (List.mem_of_getElem? (i := 51) rfl)) (hw _ (List.mem_of_getElem? (i := 50) rfl)) (by decide) (by decide)) (g := (mkF m 188 #[.val (.int p1), .val (.int p2), .val (.int p3), .val (.int p4), .val (.int (2 : Int32)), .val (.int (p1.toInt8.toInt32)), .val (.int (p2.toInt8.toInt32)), .val (.int (p3.toInt8.toInt32)), .val (.ref b5), .val (.int (1 : Int32)), .val (.int (p1.toInt8.toInt32)), .val (.int (((p2.toInt8.toInt32) + (1 : Int32)).toInt8.toInt32)), .val (.int (p3.toInt8.toInt32)), .val (.ref r), .val (.ref b5), .val (.ref ub)] [(.int (p3.toInt8.toInt32)), (.int (p2.toInt8.toInt32)), (.int (p1.toInt8.toInt32)), (.int (2 : Int32)), (.ref b5)])) rfl (by rw [hml]; rfl) (argsL := [(.ref b5), (.int (2 : Int32)), (.int (p1.toInt8.toInt32)), (.int (p2.toInt8.toInt32)), (.int (p3.toInt8.toInt32))]) (rest := []) (lenOf pd_0_7 rfl) rfl (by show 2 * 0 + _ ≤ _; exact Nat.le_of_eq rfl) (hb hby at_188) (fun _ _ => ⟨rfl, rfl, (Nat.le_of_ble_eq_true rfl), (Nat.le_of_ble_eq_true rfl)⟩)
  dsimp only [Pt.U, Pt.locs, Pt.cells, Pt.slots] at X11 l11 y11 z11 st11 hQ11
  subst l11 y11 z11
  obtain ⟨rfl, N11q, hq11⟩ := hQ11
  have eq11 : T11.heap = T8.heap := hq11.trans eq10
  have N11 := Fr.app N10 N11q
  obtain ⟨_, _, ⟨T12, L12, k12, n12⟩, -, X12, ⟨Lc12, hQ12, l12, y12, z12⟩, st12⟩ := Jvm.LawKit.callS X11 hx (y := (⟨"com/example/coord2/coord2/KeyRangePrefixPinLaw", "same", "([BIBBB)Z"⟩ : MethodName)) hown (mvT hZ (hw _ (List.mem_of_getElem? (i := 48) rfl))) (mvT hZ (hw _ (List.mem_of_getElem? (i := 49) rfl))) (mvT hZ (hw _ (List.mem_of_getElem? (i := 50) rfl))) (mvT hZ (hw _ (List.mem_of_getElem? (i := 51) rfl))) (by decide) (backOf (W := 0) (rm9 l Z a0 hw [] b5 (2 : Int32) (p1.toInt8.toInt32) (p2.toInt8.toInt32) (p3.toInt8.toInt32) cl T11.heap n0 (by rw [eq11]; exact ZT) (by rw [eq11]; exact ArP') SP (Or.inr (Or.inl rfl)) c0 (Or.inr c1) (Or.inr (Or.inl rfl))) hZ (hw _ (List.mem_of_getElem? (i := 51) rfl)) (hw _ (List.mem_of_getElem? (i := 50) rfl)) (by decide) (by decide)) (g := (mkF m 204 #[.val (.int p1), .val (.int p2), .val (.int p3), .val (.int p4), .val (.int (2 : Int32)), .val (.int (p1.toInt8.toInt32)), .val (.int (p2.toInt8.toInt32)), .val (.int (p3.toInt8.toInt32)), .val (.ref b5), .val (.int (1 : Int32)), .val (.int (p1.toInt8.toInt32)), .val (.int (((p2.toInt8.toInt32) + (1 : Int32)).toInt8.toInt32)), .val (.int (p3.toInt8.toInt32)), .val (.ref r), .val (.ref b5), .val (.ref ub)] [(.int (p3.toInt8.toInt32)), (.int (p2.toInt8.toInt32)), (.int (p1.toInt8.toInt32)), (.int (2 : Int32)), (.ref b5)])) rfl (by rw [hml]; rfl) (argsL := [(.ref b5), (.int (2 : Int32)), (.int (p1.toInt8.toInt32)), (.int (p2.toInt8.toInt32)), (.int (p3.toInt8.toInt32))]) (rest := []) (lenOf pd_0_7 rfl) rfl (by show 2 * 0 + _ ≤ _; exact Nat.le_of_eq rfl) (hb hby at_204) (fun _ _ => ⟨rfl, rfl, (Nat.le_of_ble_eq_true rfl), (Nat.le_of_ble_eq_true rfl)⟩)
  dsimp only [Pt.U, Pt.locs, Pt.cells, Pt.slots] at X12 l12 y12 z12 st12 hQ12
  subst l12 y12 z12
  obtain ⟨rfl, N12q, hq12⟩ := hQ12
  have eq12 : T12.heap = T8.heap := hq12.trans eq11
  have N12 := Fr.app N11 N12q
  obtain ⟨_, _, ⟨T13, L13, k13, n13⟩, -, X13, ⟨Lc13, hQ13, l13, y13, z13⟩, st13⟩ := Jvm.LawKit.callS X12 hx (y := (⟨"com/example/coord2/coord2/KeyRangePrefixPinLaw", "same", "([BIBBB)Z"⟩ : MethodName)) hown (mvT hZ (hw _ (List.mem_of_getElem? (i := 48) rfl))) (mvT hZ (hw _ (List.mem_of_getElem? (i := 49) rfl))) (mvT hZ (hw _ (List.mem_of_getElem? (i := 50) rfl))) (mvT hZ (hw _ (List.mem_of_getElem? (i := 51) rfl))) (by decide) (backOf (W := 0) (rm9 l Z a0 hw [] ub ((1 : Int32) + (1 : Int32)) (p1.toInt8.toInt32) (((p2.toInt8.toInt32) + (1 : Int32)).toInt8.toInt32) (p3.toInt8.toInt32) B T12.heap n0 (by rw [eq12]; exact ZT) (by rw [eq12]; exact ArU) (by rw [SU]; decide) (Or.inr (Or.inl (by decide))) ((HU 0 (by decide)).trans c0) (Or.inr UK) (Or.inr (Or.inl (by decide)))) hZ (hw _ (List.mem_of_getElem? (i := 51) rfl)) (hw _ (List.mem_of_getElem? (i := 50) rfl)) (by decide) (by decide)) (g := (mkF m 222 #[.val (.int p1), .val (.int p2), .val (.int p3), .val (.int p4), .val (.int (2 : Int32)), .val (.int (p1.toInt8.toInt32)), .val (.int (p2.toInt8.toInt32)), .val (.int (p3.toInt8.toInt32)), .val (.ref b5), .val (.int (1 : Int32)), .val (.int (p1.toInt8.toInt32)), .val (.int (((p2.toInt8.toInt32) + (1 : Int32)).toInt8.toInt32)), .val (.int (p3.toInt8.toInt32)), .val (.ref r), .val (.ref b5), .val (.ref ub)] [(.int (p3.toInt8.toInt32)), (.int (((p2.toInt8.toInt32) + (1 : Int32)).toInt8.toInt32)), (.int (p1.toInt8.toInt32)), (.int ((1 : Int32) + (1 : Int32))), (.ref ub)])) rfl (by rw [hml]; rfl) (argsL := [(.ref ub), (.int ((1 : Int32) + (1 : Int32))), (.int (p1.toInt8.toInt32)), (.int (((p2.toInt8.toInt32) + (1 : Int32)).toInt8.toInt32)), (.int (p3.toInt8.toInt32))]) (rest := []) (lenOf pd_0_7 rfl) rfl (by show 2 * 0 + _ ≤ _; exact Nat.le_of_eq rfl) (hb hby at_222) (fun _ _ => ⟨rfl, rfl, (Nat.le_of_ble_eq_true rfl), (Nat.le_of_ble_eq_true rfl)⟩)
  dsimp only [Pt.U, Pt.locs, Pt.cells, Pt.slots] at X13 l13 y13 z13 st13 hQ13
  subst l13 y13 z13
  obtain ⟨rfl, N13q, hq13⟩ := hQ13
  have eq13 : T13.heap = T8.heap := hq13.trans eq12
  have N13 := Fr.app N12 N13q
  obtain ⟨fs, hr, hrun, hended, hW, hsame⟩ := X13.leave (v := some (.int (1 : Int32))) (fun h => by rw [Bd.returns] at h; cases h)
  refine ⟨_, _, pre0 _ ?_, hrun, hended, _, _, rfl, ?_, ⟨_, rfl⟩, hW, hsame.mono (by decide) (by decide)⟩
  · show Steps p.tables e below (s₁.setTop (mkF m 0 #[.val (.int p1), .val (.int p2), .val (.int p3), .val (.int p4), .unset, .unset, .unset, .unset, .unset, .unset, .unset, .unset, .unset, .unset, .unset, .unset] [])) _
    refine XS.iconst X0.here hx rfl (hb hby at_0) ?_
    show Steps p.tables e below (s₁.setTop (mkF m 1 #[.val (.int p1), .val (.int p2), .val (.int p3), .val (.int p4), .unset, .unset, .unset, .unset, .unset, .unset, .unset, .unset, .unset, .unset, .unset, .unset] [(.int (1 : Int32))])) _
    refine XS.iloadN X0.here hx rfl (hb hby at_1) rfl ?_
    show Steps p.tables e below (s₁.setTop (mkF m 2 #[.val (.int p1), .val (.int p2), .val (.int p3), .val (.int p4), .unset, .unset, .unset, .unset, .unset, .unset, .unset, .unset, .unset, .unset, .unset, .unset] [(.int p4), (.int (1 : Int32))])) _
    refine XS.iconst X0.here hx rfl (hb hby at_2) ?_
    show Steps p.tables e below (s₁.setTop (mkF m 3 #[.val (.int p1), .val (.int p2), .val (.int p3), .val (.int p4), .unset, .unset, .unset, .unset, .unset, .unset, .unset, .unset, .unset, .unset, .unset, .unset] [(.int (3 : Int32)), (.int p4), (.int (1 : Int32))])) _
    refine XS.iand X0.here hx rfl (hb hby at_3) rfl ?_
    show Steps p.tables e below (s₁.setTop (mkF m 4 #[.val (.int p1), .val (.int p2), .val (.int p3), .val (.int p4), .unset, .unset, .unset, .unset, .unset, .unset, .unset, .unset, .unset, .unset, .unset, .unset] [(.int (p4 &&& (3 : Int32))), (.int (1 : Int32))])) _
    refine XS.iconst X0.here hx rfl (hb hby at_4) ?_
    show Steps p.tables e below (s₁.setTop (mkF m 5 #[.val (.int p1), .val (.int p2), .val (.int p3), .val (.int p4), .unset, .unset, .unset, .unset, .unset, .unset, .unset, .unset, .unset, .unset, .unset, .unset] [(.int (3 : Int32)), (.int (p4 &&& (3 : Int32))), (.int (1 : Int32))])) _
    refine iremM X0 hx rfl (hb hby at_5) rfl (by decide) ?_
    show Steps p.tables e below (s₁.setTop (mkF m 6 #[.val (.int p1), .val (.int p2), .val (.int p3), .val (.int p4), .unset, .unset, .unset, .unset, .unset, .unset, .unset, .unset, .unset, .unset, .unset, .unset] [(.int ((p4 &&& (3 : Int32)) % (3 : Int32))), (.int (1 : Int32))])) _
    refine XS.iadd X0.here hx rfl (hb hby at_6) rfl ?_
    show Steps p.tables e below (s₁.setTop (mkF m 7 #[.val (.int p1), .val (.int p2), .val (.int p3), .val (.int p4), .unset, .unset, .unset, .unset, .unset, .unset, .unset, .unset, .unset, .unset, .unset, .unset] [(.int ((1 : Int32) + ((p4 &&& (3 : Int32)) % (3 : Int32))))])) _
    rw [hlen]
    refine XS.istore X0.here hx rfl (hb hby at_7) rfl (l' := #[.val (.int p1), .val (.int p2), .val (.int p3), .val (.int p4), .val (.int (2 : Int32)), .unset, .unset, .unset, .unset, .unset, .unset, .unset, .unset, .unset, .unset, .unset]) rfl ?_
    show Steps p.tables e below (s₁.setTop (mkF m 9 #[.val (.int p1), .val (.int p2), .val (.int p3), .val (.int p4), .val (.int (2 : Int32)), .unset, .unset, .unset, .unset, .unset, .unset, .unset, .unset, .unset, .unset, .unset] [])) _
    refine XS.iloadN X0.here hx rfl (hb hby at_9) rfl ?_
    show Steps p.tables e below (s₁.setTop (mkF m 10 #[.val (.int p1), .val (.int p2), .val (.int p3), .val (.int p4), .val (.int (2 : Int32)), .unset, .unset, .unset, .unset, .unset, .unset, .unset, .unset, .unset, .unset, .unset] [(.int p1)])) _
    refine XS.i2b X0.here hx rfl (hb hby at_10) rfl ?_
    show Steps p.tables e below (s₁.setTop (mkF m 11 #[.val (.int p1), .val (.int p2), .val (.int p3), .val (.int p4), .val (.int (2 : Int32)), .unset, .unset, .unset, .unset, .unset, .unset, .unset, .unset, .unset, .unset, .unset] [(.int (p1.toInt8.toInt32))])) _
    refine XS.istore X0.here hx rfl (hb hby at_11) rfl (l' := #[.val (.int p1), .val (.int p2), .val (.int p3), .val (.int p4), .val (.int (2 : Int32)), .val (.int (p1.toInt8.toInt32)), .unset, .unset, .unset, .unset, .unset, .unset, .unset, .unset, .unset, .unset]) rfl ?_
    show Steps p.tables e below (s₁.setTop (mkF m 13 #[.val (.int p1), .val (.int p2), .val (.int p3), .val (.int p4), .val (.int (2 : Int32)), .val (.int (p1.toInt8.toInt32)), .unset, .unset, .unset, .unset, .unset, .unset, .unset, .unset, .unset, .unset] [])) _
    refine XS.iloadN X0.here hx rfl (hb hby at_13) rfl ?_
    show Steps p.tables e below (s₁.setTop (mkF m 14 #[.val (.int p1), .val (.int p2), .val (.int p3), .val (.int p4), .val (.int (2 : Int32)), .val (.int (p1.toInt8.toInt32)), .unset, .unset, .unset, .unset, .unset, .unset, .unset, .unset, .unset, .unset] [(.int p2)])) _
    refine XS.i2b X0.here hx rfl (hb hby at_14) rfl ?_
    show Steps p.tables e below (s₁.setTop (mkF m 15 #[.val (.int p1), .val (.int p2), .val (.int p3), .val (.int p4), .val (.int (2 : Int32)), .val (.int (p1.toInt8.toInt32)), .unset, .unset, .unset, .unset, .unset, .unset, .unset, .unset, .unset, .unset] [(.int (p2.toInt8.toInt32))])) _
    refine XS.istore X0.here hx rfl (hb hby at_15) rfl (l' := #[.val (.int p1), .val (.int p2), .val (.int p3), .val (.int p4), .val (.int (2 : Int32)), .val (.int (p1.toInt8.toInt32)), .val (.int (p2.toInt8.toInt32)), .unset, .unset, .unset, .unset, .unset, .unset, .unset, .unset, .unset]) rfl ?_
    show Steps p.tables e below (s₁.setTop (mkF m 17 #[.val (.int p1), .val (.int p2), .val (.int p3), .val (.int p4), .val (.int (2 : Int32)), .val (.int (p1.toInt8.toInt32)), .val (.int (p2.toInt8.toInt32)), .unset, .unset, .unset, .unset, .unset, .unset, .unset, .unset, .unset] [])) _
    refine XS.iloadN X0.here hx rfl (hb hby at_17) rfl ?_
    show Steps p.tables e below (s₁.setTop (mkF m 18 #[.val (.int p1), .val (.int p2), .val (.int p3), .val (.int p4), .val (.int (2 : Int32)), .val (.int (p1.toInt8.toInt32)), .val (.int (p2.toInt8.toInt32)), .unset, .unset, .unset, .unset, .unset, .unset, .unset, .unset, .unset] [(.int p3)])) _
    refine XS.i2b X0.here hx rfl (hb hby at_18) rfl ?_
    show Steps p.tables e below (s₁.setTop (mkF m 19 #[.val (.int p1), .val (.int p2), .val (.int p3), .val (.int p4), .val (.int (2 : Int32)), .val (.int (p1.toInt8.toInt32)), .val (.int (p2.toInt8.toInt32)), .unset, .unset, .unset, .unset, .unset, .unset, .unset, .unset, .unset] [(.int (p3.toInt8.toInt32))])) _
    refine XS.istore X0.here hx rfl (hb hby at_19) rfl (l' := #[.val (.int p1), .val (.int p2), .val (.int p3), .val (.int p4), .val (.int (2 : Int32)), .val (.int (p1.toInt8.toInt32)), .val (.int (p2.toInt8.toInt32)), .val (.int (p3.toInt8.toInt32)), .unset, .unset, .unset, .unset, .unset, .unset, .unset, .unset]) rfl ?_
    show Steps p.tables e below (s₁.setTop (mkF m 21 #[.val (.int p1), .val (.int p2), .val (.int p3), .val (.int p4), .val (.int (2 : Int32)), .val (.int (p1.toInt8.toInt32)), .val (.int (p2.toInt8.toInt32)), .val (.int (p3.toInt8.toInt32)), .unset, .unset, .unset, .unset, .unset, .unset, .unset, .unset] [])) _
    refine XS.iload X0.here hx rfl (hb hby at_21) rfl ?_
    show Steps p.tables e below (s₁.setTop (mkF m 23 #[.val (.int p1), .val (.int p2), .val (.int p3), .val (.int p4), .val (.int (2 : Int32)), .val (.int (p1.toInt8.toInt32)), .val (.int (p2.toInt8.toInt32)), .val (.int (p3.toInt8.toInt32)), .unset, .unset, .unset, .unset, .unset, .unset, .unset, .unset] [(.int (2 : Int32))])) _
    refine st5 _ ?_
    show Steps p.tables e below (T5.setTop (mkF m 25 #[.val (.int p1), .val (.int p2), .val (.int p3), .val (.int p4), .val (.int (2 : Int32)), .val (.int (p1.toInt8.toInt32)), .val (.int (p2.toInt8.toInt32)), .val (.int (p3.toInt8.toInt32)), .unset, .unset, .unset, .unset, .unset, .unset, .unset, .unset] [(.ref b5)])) _
    refine XS.astore X5.here hx rfl (hb hby at_25) rfl rfl (l' := #[.val (.int p1), .val (.int p2), .val (.int p3), .val (.int p4), .val (.int (2 : Int32)), .val (.int (p1.toInt8.toInt32)), .val (.int (p2.toInt8.toInt32)), .val (.int (p3.toInt8.toInt32)), .val (.ref b5), .unset, .unset, .unset, .unset, .unset, .unset, .unset]) rfl ?_
    show Steps p.tables e below (T5.setTop (mkF m 27 #[.val (.int p1), .val (.int p2), .val (.int p3), .val (.int p4), .val (.int (2 : Int32)), .val (.int (p1.toInt8.toInt32)), .val (.int (p2.toInt8.toInt32)), .val (.int (p3.toInt8.toInt32)), .val (.ref b5), .unset, .unset, .unset, .unset, .unset, .unset, .unset] [])) _
    refine XS.aload X5.here hx rfl (hb hby at_27) rfl rfl ?_
    show Steps p.tables e below (T5.setTop (mkF m 29 #[.val (.int p1), .val (.int p2), .val (.int p3), .val (.int p4), .val (.int (2 : Int32)), .val (.int (p1.toInt8.toInt32)), .val (.int (p2.toInt8.toInt32)), .val (.int (p3.toInt8.toInt32)), .val (.ref b5), .unset, .unset, .unset, .unset, .unset, .unset, .unset] [(.ref b5)])) _
    refine XS.iconst X5.here hx rfl (hb hby at_29) ?_
    show Steps p.tables e below (T5.setTop (mkF m 30 #[.val (.int p1), .val (.int p2), .val (.int p3), .val (.int p4), .val (.int (2 : Int32)), .val (.int (p1.toInt8.toInt32)), .val (.int (p2.toInt8.toInt32)), .val (.int (p3.toInt8.toInt32)), .val (.ref b5), .unset, .unset, .unset, .unset, .unset, .unset, .unset] [(.int (0 : Int32)), (.ref b5)])) _
    refine XS.iload X5.here hx rfl (hb hby at_30) rfl ?_
    show Steps p.tables e below (T5.setTop (mkF m 32 #[.val (.int p1), .val (.int p2), .val (.int p3), .val (.int p4), .val (.int (2 : Int32)), .val (.int (p1.toInt8.toInt32)), .val (.int (p2.toInt8.toInt32)), .val (.int (p3.toInt8.toInt32)), .val (.ref b5), .unset, .unset, .unset, .unset, .unset, .unset, .unset] [(.int (p1.toInt8.toInt32)), (.int (0 : Int32)), (.ref b5)])) _
    refine st6 _ ?_
    show Steps p.tables e below (T6.setTop (mkF m 33 #[.val (.int p1), .val (.int p2), .val (.int p3), .val (.int p4), .val (.int (2 : Int32)), .val (.int (p1.toInt8.toInt32)), .val (.int (p2.toInt8.toInt32)), .val (.int (p3.toInt8.toInt32)), .val (.ref b5), .unset, .unset, .unset, .unset, .unset, .unset, .unset] [])) _
    refine XS.iload X6.here hx rfl (hb hby at_33) rfl ?_
    show Steps p.tables e below (T6.setTop (mkF m 35 #[.val (.int p1), .val (.int p2), .val (.int p3), .val (.int p4), .val (.int (2 : Int32)), .val (.int (p1.toInt8.toInt32)), .val (.int (p2.toInt8.toInt32)), .val (.int (p3.toInt8.toInt32)), .val (.ref b5), .unset, .unset, .unset, .unset, .unset, .unset, .unset] [(.int (2 : Int32))])) _
    refine XS.iconst X6.here hx rfl (hb hby at_35) ?_
    show Steps p.tables e below (T6.setTop (mkF m 36 #[.val (.int p1), .val (.int p2), .val (.int p3), .val (.int p4), .val (.int (2 : Int32)), .val (.int (p1.toInt8.toInt32)), .val (.int (p2.toInt8.toInt32)), .val (.int (p3.toInt8.toInt32)), .val (.ref b5), .unset, .unset, .unset, .unset, .unset, .unset, .unset] [(.int (1 : Int32)), (.int (2 : Int32))])) _
    refine XS.icmpNo X6.here hx rfl (hb hby at_36) rfl (tlt (by decide)).2.2.2 ?_
    show Steps p.tables e below (T6.setTop (mkF m 39 #[.val (.int p1), .val (.int p2), .val (.int p3), .val (.int p4), .val (.int (2 : Int32)), .val (.int (p1.toInt8.toInt32)), .val (.int (p2.toInt8.toInt32)), .val (.int (p3.toInt8.toInt32)), .val (.ref b5), .unset, .unset, .unset, .unset, .unset, .unset, .unset] [])) _
    refine XS.aload X6.here hx rfl (hb hby at_39) rfl rfl ?_
    show Steps p.tables e below (T6.setTop (mkF m 41 #[.val (.int p1), .val (.int p2), .val (.int p3), .val (.int p4), .val (.int (2 : Int32)), .val (.int (p1.toInt8.toInt32)), .val (.int (p2.toInt8.toInt32)), .val (.int (p3.toInt8.toInt32)), .val (.ref b5), .unset, .unset, .unset, .unset, .unset, .unset, .unset] [(.ref b5)])) _
    refine XS.iconst X6.here hx rfl (hb hby at_41) ?_
    show Steps p.tables e below (T6.setTop (mkF m 42 #[.val (.int p1), .val (.int p2), .val (.int p3), .val (.int p4), .val (.int (2 : Int32)), .val (.int (p1.toInt8.toInt32)), .val (.int (p2.toInt8.toInt32)), .val (.int (p3.toInt8.toInt32)), .val (.ref b5), .unset, .unset, .unset, .unset, .unset, .unset, .unset] [(.int (1 : Int32)), (.ref b5)])) _
    refine XS.iload X6.here hx rfl (hb hby at_42) rfl ?_
    show Steps p.tables e below (T6.setTop (mkF m 44 #[.val (.int p1), .val (.int p2), .val (.int p3), .val (.int p4), .val (.int (2 : Int32)), .val (.int (p1.toInt8.toInt32)), .val (.int (p2.toInt8.toInt32)), .val (.int (p3.toInt8.toInt32)), .val (.ref b5), .unset, .unset, .unset, .unset, .unset, .unset, .unset] [(.int (p2.toInt8.toInt32)), (.int (1 : Int32)), (.ref b5)])) _
    refine st7 _ ?_
    show Steps p.tables e below (T7.setTop (mkF m 45 #[.val (.int p1), .val (.int p2), .val (.int p3), .val (.int p4), .val (.int (2 : Int32)), .val (.int (p1.toInt8.toInt32)), .val (.int (p2.toInt8.toInt32)), .val (.int (p3.toInt8.toInt32)), .val (.ref b5), .unset, .unset, .unset, .unset, .unset, .unset, .unset] [])) _
    refine XS.iload X7.here hx rfl (hb hby at_45) rfl ?_
    show Steps p.tables e below (T7.setTop (mkF m 47 #[.val (.int p1), .val (.int p2), .val (.int p3), .val (.int p4), .val (.int (2 : Int32)), .val (.int (p1.toInt8.toInt32)), .val (.int (p2.toInt8.toInt32)), .val (.int (p3.toInt8.toInt32)), .val (.ref b5), .unset, .unset, .unset, .unset, .unset, .unset, .unset] [(.int (2 : Int32))])) _
    refine XS.iconst X7.here hx rfl (hb hby at_47) ?_
    show Steps p.tables e below (T7.setTop (mkF m 48 #[.val (.int p1), .val (.int p2), .val (.int p3), .val (.int p4), .val (.int (2 : Int32)), .val (.int (p1.toInt8.toInt32)), .val (.int (p2.toInt8.toInt32)), .val (.int (p3.toInt8.toInt32)), .val (.ref b5), .unset, .unset, .unset, .unset, .unset, .unset, .unset] [(.int (2 : Int32)), (.int (2 : Int32))])) _
    refine XS.icmpYes X7.here hx rfl (pc0 := 48) (pc' := 57) rfl (hb hby at_48) rfl (flt (by decide)).2.2.2 (by decide) (by decide) ?_
    show Steps p.tables e below (T7.setTop (mkF m 57 #[.val (.int p1), .val (.int p2), .val (.int p3), .val (.int p4), .val (.int (2 : Int32)), .val (.int (p1.toInt8.toInt32)), .val (.int (p2.toInt8.toInt32)), .val (.int (p3.toInt8.toInt32)), .val (.ref b5), .unset, .unset, .unset, .unset, .unset, .unset, .unset] [])) _
    refine XS.iload X7.here hx rfl (hb hby at_57) rfl ?_
    show Steps p.tables e below (T7.setTop (mkF m 59 #[.val (.int p1), .val (.int p2), .val (.int p3), .val (.int p4), .val (.int (2 : Int32)), .val (.int (p1.toInt8.toInt32)), .val (.int (p2.toInt8.toInt32)), .val (.int (p3.toInt8.toInt32)), .val (.ref b5), .unset, .unset, .unset, .unset, .unset, .unset, .unset] [(.int (2 : Int32))])) _
    refine XS.iconst X7.here hx rfl (hb hby at_59) ?_
    show Steps p.tables e below (T7.setTop (mkF m 60 #[.val (.int p1), .val (.int p2), .val (.int p3), .val (.int p4), .val (.int (2 : Int32)), .val (.int (p1.toInt8.toInt32)), .val (.int (p2.toInt8.toInt32)), .val (.int (p3.toInt8.toInt32)), .val (.ref b5), .unset, .unset, .unset, .unset, .unset, .unset, .unset] [(.int (3 : Int32)), (.int (2 : Int32))])) _
    refine XS.icmpYes X7.here hx rfl (pc0 := 60) (pc' := 75) rfl (hb hby at_60) rfl (feq (by decide)).2 (by decide) (by decide) ?_
    show Steps p.tables e below (T7.setTop (mkF m 75 #[.val (.int p1), .val (.int p2), .val (.int p3), .val (.int p4), .val (.int (2 : Int32)), .val (.int (p1.toInt8.toInt32)), .val (.int (p2.toInt8.toInt32)), .val (.int (p3.toInt8.toInt32)), .val (.ref b5), .unset, .unset, .unset, .unset, .unset, .unset, .unset] [])) _
    refine XS.iload X7.here hx rfl (hb hby at_75) rfl ?_
    show Steps p.tables e below (T7.setTop (mkF m 77 #[.val (.int p1), .val (.int p2), .val (.int p3), .val (.int p4), .val (.int (2 : Int32)), .val (.int (p1.toInt8.toInt32)), .val (.int (p2.toInt8.toInt32)), .val (.int (p3.toInt8.toInt32)), .val (.ref b5), .unset, .unset, .unset, .unset, .unset, .unset, .unset] [(.int (2 : Int32))])) _
    refine XS.iconst X7.here hx rfl (hb hby at_77) ?_
    show Steps p.tables e below (T7.setTop (mkF m 78 #[.val (.int p1), .val (.int p2), .val (.int p3), .val (.int p4), .val (.int (2 : Int32)), .val (.int (p1.toInt8.toInt32)), .val (.int (p2.toInt8.toInt32)), .val (.int (p3.toInt8.toInt32)), .val (.ref b5), .unset, .unset, .unset, .unset, .unset, .unset, .unset] [(.int (2 : Int32)), (.int (2 : Int32))])) _
    refine XS.icmpNo X7.here hx rfl (hb hby at_78) rfl (flt (by decide)).1 ?_
    show Steps p.tables e below (T7.setTop (mkF m 81 #[.val (.int p1), .val (.int p2), .val (.int p3), .val (.int p4), .val (.int (2 : Int32)), .val (.int (p1.toInt8.toInt32)), .val (.int (p2.toInt8.toInt32)), .val (.int (p3.toInt8.toInt32)), .val (.ref b5), .unset, .unset, .unset, .unset, .unset, .unset, .unset] [])) _
    refine XS.iload X7.here hx rfl (hb hby at_81) rfl ?_
    show Steps p.tables e below (T7.setTop (mkF m 83 #[.val (.int p1), .val (.int p2), .val (.int p3), .val (.int p4), .val (.int (2 : Int32)), .val (.int (p1.toInt8.toInt32)), .val (.int (p2.toInt8.toInt32)), .val (.int (p3.toInt8.toInt32)), .val (.ref b5), .unset, .unset, .unset, .unset, .unset, .unset, .unset] [(.int (p2.toInt8.toInt32))])) _
    refine XS.iconst X7.here hx rfl (hb hby at_83) ?_
    show Steps p.tables e below (T7.setTop (mkF m 84 #[.val (.int p1), .val (.int p2), .val (.int p3), .val (.int p4), .val (.int (2 : Int32)), .val (.int (p1.toInt8.toInt32)), .val (.int (p2.toInt8.toInt32)), .val (.int (p3.toInt8.toInt32)), .val (.ref b5), .unset, .unset, .unset, .unset, .unset, .unset, .unset] [(.int (-1 : Int32)), (.int (p2.toInt8.toInt32))])) _
    refine XS.icmpNo X7.here hx rfl (hb hby at_84) rfl (feq nk1).1 ?_
    show Steps p.tables e below (T7.setTop (mkF m 87 #[.val (.int p1), .val (.int p2), .val (.int p3), .val (.int p4), .val (.int (2 : Int32)), .val (.int (p1.toInt8.toInt32)), .val (.int (p2.toInt8.toInt32)), .val (.int (p3.toInt8.toInt32)), .val (.ref b5), .unset, .unset, .unset, .unset, .unset, .unset, .unset] [])) _
    refine XS.iconst X7.here hx rfl (hb hby at_87) ?_
    show Steps p.tables e below (T7.setTop (mkF m 88 #[.val (.int p1), .val (.int p2), .val (.int p3), .val (.int p4), .val (.int (2 : Int32)), .val (.int (p1.toInt8.toInt32)), .val (.int (p2.toInt8.toInt32)), .val (.int (p3.toInt8.toInt32)), .val (.ref b5), .unset, .unset, .unset, .unset, .unset, .unset, .unset] [(.int (1 : Int32))])) _
    refine XS.istore X7.here hx rfl (hb hby at_88) rfl (l' := #[.val (.int p1), .val (.int p2), .val (.int p3), .val (.int p4), .val (.int (2 : Int32)), .val (.int (p1.toInt8.toInt32)), .val (.int (p2.toInt8.toInt32)), .val (.int (p3.toInt8.toInt32)), .val (.ref b5), .val (.int (1 : Int32)), .unset, .unset, .unset, .unset, .unset, .unset]) rfl ?_
    show Steps p.tables e below (T7.setTop (mkF m 90 #[.val (.int p1), .val (.int p2), .val (.int p3), .val (.int p4), .val (.int (2 : Int32)), .val (.int (p1.toInt8.toInt32)), .val (.int (p2.toInt8.toInt32)), .val (.int (p3.toInt8.toInt32)), .val (.ref b5), .val (.int (1 : Int32)), .unset, .unset, .unset, .unset, .unset, .unset] [])) _
    refine XS.goto X7.here hx rfl (pc0 := 90) (pc' := 107) rfl (hb hby at_90) (by decide) (by decide) ?_
    show Steps p.tables e below (T7.setTop (mkF m 107 #[.val (.int p1), .val (.int p2), .val (.int p3), .val (.int p4), .val (.int (2 : Int32)), .val (.int (p1.toInt8.toInt32)), .val (.int (p2.toInt8.toInt32)), .val (.int (p3.toInt8.toInt32)), .val (.ref b5), .val (.int (1 : Int32)), .unset, .unset, .unset, .unset, .unset, .unset] [])) _
    refine XS.iload X7.here hx rfl (hb hby at_107) rfl ?_
    show Steps p.tables e below (T7.setTop (mkF m 109 #[.val (.int p1), .val (.int p2), .val (.int p3), .val (.int p4), .val (.int (2 : Int32)), .val (.int (p1.toInt8.toInt32)), .val (.int (p2.toInt8.toInt32)), .val (.int (p3.toInt8.toInt32)), .val (.ref b5), .val (.int (1 : Int32)), .unset, .unset, .unset, .unset, .unset, .unset] [(.int (p1.toInt8.toInt32))])) _
    refine XS.istore X7.here hx rfl (hb hby at_109) rfl (l' := #[.val (.int p1), .val (.int p2), .val (.int p3), .val (.int p4), .val (.int (2 : Int32)), .val (.int (p1.toInt8.toInt32)), .val (.int (p2.toInt8.toInt32)), .val (.int (p3.toInt8.toInt32)), .val (.ref b5), .val (.int (1 : Int32)), .val (.int (p1.toInt8.toInt32)), .unset, .unset, .unset, .unset, .unset]) rfl ?_
    show Steps p.tables e below (T7.setTop (mkF m 111 #[.val (.int p1), .val (.int p2), .val (.int p3), .val (.int p4), .val (.int (2 : Int32)), .val (.int (p1.toInt8.toInt32)), .val (.int (p2.toInt8.toInt32)), .val (.int (p3.toInt8.toInt32)), .val (.ref b5), .val (.int (1 : Int32)), .val (.int (p1.toInt8.toInt32)), .unset, .unset, .unset, .unset, .unset] [])) _
    refine XS.iload X7.here hx rfl (hb hby at_111) rfl ?_
    show Steps p.tables e below (T7.setTop (mkF m 113 #[.val (.int p1), .val (.int p2), .val (.int p3), .val (.int p4), .val (.int (2 : Int32)), .val (.int (p1.toInt8.toInt32)), .val (.int (p2.toInt8.toInt32)), .val (.int (p3.toInt8.toInt32)), .val (.ref b5), .val (.int (1 : Int32)), .val (.int (p1.toInt8.toInt32)), .unset, .unset, .unset, .unset, .unset] [(.int (p2.toInt8.toInt32))])) _
    refine XS.istore X7.here hx rfl (hb hby at_113) rfl (l' := #[.val (.int p1), .val (.int p2), .val (.int p3), .val (.int p4), .val (.int (2 : Int32)), .val (.int (p1.toInt8.toInt32)), .val (.int (p2.toInt8.toInt32)), .val (.int (p3.toInt8.toInt32)), .val (.ref b5), .val (.int (1 : Int32)), .val (.int (p1.toInt8.toInt32)), .val (.int (p2.toInt8.toInt32)), .unset, .unset, .unset, .unset]) rfl ?_
    show Steps p.tables e below (T7.setTop (mkF m 115 #[.val (.int p1), .val (.int p2), .val (.int p3), .val (.int p4), .val (.int (2 : Int32)), .val (.int (p1.toInt8.toInt32)), .val (.int (p2.toInt8.toInt32)), .val (.int (p3.toInt8.toInt32)), .val (.ref b5), .val (.int (1 : Int32)), .val (.int (p1.toInt8.toInt32)), .val (.int (p2.toInt8.toInt32)), .unset, .unset, .unset, .unset] [])) _
    refine XS.iload X7.here hx rfl (hb hby at_115) rfl ?_
    show Steps p.tables e below (T7.setTop (mkF m 117 #[.val (.int p1), .val (.int p2), .val (.int p3), .val (.int p4), .val (.int (2 : Int32)), .val (.int (p1.toInt8.toInt32)), .val (.int (p2.toInt8.toInt32)), .val (.int (p3.toInt8.toInt32)), .val (.ref b5), .val (.int (1 : Int32)), .val (.int (p1.toInt8.toInt32)), .val (.int (p2.toInt8.toInt32)), .unset, .unset, .unset, .unset] [(.int (p3.toInt8.toInt32))])) _
    refine XS.istore X7.here hx rfl (hb hby at_117) rfl (l' := #[.val (.int p1), .val (.int p2), .val (.int p3), .val (.int p4), .val (.int (2 : Int32)), .val (.int (p1.toInt8.toInt32)), .val (.int (p2.toInt8.toInt32)), .val (.int (p3.toInt8.toInt32)), .val (.ref b5), .val (.int (1 : Int32)), .val (.int (p1.toInt8.toInt32)), .val (.int (p2.toInt8.toInt32)), .val (.int (p3.toInt8.toInt32)), .unset, .unset, .unset]) rfl ?_
    show Steps p.tables e below (T7.setTop (mkF m 119 #[.val (.int p1), .val (.int p2), .val (.int p3), .val (.int p4), .val (.int (2 : Int32)), .val (.int (p1.toInt8.toInt32)), .val (.int (p2.toInt8.toInt32)), .val (.int (p3.toInt8.toInt32)), .val (.ref b5), .val (.int (1 : Int32)), .val (.int (p1.toInt8.toInt32)), .val (.int (p2.toInt8.toInt32)), .val (.int (p3.toInt8.toInt32)), .unset, .unset, .unset] [])) _
    refine XS.iload X7.here hx rfl (hb hby at_119) rfl ?_
    show Steps p.tables e below (T7.setTop (mkF m 121 #[.val (.int p1), .val (.int p2), .val (.int p3), .val (.int p4), .val (.int (2 : Int32)), .val (.int (p1.toInt8.toInt32)), .val (.int (p2.toInt8.toInt32)), .val (.int (p3.toInt8.toInt32)), .val (.ref b5), .val (.int (1 : Int32)), .val (.int (p1.toInt8.toInt32)), .val (.int (p2.toInt8.toInt32)), .val (.int (p3.toInt8.toInt32)), .unset, .unset, .unset] [(.int (1 : Int32))])) _
    refine XS.ifYes X7.here hx rfl (pc0 := 121) (pc' := 134) rfl (hb hby at_121) rfl ((if0 _ _).trans (feq (by decide)).2) (by decide) (by decide) ?_
    show Steps p.tables e below (T7.setTop (mkF m 134 #[.val (.int p1), .val (.int p2), .val (.int p3), .val (.int p4), .val (.int (2 : Int32)), .val (.int (p1.toInt8.toInt32)), .val (.int (p2.toInt8.toInt32)), .val (.int (p3.toInt8.toInt32)), .val (.ref b5), .val (.int (1 : Int32)), .val (.int (p1.toInt8.toInt32)), .val (.int (p2.toInt8.toInt32)), .val (.int (p3.toInt8.toInt32)), .unset, .unset, .unset] [])) _
    refine XS.iload X7.here hx rfl (hb hby at_134) rfl ?_
    show Steps p.tables e below (T7.setTop (mkF m 136 #[.val (.int p1), .val (.int p2), .val (.int p3), .val (.int p4), .val (.int (2 : Int32)), .val (.int (p1.toInt8.toInt32)), .val (.int (p2.toInt8.toInt32)), .val (.int (p3.toInt8.toInt32)), .val (.ref b5), .val (.int (1 : Int32)), .val (.int (p1.toInt8.toInt32)), .val (.int (p2.toInt8.toInt32)), .val (.int (p3.toInt8.toInt32)), .unset, .unset, .unset] [(.int (1 : Int32))])) _
    refine XS.iconst X7.here hx rfl (hb hby at_136) ?_
    show Steps p.tables e below (T7.setTop (mkF m 137 #[.val (.int p1), .val (.int p2), .val (.int p3), .val (.int p4), .val (.int (2 : Int32)), .val (.int (p1.toInt8.toInt32)), .val (.int (p2.toInt8.toInt32)), .val (.int (p3.toInt8.toInt32)), .val (.ref b5), .val (.int (1 : Int32)), .val (.int (p1.toInt8.toInt32)), .val (.int (p2.toInt8.toInt32)), .val (.int (p3.toInt8.toInt32)), .unset, .unset, .unset] [(.int (1 : Int32)), (.int (1 : Int32))])) _
    refine XS.icmpNo X7.here hx rfl (hb hby at_137) rfl (teq (rfl : (1 : Int32) = (1 : Int32))).2 ?_
    show Steps p.tables e below (T7.setTop (mkF m 140 #[.val (.int p1), .val (.int p2), .val (.int p3), .val (.int p4), .val (.int (2 : Int32)), .val (.int (p1.toInt8.toInt32)), .val (.int (p2.toInt8.toInt32)), .val (.int (p3.toInt8.toInt32)), .val (.ref b5), .val (.int (1 : Int32)), .val (.int (p1.toInt8.toInt32)), .val (.int (p2.toInt8.toInt32)), .val (.int (p3.toInt8.toInt32)), .unset, .unset, .unset] [])) _
    refine XS.iload X7.here hx rfl (hb hby at_140) rfl ?_
    show Steps p.tables e below (T7.setTop (mkF m 142 #[.val (.int p1), .val (.int p2), .val (.int p3), .val (.int p4), .val (.int (2 : Int32)), .val (.int (p1.toInt8.toInt32)), .val (.int (p2.toInt8.toInt32)), .val (.int (p3.toInt8.toInt32)), .val (.ref b5), .val (.int (1 : Int32)), .val (.int (p1.toInt8.toInt32)), .val (.int (p2.toInt8.toInt32)), .val (.int (p3.toInt8.toInt32)), .unset, .unset, .unset] [(.int (p2.toInt8.toInt32))])) _
    refine XS.iconst X7.here hx rfl (hb hby at_142) ?_
    show Steps p.tables e below (T7.setTop (mkF m 143 #[.val (.int p1), .val (.int p2), .val (.int p3), .val (.int p4), .val (.int (2 : Int32)), .val (.int (p1.toInt8.toInt32)), .val (.int (p2.toInt8.toInt32)), .val (.int (p3.toInt8.toInt32)), .val (.ref b5), .val (.int (1 : Int32)), .val (.int (p1.toInt8.toInt32)), .val (.int (p2.toInt8.toInt32)), .val (.int (p3.toInt8.toInt32)), .unset, .unset, .unset] [(.int (1 : Int32)), (.int (p2.toInt8.toInt32))])) _
    refine XS.iadd X7.here hx rfl (hb hby at_143) rfl ?_
    show Steps p.tables e below (T7.setTop (mkF m 144 #[.val (.int p1), .val (.int p2), .val (.int p3), .val (.int p4), .val (.int (2 : Int32)), .val (.int (p1.toInt8.toInt32)), .val (.int (p2.toInt8.toInt32)), .val (.int (p3.toInt8.toInt32)), .val (.ref b5), .val (.int (1 : Int32)), .val (.int (p1.toInt8.toInt32)), .val (.int (p2.toInt8.toInt32)), .val (.int (p3.toInt8.toInt32)), .unset, .unset, .unset] [(.int ((p2.toInt8.toInt32) + (1 : Int32)))])) _
    refine XS.i2b X7.here hx rfl (hb hby at_144) rfl ?_
    show Steps p.tables e below (T7.setTop (mkF m 145 #[.val (.int p1), .val (.int p2), .val (.int p3), .val (.int p4), .val (.int (2 : Int32)), .val (.int (p1.toInt8.toInt32)), .val (.int (p2.toInt8.toInt32)), .val (.int (p3.toInt8.toInt32)), .val (.ref b5), .val (.int (1 : Int32)), .val (.int (p1.toInt8.toInt32)), .val (.int (p2.toInt8.toInt32)), .val (.int (p3.toInt8.toInt32)), .unset, .unset, .unset] [(.int (((p2.toInt8.toInt32) + (1 : Int32)).toInt8.toInt32))])) _
    refine XS.istore X7.here hx rfl (hb hby at_145) rfl (l' := #[.val (.int p1), .val (.int p2), .val (.int p3), .val (.int p4), .val (.int (2 : Int32)), .val (.int (p1.toInt8.toInt32)), .val (.int (p2.toInt8.toInt32)), .val (.int (p3.toInt8.toInt32)), .val (.ref b5), .val (.int (1 : Int32)), .val (.int (p1.toInt8.toInt32)), .val (.int (((p2.toInt8.toInt32) + (1 : Int32)).toInt8.toInt32)), .val (.int (p3.toInt8.toInt32)), .unset, .unset, .unset]) rfl ?_
    show Steps p.tables e below (T7.setTop (mkF m 147 #[.val (.int p1), .val (.int p2), .val (.int p3), .val (.int p4), .val (.int (2 : Int32)), .val (.int (p1.toInt8.toInt32)), .val (.int (p2.toInt8.toInt32)), .val (.int (p3.toInt8.toInt32)), .val (.ref b5), .val (.int (1 : Int32)), .val (.int (p1.toInt8.toInt32)), .val (.int (((p2.toInt8.toInt32) + (1 : Int32)).toInt8.toInt32)), .val (.int (p3.toInt8.toInt32)), .unset, .unset, .unset] [])) _
    refine XS.goto X7.here hx rfl (pc0 := 147) (pc' := 157) rfl (hb hby at_147) (by decide) (by decide) ?_
    show Steps p.tables e below (T7.setTop (mkF m 157 #[.val (.int p1), .val (.int p2), .val (.int p3), .val (.int p4), .val (.int (2 : Int32)), .val (.int (p1.toInt8.toInt32)), .val (.int (p2.toInt8.toInt32)), .val (.int (p3.toInt8.toInt32)), .val (.ref b5), .val (.int (1 : Int32)), .val (.int (p1.toInt8.toInt32)), .val (.int (((p2.toInt8.toInt32) + (1 : Int32)).toInt8.toInt32)), .val (.int (p3.toInt8.toInt32)), .unset, .unset, .unset] [])) _
    refine XS.aload X7.here hx rfl (hb hby at_157) rfl rfl ?_
    show Steps p.tables e below (T7.setTop (mkF m 159 #[.val (.int p1), .val (.int p2), .val (.int p3), .val (.int p4), .val (.int (2 : Int32)), .val (.int (p1.toInt8.toInt32)), .val (.int (p2.toInt8.toInt32)), .val (.int (p3.toInt8.toInt32)), .val (.ref b5), .val (.int (1 : Int32)), .val (.int (p1.toInt8.toInt32)), .val (.int (((p2.toInt8.toInt32) + (1 : Int32)).toInt8.toInt32)), .val (.int (p3.toInt8.toInt32)), .unset, .unset, .unset] [(.ref b5)])) _
    refine st8 _ ?_
    show Steps p.tables e below (T8.setTop (mkF m 162 #[.val (.int p1), .val (.int p2), .val (.int p3), .val (.int p4), .val (.int (2 : Int32)), .val (.int (p1.toInt8.toInt32)), .val (.int (p2.toInt8.toInt32)), .val (.int (p3.toInt8.toInt32)), .val (.ref b5), .val (.int (1 : Int32)), .val (.int (p1.toInt8.toInt32)), .val (.int (((p2.toInt8.toInt32) + (1 : Int32)).toInt8.toInt32)), .val (.int (p3.toInt8.toInt32)), .unset, .unset, .unset] [(.ref r)])) _
    refine XS.astore X8.here hx rfl (hb hby at_162) rfl rfl (l' := #[.val (.int p1), .val (.int p2), .val (.int p3), .val (.int p4), .val (.int (2 : Int32)), .val (.int (p1.toInt8.toInt32)), .val (.int (p2.toInt8.toInt32)), .val (.int (p3.toInt8.toInt32)), .val (.ref b5), .val (.int (1 : Int32)), .val (.int (p1.toInt8.toInt32)), .val (.int (((p2.toInt8.toInt32) + (1 : Int32)).toInt8.toInt32)), .val (.int (p3.toInt8.toInt32)), .val (.ref r), .unset, .unset]) rfl ?_
    show Steps p.tables e below (T8.setTop (mkF m 164 #[.val (.int p1), .val (.int p2), .val (.int p3), .val (.int p4), .val (.int (2 : Int32)), .val (.int (p1.toInt8.toInt32)), .val (.int (p2.toInt8.toInt32)), .val (.int (p3.toInt8.toInt32)), .val (.ref b5), .val (.int (1 : Int32)), .val (.int (p1.toInt8.toInt32)), .val (.int (((p2.toInt8.toInt32) + (1 : Int32)).toInt8.toInt32)), .val (.int (p3.toInt8.toInt32)), .val (.ref r), .unset, .unset] [])) _
    refine XS.aload X8.here hx rfl (hb hby at_164) rfl rfl ?_
    show Steps p.tables e below (T8.setTop (mkF m 166 #[.val (.int p1), .val (.int p2), .val (.int p3), .val (.int p4), .val (.int (2 : Int32)), .val (.int (p1.toInt8.toInt32)), .val (.int (p2.toInt8.toInt32)), .val (.int (p3.toInt8.toInt32)), .val (.ref b5), .val (.int (1 : Int32)), .val (.int (p1.toInt8.toInt32)), .val (.int (((p2.toInt8.toInt32) + (1 : Int32)).toInt8.toInt32)), .val (.int (p3.toInt8.toInt32)), .val (.ref r), .unset, .unset] [(.ref r)])) _
    refine st9.trans ?_
    show Steps p.tables e below (T9.setTop (mkF m 169 #[.val (.int p1), .val (.int p2), .val (.int p3), .val (.int p4), .val (.int (2 : Int32)), .val (.int (p1.toInt8.toInt32)), .val (.int (p2.toInt8.toInt32)), .val (.int (p3.toInt8.toInt32)), .val (.ref b5), .val (.int (1 : Int32)), .val (.int (p1.toInt8.toInt32)), .val (.int (((p2.toInt8.toInt32) + (1 : Int32)).toInt8.toInt32)), .val (.int (p3.toInt8.toInt32)), .val (.ref r), .unset, .unset] [(.ref b5)])) _
    refine XS.astore X9.here hx rfl (hb hby at_169) rfl rfl (l' := #[.val (.int p1), .val (.int p2), .val (.int p3), .val (.int p4), .val (.int (2 : Int32)), .val (.int (p1.toInt8.toInt32)), .val (.int (p2.toInt8.toInt32)), .val (.int (p3.toInt8.toInt32)), .val (.ref b5), .val (.int (1 : Int32)), .val (.int (p1.toInt8.toInt32)), .val (.int (((p2.toInt8.toInt32) + (1 : Int32)).toInt8.toInt32)), .val (.int (p3.toInt8.toInt32)), .val (.ref r), .val (.ref b5), .unset]) rfl ?_
    show Steps p.tables e below (T9.setTop (mkF m 171 #[.val (.int p1), .val (.int p2), .val (.int p3), .val (.int p4), .val (.int (2 : Int32)), .val (.int (p1.toInt8.toInt32)), .val (.int (p2.toInt8.toInt32)), .val (.int (p3.toInt8.toInt32)), .val (.ref b5), .val (.int (1 : Int32)), .val (.int (p1.toInt8.toInt32)), .val (.int (((p2.toInt8.toInt32) + (1 : Int32)).toInt8.toInt32)), .val (.int (p3.toInt8.toInt32)), .val (.ref r), .val (.ref b5), .unset] [])) _
    refine XS.aload X9.here hx rfl (hb hby at_171) rfl rfl ?_
    show Steps p.tables e below (T9.setTop (mkF m 173 #[.val (.int p1), .val (.int p2), .val (.int p3), .val (.int p4), .val (.int (2 : Int32)), .val (.int (p1.toInt8.toInt32)), .val (.int (p2.toInt8.toInt32)), .val (.int (p3.toInt8.toInt32)), .val (.ref b5), .val (.int (1 : Int32)), .val (.int (p1.toInt8.toInt32)), .val (.int (((p2.toInt8.toInt32) + (1 : Int32)).toInt8.toInt32)), .val (.int (p3.toInt8.toInt32)), .val (.ref r), .val (.ref b5), .unset] [(.ref r)])) _
    refine st10.trans ?_
    show Steps p.tables e below (T10.setTop (mkF m 176 #[.val (.int p1), .val (.int p2), .val (.int p3), .val (.int p4), .val (.int (2 : Int32)), .val (.int (p1.toInt8.toInt32)), .val (.int (p2.toInt8.toInt32)), .val (.int (p3.toInt8.toInt32)), .val (.ref b5), .val (.int (1 : Int32)), .val (.int (p1.toInt8.toInt32)), .val (.int (((p2.toInt8.toInt32) + (1 : Int32)).toInt8.toInt32)), .val (.int (p3.toInt8.toInt32)), .val (.ref r), .val (.ref b5), .unset] [(.ref ub)])) _
    refine XS.astore X10.here hx rfl (hb hby at_176) rfl rfl (l' := #[.val (.int p1), .val (.int p2), .val (.int p3), .val (.int p4), .val (.int (2 : Int32)), .val (.int (p1.toInt8.toInt32)), .val (.int (p2.toInt8.toInt32)), .val (.int (p3.toInt8.toInt32)), .val (.ref b5), .val (.int (1 : Int32)), .val (.int (p1.toInt8.toInt32)), .val (.int (((p2.toInt8.toInt32) + (1 : Int32)).toInt8.toInt32)), .val (.int (p3.toInt8.toInt32)), .val (.ref r), .val (.ref b5), .val (.ref ub)]) rfl ?_
    show Steps p.tables e below (T10.setTop (mkF m 178 #[.val (.int p1), .val (.int p2), .val (.int p3), .val (.int p4), .val (.int (2 : Int32)), .val (.int (p1.toInt8.toInt32)), .val (.int (p2.toInt8.toInt32)), .val (.int (p3.toInt8.toInt32)), .val (.ref b5), .val (.int (1 : Int32)), .val (.int (p1.toInt8.toInt32)), .val (.int (((p2.toInt8.toInt32) + (1 : Int32)).toInt8.toInt32)), .val (.int (p3.toInt8.toInt32)), .val (.ref r), .val (.ref b5), .val (.ref ub)] [])) _
    refine XS.aload X10.here hx rfl (hb hby at_178) rfl rfl ?_
    show Steps p.tables e below (T10.setTop (mkF m 180 #[.val (.int p1), .val (.int p2), .val (.int p3), .val (.int p4), .val (.int (2 : Int32)), .val (.int (p1.toInt8.toInt32)), .val (.int (p2.toInt8.toInt32)), .val (.int (p3.toInt8.toInt32)), .val (.ref b5), .val (.int (1 : Int32)), .val (.int (p1.toInt8.toInt32)), .val (.int (((p2.toInt8.toInt32) + (1 : Int32)).toInt8.toInt32)), .val (.int (p3.toInt8.toInt32)), .val (.ref r), .val (.ref b5), .val (.ref ub)] [(.ref b5)])) _
    refine XS.iload X10.here hx rfl (hb hby at_180) rfl ?_
    show Steps p.tables e below (T10.setTop (mkF m 182 #[.val (.int p1), .val (.int p2), .val (.int p3), .val (.int p4), .val (.int (2 : Int32)), .val (.int (p1.toInt8.toInt32)), .val (.int (p2.toInt8.toInt32)), .val (.int (p3.toInt8.toInt32)), .val (.ref b5), .val (.int (1 : Int32)), .val (.int (p1.toInt8.toInt32)), .val (.int (((p2.toInt8.toInt32) + (1 : Int32)).toInt8.toInt32)), .val (.int (p3.toInt8.toInt32)), .val (.ref r), .val (.ref b5), .val (.ref ub)] [(.int (2 : Int32)), (.ref b5)])) _
    refine XS.iload X10.here hx rfl (hb hby at_182) rfl ?_
    show Steps p.tables e below (T10.setTop (mkF m 184 #[.val (.int p1), .val (.int p2), .val (.int p3), .val (.int p4), .val (.int (2 : Int32)), .val (.int (p1.toInt8.toInt32)), .val (.int (p2.toInt8.toInt32)), .val (.int (p3.toInt8.toInt32)), .val (.ref b5), .val (.int (1 : Int32)), .val (.int (p1.toInt8.toInt32)), .val (.int (((p2.toInt8.toInt32) + (1 : Int32)).toInt8.toInt32)), .val (.int (p3.toInt8.toInt32)), .val (.ref r), .val (.ref b5), .val (.ref ub)] [(.int (p1.toInt8.toInt32)), (.int (2 : Int32)), (.ref b5)])) _
    refine XS.iload X10.here hx rfl (hb hby at_184) rfl ?_
    show Steps p.tables e below (T10.setTop (mkF m 186 #[.val (.int p1), .val (.int p2), .val (.int p3), .val (.int p4), .val (.int (2 : Int32)), .val (.int (p1.toInt8.toInt32)), .val (.int (p2.toInt8.toInt32)), .val (.int (p3.toInt8.toInt32)), .val (.ref b5), .val (.int (1 : Int32)), .val (.int (p1.toInt8.toInt32)), .val (.int (((p2.toInt8.toInt32) + (1 : Int32)).toInt8.toInt32)), .val (.int (p3.toInt8.toInt32)), .val (.ref r), .val (.ref b5), .val (.ref ub)] [(.int (p2.toInt8.toInt32)), (.int (p1.toInt8.toInt32)), (.int (2 : Int32)), (.ref b5)])) _
    refine XS.iload X10.here hx rfl (hb hby at_186) rfl ?_
    show Steps p.tables e below (T10.setTop (mkF m 188 #[.val (.int p1), .val (.int p2), .val (.int p3), .val (.int p4), .val (.int (2 : Int32)), .val (.int (p1.toInt8.toInt32)), .val (.int (p2.toInt8.toInt32)), .val (.int (p3.toInt8.toInt32)), .val (.ref b5), .val (.int (1 : Int32)), .val (.int (p1.toInt8.toInt32)), .val (.int (((p2.toInt8.toInt32) + (1 : Int32)).toInt8.toInt32)), .val (.int (p3.toInt8.toInt32)), .val (.ref r), .val (.ref b5), .val (.ref ub)] [(.int (p3.toInt8.toInt32)), (.int (p2.toInt8.toInt32)), (.int (p1.toInt8.toInt32)), (.int (2 : Int32)), (.ref b5)])) _
    refine st11 _ ?_
    show Steps p.tables e below (T11.setTop (mkF m 191 #[.val (.int p1), .val (.int p2), .val (.int p3), .val (.int p4), .val (.int (2 : Int32)), .val (.int (p1.toInt8.toInt32)), .val (.int (p2.toInt8.toInt32)), .val (.int (p3.toInt8.toInt32)), .val (.ref b5), .val (.int (1 : Int32)), .val (.int (p1.toInt8.toInt32)), .val (.int (((p2.toInt8.toInt32) + (1 : Int32)).toInt8.toInt32)), .val (.int (p3.toInt8.toInt32)), .val (.ref r), .val (.ref b5), .val (.ref ub)] [(.int (1 : Int32))])) _
    refine XS.ifNo X11.here hx rfl (hb hby at_191) rfl ((if0 _ _).trans (feq (by decide : ¬ ((1 : Int32) = (0 : Int32)))).1) ?_
    show Steps p.tables e below (T11.setTop (mkF m 194 #[.val (.int p1), .val (.int p2), .val (.int p3), .val (.int p4), .val (.int (2 : Int32)), .val (.int (p1.toInt8.toInt32)), .val (.int (p2.toInt8.toInt32)), .val (.int (p3.toInt8.toInt32)), .val (.ref b5), .val (.int (1 : Int32)), .val (.int (p1.toInt8.toInt32)), .val (.int (((p2.toInt8.toInt32) + (1 : Int32)).toInt8.toInt32)), .val (.int (p3.toInt8.toInt32)), .val (.ref r), .val (.ref b5), .val (.ref ub)] [])) _
    refine XS.aload X11.here hx rfl (hb hby at_194) rfl rfl ?_
    show Steps p.tables e below (T11.setTop (mkF m 196 #[.val (.int p1), .val (.int p2), .val (.int p3), .val (.int p4), .val (.int (2 : Int32)), .val (.int (p1.toInt8.toInt32)), .val (.int (p2.toInt8.toInt32)), .val (.int (p3.toInt8.toInt32)), .val (.ref b5), .val (.int (1 : Int32)), .val (.int (p1.toInt8.toInt32)), .val (.int (((p2.toInt8.toInt32) + (1 : Int32)).toInt8.toInt32)), .val (.int (p3.toInt8.toInt32)), .val (.ref r), .val (.ref b5), .val (.ref ub)] [(.ref b5)])) _
    refine XS.iload X11.here hx rfl (hb hby at_196) rfl ?_
    show Steps p.tables e below (T11.setTop (mkF m 198 #[.val (.int p1), .val (.int p2), .val (.int p3), .val (.int p4), .val (.int (2 : Int32)), .val (.int (p1.toInt8.toInt32)), .val (.int (p2.toInt8.toInt32)), .val (.int (p3.toInt8.toInt32)), .val (.ref b5), .val (.int (1 : Int32)), .val (.int (p1.toInt8.toInt32)), .val (.int (((p2.toInt8.toInt32) + (1 : Int32)).toInt8.toInt32)), .val (.int (p3.toInt8.toInt32)), .val (.ref r), .val (.ref b5), .val (.ref ub)] [(.int (2 : Int32)), (.ref b5)])) _
    refine XS.iload X11.here hx rfl (hb hby at_198) rfl ?_
    show Steps p.tables e below (T11.setTop (mkF m 200 #[.val (.int p1), .val (.int p2), .val (.int p3), .val (.int p4), .val (.int (2 : Int32)), .val (.int (p1.toInt8.toInt32)), .val (.int (p2.toInt8.toInt32)), .val (.int (p3.toInt8.toInt32)), .val (.ref b5), .val (.int (1 : Int32)), .val (.int (p1.toInt8.toInt32)), .val (.int (((p2.toInt8.toInt32) + (1 : Int32)).toInt8.toInt32)), .val (.int (p3.toInt8.toInt32)), .val (.ref r), .val (.ref b5), .val (.ref ub)] [(.int (p1.toInt8.toInt32)), (.int (2 : Int32)), (.ref b5)])) _
    refine XS.iload X11.here hx rfl (hb hby at_200) rfl ?_
    show Steps p.tables e below (T11.setTop (mkF m 202 #[.val (.int p1), .val (.int p2), .val (.int p3), .val (.int p4), .val (.int (2 : Int32)), .val (.int (p1.toInt8.toInt32)), .val (.int (p2.toInt8.toInt32)), .val (.int (p3.toInt8.toInt32)), .val (.ref b5), .val (.int (1 : Int32)), .val (.int (p1.toInt8.toInt32)), .val (.int (((p2.toInt8.toInt32) + (1 : Int32)).toInt8.toInt32)), .val (.int (p3.toInt8.toInt32)), .val (.ref r), .val (.ref b5), .val (.ref ub)] [(.int (p2.toInt8.toInt32)), (.int (p1.toInt8.toInt32)), (.int (2 : Int32)), (.ref b5)])) _
    refine XS.iload X11.here hx rfl (hb hby at_202) rfl ?_
    show Steps p.tables e below (T11.setTop (mkF m 204 #[.val (.int p1), .val (.int p2), .val (.int p3), .val (.int p4), .val (.int (2 : Int32)), .val (.int (p1.toInt8.toInt32)), .val (.int (p2.toInt8.toInt32)), .val (.int (p3.toInt8.toInt32)), .val (.ref b5), .val (.int (1 : Int32)), .val (.int (p1.toInt8.toInt32)), .val (.int (((p2.toInt8.toInt32) + (1 : Int32)).toInt8.toInt32)), .val (.int (p3.toInt8.toInt32)), .val (.ref r), .val (.ref b5), .val (.ref ub)] [(.int (p3.toInt8.toInt32)), (.int (p2.toInt8.toInt32)), (.int (p1.toInt8.toInt32)), (.int (2 : Int32)), (.ref b5)])) _
    refine st12 _ ?_
    show Steps p.tables e below (T12.setTop (mkF m 207 #[.val (.int p1), .val (.int p2), .val (.int p3), .val (.int p4), .val (.int (2 : Int32)), .val (.int (p1.toInt8.toInt32)), .val (.int (p2.toInt8.toInt32)), .val (.int (p3.toInt8.toInt32)), .val (.ref b5), .val (.int (1 : Int32)), .val (.int (p1.toInt8.toInt32)), .val (.int (((p2.toInt8.toInt32) + (1 : Int32)).toInt8.toInt32)), .val (.int (p3.toInt8.toInt32)), .val (.ref r), .val (.ref b5), .val (.ref ub)] [(.int (1 : Int32))])) _
    refine XS.ifNo X12.here hx rfl (hb hby at_207) rfl ((if0 _ _).trans (feq (by decide : ¬ ((1 : Int32) = (0 : Int32)))).1) ?_
    show Steps p.tables e below (T12.setTop (mkF m 210 #[.val (.int p1), .val (.int p2), .val (.int p3), .val (.int p4), .val (.int (2 : Int32)), .val (.int (p1.toInt8.toInt32)), .val (.int (p2.toInt8.toInt32)), .val (.int (p3.toInt8.toInt32)), .val (.ref b5), .val (.int (1 : Int32)), .val (.int (p1.toInt8.toInt32)), .val (.int (((p2.toInt8.toInt32) + (1 : Int32)).toInt8.toInt32)), .val (.int (p3.toInt8.toInt32)), .val (.ref r), .val (.ref b5), .val (.ref ub)] [])) _
    refine XS.aload X12.here hx rfl (hb hby at_210) rfl rfl ?_
    show Steps p.tables e below (T12.setTop (mkF m 212 #[.val (.int p1), .val (.int p2), .val (.int p3), .val (.int p4), .val (.int (2 : Int32)), .val (.int (p1.toInt8.toInt32)), .val (.int (p2.toInt8.toInt32)), .val (.int (p3.toInt8.toInt32)), .val (.ref b5), .val (.int (1 : Int32)), .val (.int (p1.toInt8.toInt32)), .val (.int (((p2.toInt8.toInt32) + (1 : Int32)).toInt8.toInt32)), .val (.int (p3.toInt8.toInt32)), .val (.ref r), .val (.ref b5), .val (.ref ub)] [(.ref ub)])) _
    refine XS.iload X12.here hx rfl (hb hby at_212) rfl ?_
    show Steps p.tables e below (T12.setTop (mkF m 214 #[.val (.int p1), .val (.int p2), .val (.int p3), .val (.int p4), .val (.int (2 : Int32)), .val (.int (p1.toInt8.toInt32)), .val (.int (p2.toInt8.toInt32)), .val (.int (p3.toInt8.toInt32)), .val (.ref b5), .val (.int (1 : Int32)), .val (.int (p1.toInt8.toInt32)), .val (.int (((p2.toInt8.toInt32) + (1 : Int32)).toInt8.toInt32)), .val (.int (p3.toInt8.toInt32)), .val (.ref r), .val (.ref b5), .val (.ref ub)] [(.int (1 : Int32)), (.ref ub)])) _
    refine XS.iconst X12.here hx rfl (hb hby at_214) ?_
    show Steps p.tables e below (T12.setTop (mkF m 215 #[.val (.int p1), .val (.int p2), .val (.int p3), .val (.int p4), .val (.int (2 : Int32)), .val (.int (p1.toInt8.toInt32)), .val (.int (p2.toInt8.toInt32)), .val (.int (p3.toInt8.toInt32)), .val (.ref b5), .val (.int (1 : Int32)), .val (.int (p1.toInt8.toInt32)), .val (.int (((p2.toInt8.toInt32) + (1 : Int32)).toInt8.toInt32)), .val (.int (p3.toInt8.toInt32)), .val (.ref r), .val (.ref b5), .val (.ref ub)] [(.int (1 : Int32)), (.int (1 : Int32)), (.ref ub)])) _
    refine XS.iadd X12.here hx rfl (hb hby at_215) rfl ?_
    show Steps p.tables e below (T12.setTop (mkF m 216 #[.val (.int p1), .val (.int p2), .val (.int p3), .val (.int p4), .val (.int (2 : Int32)), .val (.int (p1.toInt8.toInt32)), .val (.int (p2.toInt8.toInt32)), .val (.int (p3.toInt8.toInt32)), .val (.ref b5), .val (.int (1 : Int32)), .val (.int (p1.toInt8.toInt32)), .val (.int (((p2.toInt8.toInt32) + (1 : Int32)).toInt8.toInt32)), .val (.int (p3.toInt8.toInt32)), .val (.ref r), .val (.ref b5), .val (.ref ub)] [(.int ((1 : Int32) + (1 : Int32))), (.ref ub)])) _
    refine XS.iload X12.here hx rfl (hb hby at_216) rfl ?_
    show Steps p.tables e below (T12.setTop (mkF m 218 #[.val (.int p1), .val (.int p2), .val (.int p3), .val (.int p4), .val (.int (2 : Int32)), .val (.int (p1.toInt8.toInt32)), .val (.int (p2.toInt8.toInt32)), .val (.int (p3.toInt8.toInt32)), .val (.ref b5), .val (.int (1 : Int32)), .val (.int (p1.toInt8.toInt32)), .val (.int (((p2.toInt8.toInt32) + (1 : Int32)).toInt8.toInt32)), .val (.int (p3.toInt8.toInt32)), .val (.ref r), .val (.ref b5), .val (.ref ub)] [(.int (p1.toInt8.toInt32)), (.int ((1 : Int32) + (1 : Int32))), (.ref ub)])) _
    refine XS.iload X12.here hx rfl (hb hby at_218) rfl ?_
    show Steps p.tables e below (T12.setTop (mkF m 220 #[.val (.int p1), .val (.int p2), .val (.int p3), .val (.int p4), .val (.int (2 : Int32)), .val (.int (p1.toInt8.toInt32)), .val (.int (p2.toInt8.toInt32)), .val (.int (p3.toInt8.toInt32)), .val (.ref b5), .val (.int (1 : Int32)), .val (.int (p1.toInt8.toInt32)), .val (.int (((p2.toInt8.toInt32) + (1 : Int32)).toInt8.toInt32)), .val (.int (p3.toInt8.toInt32)), .val (.ref r), .val (.ref b5), .val (.ref ub)] [(.int (((p2.toInt8.toInt32) + (1 : Int32)).toInt8.toInt32)), (.int (p1.toInt8.toInt32)), (.int ((1 : Int32) + (1 : Int32))), (.ref ub)])) _
    refine XS.iload X12.here hx rfl (hb hby at_220) rfl ?_
    show Steps p.tables e below (T12.setTop (mkF m 222 #[.val (.int p1), .val (.int p2), .val (.int p3), .val (.int p4), .val (.int (2 : Int32)), .val (.int (p1.toInt8.toInt32)), .val (.int (p2.toInt8.toInt32)), .val (.int (p3.toInt8.toInt32)), .val (.ref b5), .val (.int (1 : Int32)), .val (.int (p1.toInt8.toInt32)), .val (.int (((p2.toInt8.toInt32) + (1 : Int32)).toInt8.toInt32)), .val (.int (p3.toInt8.toInt32)), .val (.ref r), .val (.ref b5), .val (.ref ub)] [(.int (p3.toInt8.toInt32)), (.int (((p2.toInt8.toInt32) + (1 : Int32)).toInt8.toInt32)), (.int (p1.toInt8.toInt32)), (.int ((1 : Int32) + (1 : Int32))), (.ref ub)])) _
    refine st13 _ ?_
    show Steps p.tables e below (T13.setTop (mkF m 225 #[.val (.int p1), .val (.int p2), .val (.int p3), .val (.int p4), .val (.int (2 : Int32)), .val (.int (p1.toInt8.toInt32)), .val (.int (p2.toInt8.toInt32)), .val (.int (p3.toInt8.toInt32)), .val (.ref b5), .val (.int (1 : Int32)), .val (.int (p1.toInt8.toInt32)), .val (.int (((p2.toInt8.toInt32) + (1 : Int32)).toInt8.toInt32)), .val (.int (p3.toInt8.toInt32)), .val (.ref r), .val (.ref b5), .val (.ref ub)] [(.int (1 : Int32))])) _
    refine XS.ifNo X13.here hx rfl (hb hby at_225) rfl ((if0 _ _).trans (feq (by decide : ¬ ((1 : Int32) = (0 : Int32)))).1) ?_
    show Steps p.tables e below (T13.setTop (mkF m 228 #[.val (.int p1), .val (.int p2), .val (.int p3), .val (.int p4), .val (.int (2 : Int32)), .val (.int (p1.toInt8.toInt32)), .val (.int (p2.toInt8.toInt32)), .val (.int (p3.toInt8.toInt32)), .val (.ref b5), .val (.int (1 : Int32)), .val (.int (p1.toInt8.toInt32)), .val (.int (((p2.toInt8.toInt32) + (1 : Int32)).toInt8.toInt32)), .val (.int (p3.toInt8.toInt32)), .val (.ref r), .val (.ref b5), .val (.ref ub)] [])) _
    refine XS.iconst X13.here hx rfl (hb hby at_228) ?_
    show Steps p.tables e below (T13.setTop (mkF m 229 #[.val (.int p1), .val (.int p2), .val (.int p3), .val (.int p4), .val (.int (2 : Int32)), .val (.int (p1.toInt8.toInt32)), .val (.int (p2.toInt8.toInt32)), .val (.int (p3.toInt8.toInt32)), .val (.ref b5), .val (.int (1 : Int32)), .val (.int (p1.toInt8.toInt32)), .val (.int (((p2.toInt8.toInt32) + (1 : Int32)).toInt8.toInt32)), .val (.int (p3.toInt8.toInt32)), .val (.ref r), .val (.ref b5), .val (.ref ub)] [(.int (1 : Int32))])) _
    refine XS.goto X13.here hx rfl (pc0 := 229) (pc' := 233) rfl (hb hby at_229) (by decide) (by decide) ?_
    show Steps p.tables e below (T13.setTop (mkF m 233 #[.val (.int p1), .val (.int p2), .val (.int p3), .val (.int p4), .val (.int (2 : Int32)), .val (.int (p1.toInt8.toInt32)), .val (.int (p2.toInt8.toInt32)), .val (.int (p3.toInt8.toInt32)), .val (.ref b5), .val (.int (1 : Int32)), .val (.int (p1.toInt8.toInt32)), .val (.int (((p2.toInt8.toInt32) + (1 : Int32)).toInt8.toInt32)), .val (.int (p3.toInt8.toInt32)), .val (.ref r), .val (.ref b5), .val (.ref ub)] [(.int (1 : Int32))])) _
    exact retN X13 hx (t := .boolean) Bd.returns (by simp) (hb hby at_233) hr
  · show Q0 h0 n0 _ T13.heap _
    exact ⟨rfl, N13⟩

set_option maxRecDepth 65536 in
set_option maxHeartbeats 40000000 in
theorem rm0_20 (l : Launch) (Z : State) (a0 : Array Value) (hw : ∀ d ∈ tables_1, d.before a0 Z = true) (ws : List Jvm.Cond) (p1 : Int32) (p2 : Int32) (p3 : Int32) (p4 : Int32) (h0 : Heap) (n0 : Nat) (Z0 : n0 ≤ h0.size) (hlen : ((1 : Int32) + ((p4 &&& (3 : Int32)) % (3 : Int32))) = (2 : Int32)) (m1 : (p2.toInt8.toInt32) = (-1 : Int32)) (nk0 : ¬ ((p1.toInt8.toInt32) = (-1 : Int32))) :
    MetFree l x (head1 (Jvm.Cond.code x code maxLocals ret :: ws) room_1) (fun a U => a = #[(.int p1), (.int p2), (.int p3), (.int p4)] ∧ Z.Warmed39 U.vm ∧ U.heap = h0) (fun _ _ _ _ _ => True) (fun _ U o U' => ∃ v L, o = .returned v ∧ Q0 h0 n0 v U'.heap L ∧ FrameEnd U o U' L room_1.cells room_1.slots) := by
  refine MetFree.of_bodySF (plainFor_of_name pn_0) hisR ?_
  intro p e s m args below meth c s₁ Bd hml0 hP hK
  obtain ⟨rfl, hZ, hh⟩ := hP
  have hx := Bd.exec
  have hby := Bd.bytes
  have hml : c.maxLocals = 16 := hml0
  have hown : s.vm.findClass "com/example/coord2/coord2/KeyRangePrefixPinLaw" = some m.cls := findClass_of_methodNamed Bd.named
  have hnm := (name_of_methodNamed Bd.named Bd.method).1
  have X0 : Stand p l e room_1 s m #[(.int p1), (.int p2), (.int p3), (.int p4)] below meth c s₁ [] 0 0 := Stand.of_body Bd
  have e0 : s₁.heap = h0 := by rw [← hh, Bd.state]; rfl
  have N0 := Fr.nil n0
  have pre0 : ∀ t, Steps p.tables e below (s₁.setTop (mkF m 0 #[.val (.int p1), .val (.int p2), .val (.int p3), .val (.int p4), .unset, .unset, .unset, .unset, .unset, .unset, .unset, .unset, .unset, .unset, .unset, .unset] [])) t → Steps p.tables e below (s₁.setTop (entryFrame m #[(.int p1), (.int p2), (.int p3), (.int p4)] maxLocals)) t := fun t k => castTop (ef_0 m p1 p2 p3 p4) k
  obtain ⟨T5, h5, k5, X5, e5, E5, A5, EA5, st5⟩ := newPE X0 hx hZ (hw _ (List.mem_of_getElem? (i := 0) rfl)) e0 (g := (mkF m 23 #[.val (.int p1), .val (.int p2), .val (.int p3), .val (.int p4), .val (.int (2 : Int32)), .val (.int (p1.toInt8.toInt32)), .val (.int (p2.toInt8.toInt32)), .val (.int (p3.toInt8.toInt32)), .unset, .unset, .unset, .unset, .unset, .unset, .unset, .unset] [(.int (2 : Int32))])) rfl (hb hby at_23) rfl (by decide) (cap := 3) (by decide) (by decide) (by decide) (by decide) (ad := "[B") rfl
  obtain ⟨b5, g5⟩ : ∃ z, z = h0.size := ⟨_, rfl⟩
  rw [← g5] at A5 EA5 st5
  have V_b5 : Arv Z h5 b5 k5 .byte (2 : Int32) [(.int (0 : Int32)), (.int (0 : Int32))] (.int (0 : Int32)) := (Arv.new A5 (by decide)).pad (pad_rep [] (.int (0 : Int32)) 2)
  have g_b5 : n0 ≤ b5 := Nat.le_trans Z0 (Nat.le_of_eq g5.symm)
  have sz_b5 : h0.size ≤ b5 := (Nat.le_trans (Keep.refl h0 []).1 (Nat.le_of_eq g5.symm))
  have K5 : Keep h0 h5 [] := (Keep.refl h0 []).ext E5
  obtain ⟨cl_b5_32, Ar_b5, q_b5, S_b5, N_b5, H_b5, G_b5⟩ := V_b5
  have hin32 : ¬ ((0 : Int32) < 0 ∨ cl_b5_32.slots.size ≤ ((0 : Int32)).toNatClampNeg) := inb_of S_b5 ⟨by decide, by decide⟩
  obtain ⟨T6, h6, X6, e6, W6, st6⟩ := stB X5 hx hZ e5 Ar_b5 (j := (0 : Int32)) hin32 (g := (mkF m 32 #[.val (.int p1), .val (.int p2), .val (.int p3), .val (.int p4), .val (.int (2 : Int32)), .val (.int (p1.toInt8.toInt32)), .val (.int (p2.toInt8.toInt32)), .val (.int (p3.toInt8.toInt32)), .val (.ref b5), .unset, .unset, .unset, .unset, .unset, .unset, .unset] [(.int (p1.toInt8.toInt32)), (.int (0 : Int32)), (.ref b5)])) rfl rfl (hb hby at_32)
  have V_b5_6 := Arv.set Ar_b5 q_b5 S_b5 N_b5 H_b5 G_b5 (fits_nar_byte _) W6 0 rfl (Nat.le_of_ble_eq_true rfl)
  have K6 : Keep h0 h6 [] := K5.wr W6 (Or.inr sz_b5)
  have N6 := Fr.snoc X6 N0 g_b5
  obtain ⟨cl_b5_44, Ar_b5, q_b5, S_b5, N_b5, H_b5, G_b5⟩ := V_b5_6
  have hin44 : ¬ ((1 : Int32) < 0 ∨ cl_b5_44.slots.size ≤ ((1 : Int32)).toNatClampNeg) := inb_of S_b5 ⟨by decide, by decide⟩
  obtain ⟨T7, h7, X7, e7, W7, st7⟩ := stB X6 hx hZ e6 Ar_b5 (j := (1 : Int32)) hin44 (g := (mkF m 44 #[.val (.int p1), .val (.int p2), .val (.int p3), .val (.int p4), .val (.int (2 : Int32)), .val (.int (p1.toInt8.toInt32)), .val (.int (p2.toInt8.toInt32)), .val (.int (p3.toInt8.toInt32)), .val (.ref b5), .unset, .unset, .unset, .unset, .unset, .unset, .unset] [(.int (p2.toInt8.toInt32)), (.int (1 : Int32)), (.ref b5)])) rfl rfl (hb hby at_44)
  have V_b5_7 := Arv.set Ar_b5 q_b5 S_b5 N_b5 H_b5 G_b5 (fits_nar_byte _) W7 1 rfl (Nat.le_of_ble_eq_true rfl)
  have K7 : Keep h0 h7 [] := K6.wr W7 (Or.inr sz_b5)
  have N7 := Fr.snoc X7 N6 g_b5
  obtain ⟨cl, ArP, -, SP, -, HP, GP⟩ := V_b5_7
  have TyP : ∀ (i : Nat) (v : Value), cl.slots[i]? = some v → fits .byte v = true := fun i v hv => by
    obtain ⟨hi, -⟩ := Array.getElem?_eq_some_iff.mp hv
    rw [HP i hi] at hv; cases hv; exact GP i hi
  have c0 : cl.slots[0]? = some (.int (p1.toInt8.toInt32)) := (HP 0 (by rw [SP]; decide)).trans (congrArg (fun q => some (Value.int q)) (own_nar _))
  have c1 : cl.slots[1]? = some (.int (p2.toInt8.toInt32)) := (HP 1 (by rw [SP]; decide)).trans (congrArg (fun q => some (Value.int q)) (own_nar _))
  have hlat : ∀ j : Nat, 0 < j → j < cl.slots.size → cl.slots[j]? = some (.int (-1 : Int32)) := fun j h1 h2 => by
      rw [SP] at h2
      have h2 : j < 2 := h2
      rcases (by omega : j = 1) with rfl
      · rw [← m1]; exact c1
  have ExP : Exa Z h7 b5 "[B" := ((EA5.wr W6).wr W7)
  obtain ⟨r, gr⟩ : ∃ q, q = h7.size := ⟨_, rfl⟩
  obtain ⟨_, _, ⟨T8, L8, k8, n8⟩, -, X8, ⟨Lc8, hQ8, l8, y8, z8⟩, st8⟩ := Jvm.LawKit.callS X7 hx (y := (⟨"com/example/coord2/coord2/KeyRange", "prefix", "([B)Lcom/example/coord2/coord2/KeyRange;"⟩ : MethodName)) hown (mvT hZ (hw _ (List.mem_of_getElem? (i := 1) rfl))) (mvT hZ (hw _ (List.mem_of_getElem? (i := 2) rfl))) (mvT hZ (hw _ (List.mem_of_getElem? (i := 3) rfl))) (mvT hZ (hw _ (List.mem_of_getElem? (i := 4) rfl))) (by decide) (backOf (W := 0) (rm1 l Z a0 hw [] b5 cl (2 : Int32) 0 (p1.toInt8.toInt32) r h7 n0 (Nat.le_trans Z0 K7.1) gr ArP ExP SP TyP (Or.inr (Or.inr (Or.inl ⟨rfl, rfl⟩))) c0 nk0 hlat) hZ (hw _ (List.mem_of_getElem? (i := 4) rfl)) (hw _ (List.mem_of_getElem? (i := 3) rfl)) (by decide) (by decide)) (g := (mkF m 159 #[.val (.int p1), .val (.int p2), .val (.int p3), .val (.int p4), .val (.int (2 : Int32)), .val (.int (p1.toInt8.toInt32)), .val (.int (p2.toInt8.toInt32)), .val (.int (p3.toInt8.toInt32)), .val (.ref b5), .val (.int (0 : Int32)), .val (.int (((p1.toInt8.toInt32) + (1 : Int32)).toInt8.toInt32)), .val (.int (p2.toInt8.toInt32)), .val (.int (p3.toInt8.toInt32)), .unset, .unset, .unset] [(.ref b5)])) rfl (by rw [hml]; rfl) (argsL := [(.ref b5)]) (rest := []) (lenOf pd_0_0 rfl) rfl (by show 2 * 0 + _ ≤ _; exact Nat.le_of_eq rfl) (hb hby at_159) (fun _ _ => ⟨rfl, e7, (Nat.le_of_ble_eq_true rfl), (Nat.le_of_ble_eq_true rfl)⟩)
  dsimp only [Pt.U, Pt.locs, Pt.cells, Pt.slots] at X8 l8 y8 z8 st8 hQ8
  subst l8 y8 z8
  obtain ⟨rfl, N8q, KC, EX, FL, ub, B, FU, ArU, SU, HU, UK⟩ := hQ8
  have ArP' : Arr Z T8.heap b5 cl .byte := own_arr ArP KC List.not_mem_nil
  have ZT : n0 ≤ T8.heap.size := Nat.le_trans (Nat.le_trans Z0 K7.1) KC.1
  have eq8 : T8.heap = T8.heap := rfl
  have N8 := Fr.app N7 N8q
  obtain ⟨cq9, kq9, q9a, q9b, q9c⟩ := isOf hZ rfl (by rw [eq8]; exact EX : Exa Z T8.heap r "com/example/coord2/coord2/KeyRange")
  obtain ⟨_, _, ⟨T9, L9, k9, n9⟩, -, X9, ⟨Lc9, hQ9, l9, y9, z9⟩, st9⟩ := X8.virtualBack hx (y := (⟨"com/example/coord2/coord2/KeyRange", "lower", "()[B"⟩ : MethodName)) (z := (⟨"com/example/coord2/coord2/KeyRange", "lower", "()[B"⟩ : MethodName)) hown (mvT hZ (hw _ (List.mem_of_getElem? (i := 38) rfl))) (mvT hZ (hw _ (List.mem_of_getElem? (i := 39) rfl))) (notFace_of_selects (args := #[]) (mvT hZ (hw _ (List.mem_of_getElem? (i := 41) rfl)))) (mvT hZ (hw _ (List.mem_of_getElem? (i := 41) rfl))) (mvT hZ (hw _ (List.mem_of_getElem? (i := 40) rfl))) (by decide) (backOf (W := 0) (rm7 l Z a0 hw [] r b5 T8.heap n0 ZT FL) hZ (hw _ (List.mem_of_getElem? (i := 42) rfl)) (hw _ (List.mem_of_getElem? (i := 3) rfl)) (by decide) (by decide)) q9a q9c (g := (mkF m 166 #[.val (.int p1), .val (.int p2), .val (.int p3), .val (.int p4), .val (.int (2 : Int32)), .val (.int (p1.toInt8.toInt32)), .val (.int (p2.toInt8.toInt32)), .val (.int (p3.toInt8.toInt32)), .val (.ref b5), .val (.int (0 : Int32)), .val (.int (((p1.toInt8.toInt32) + (1 : Int32)).toInt8.toInt32)), .val (.int (p2.toInt8.toInt32)), .val (.int (p3.toInt8.toInt32)), .val (.ref r), .unset, .unset] [(.ref r)])) rfl (by rw [hml]; rfl) (Steps.refl _) (argsL := []) (rest := []) (lenOf pd_0_6 rfl) rfl (by show 2 * 0 + _ ≤ _; exact Nat.le_of_eq rfl) (hb hby at_166) (fun _ _ => ⟨rfl, rfl, (Nat.le_of_ble_eq_true rfl), (Nat.le_of_ble_eq_true rfl)⟩)
  dsimp only [Pt.U, Pt.locs, Pt.cells, Pt.slots] at X9 l9 y9 z9 st9 hQ9
  subst l9 y9 z9
  obtain ⟨rfl, N9q, hq9⟩ := hQ9
  have eq9 : T9.heap = T8.heap := hq9.trans eq8
  have N9 := Fr.app N8 N9q
  obtain ⟨cq10, kq10, q10a, q10b, q10c⟩ := isOf hZ rfl (by rw [eq9]; exact EX : Exa Z T9.heap r "com/example/coord2/coord2/KeyRange")
  obtain ⟨_, _, ⟨T10, L10, k10, n10⟩, -, X10, ⟨Lc10, hQ10, l10, y10, z10⟩, st10⟩ := X9.virtualBack hx (y := (⟨"com/example/coord2/coord2/KeyRange", "upper", "()[B"⟩ : MethodName)) (z := (⟨"com/example/coord2/coord2/KeyRange", "upper", "()[B"⟩ : MethodName)) hown (mvT hZ (hw _ (List.mem_of_getElem? (i := 43) rfl))) (mvT hZ (hw _ (List.mem_of_getElem? (i := 44) rfl))) (notFace_of_selects (args := #[]) (mvT hZ (hw _ (List.mem_of_getElem? (i := 46) rfl)))) (mvT hZ (hw _ (List.mem_of_getElem? (i := 46) rfl))) (mvT hZ (hw _ (List.mem_of_getElem? (i := 45) rfl))) (by decide) (backOf (W := 0) (rm8 l Z a0 hw [] r ub T9.heap n0 (by rw [eq9]; exact ZT) (by rw [eq9]; exact FU)) hZ (hw _ (List.mem_of_getElem? (i := 47) rfl)) (hw _ (List.mem_of_getElem? (i := 3) rfl)) (by decide) (by decide)) q10a q10c (g := (mkF m 173 #[.val (.int p1), .val (.int p2), .val (.int p3), .val (.int p4), .val (.int (2 : Int32)), .val (.int (p1.toInt8.toInt32)), .val (.int (p2.toInt8.toInt32)), .val (.int (p3.toInt8.toInt32)), .val (.ref b5), .val (.int (0 : Int32)), .val (.int (((p1.toInt8.toInt32) + (1 : Int32)).toInt8.toInt32)), .val (.int (p2.toInt8.toInt32)), .val (.int (p3.toInt8.toInt32)), .val (.ref r), .val (.ref b5), .unset] [(.ref r)])) rfl (by rw [hml]; rfl) (Steps.refl _) (argsL := []) (rest := []) (lenOf pd_0_6 rfl) rfl (by show 2 * 0 + _ ≤ _; exact Nat.le_of_eq rfl) (hb hby at_173) (fun _ _ => ⟨rfl, rfl, (Nat.le_of_ble_eq_true rfl), (Nat.le_of_ble_eq_true rfl)⟩)
  dsimp only [Pt.U, Pt.locs, Pt.cells, Pt.slots] at X10 l10 y10 z10 st10 hQ10
  subst l10 y10 z10
  obtain ⟨rfl, N10q, hq10⟩ := hQ10
  have eq10 : T10.heap = T8.heap := hq10.trans eq9
  have N10 := Fr.app N9 N10q
  obtain ⟨_, _, ⟨T11, L11, k11, n11⟩, -, X11, ⟨Lc11, hQ11, l11, y11, z11⟩, st11⟩ := Jvm.LawKit.callS X10 hx (y := (⟨"com/example/coord2/coord2/KeyRangePrefixPinLaw", "same", "([BIBBB)Z"⟩ : MethodName)) hown (mvT hZ (hw _ (List.mem_of_getElem? (i := 48) rfl))) (mvT hZ (hw _ (List.mem_of_getElem? (i := 49) rfl))) (mvT hZ (hw _ (List.mem_of_getElem? (i := 50) rfl))) (mvT hZ (hw _ (List.mem_of_getElem? (i := 51) rfl))) (by decide) (backOf (W := 0) (rm9 l Z a0 hw [] b5 (2 : Int32) (p1.toInt8.toInt32) (p2.toInt8.toInt32) (p3.toInt8.toInt32) cl T10.heap n0 (by rw [eq10]; exact ZT) (by rw [eq10]; exact ArP') SP (Or.inr (Or.inl rfl)) c0 (Or.inr c1) (Or.inr (Or.inl rfl))) hZ (hw _ (List.mem_of_getElem? (i := 51) rfl)) (hw _ (List.mem_of_getElem? (i := 50) rfl)) (by decide) (by decide)) (g := (mkF m 188 #[.val (.int p1), .val (.int p2), .val (.int p3), .val (.int p4), .val (.int (2 : Int32)), .val (.int (p1.toInt8.toInt32)), .val (.int (p2.toInt8.toInt32)), .val (.int (p3.toInt8.toInt32)), .val (.ref b5), .val (.int (0 : Int32)), .val (.int (((p1.toInt8.toInt32) + (1 : Int32)).toInt8.toInt32)), .val (.int (p2.toInt8.toInt32)), .val (.int (p3.toInt8.toInt32)), .val (.ref r), .val (.ref b5), .val (.ref ub)] [(.int (p3.toInt8.toInt32)), (.int (p2.toInt8.toInt32)), (.int (p1.toInt8.toInt32)), (.int (2 : Int32)), (.ref b5)])) rfl (by rw [hml]; rfl) (argsL := [(.ref b5), (.int (2 : Int32)), (.int (p1.toInt8.toInt32)), (.int (p2.toInt8.toInt32)), (.int (p3.toInt8.toInt32))]) (rest := []) (lenOf pd_0_7 rfl) rfl (by show 2 * 0 + _ ≤ _; exact Nat.le_of_eq rfl) (hb hby at_188) (fun _ _ => ⟨rfl, rfl, (Nat.le_of_ble_eq_true rfl), (Nat.le_of_ble_eq_true rfl)⟩)
  dsimp only [Pt.U, Pt.locs, Pt.cells, Pt.slots] at X11 l11 y11 z11 st11 hQ11
  subst l11 y11 z11
  obtain ⟨rfl, N11q, hq11⟩ := hQ11
  have eq11 : T11.heap = T8.heap := hq11.trans eq10
  have N11 := Fr.app N10 N11q
  obtain ⟨_, _, ⟨T12, L12, k12, n12⟩, -, X12, ⟨Lc12, hQ12, l12, y12, z12⟩, st12⟩ := Jvm.LawKit.callS X11 hx (y := (⟨"com/example/coord2/coord2/KeyRangePrefixPinLaw", "same", "([BIBBB)Z"⟩ : MethodName)) hown (mvT hZ (hw _ (List.mem_of_getElem? (i := 48) rfl))) (mvT hZ (hw _ (List.mem_of_getElem? (i := 49) rfl))) (mvT hZ (hw _ (List.mem_of_getElem? (i := 50) rfl))) (mvT hZ (hw _ (List.mem_of_getElem? (i := 51) rfl))) (by decide) (backOf (W := 0) (rm9 l Z a0 hw [] b5 (2 : Int32) (p1.toInt8.toInt32) (p2.toInt8.toInt32) (p3.toInt8.toInt32) cl T11.heap n0 (by rw [eq11]; exact ZT) (by rw [eq11]; exact ArP') SP (Or.inr (Or.inl rfl)) c0 (Or.inr c1) (Or.inr (Or.inl rfl))) hZ (hw _ (List.mem_of_getElem? (i := 51) rfl)) (hw _ (List.mem_of_getElem? (i := 50) rfl)) (by decide) (by decide)) (g := (mkF m 204 #[.val (.int p1), .val (.int p2), .val (.int p3), .val (.int p4), .val (.int (2 : Int32)), .val (.int (p1.toInt8.toInt32)), .val (.int (p2.toInt8.toInt32)), .val (.int (p3.toInt8.toInt32)), .val (.ref b5), .val (.int (0 : Int32)), .val (.int (((p1.toInt8.toInt32) + (1 : Int32)).toInt8.toInt32)), .val (.int (p2.toInt8.toInt32)), .val (.int (p3.toInt8.toInt32)), .val (.ref r), .val (.ref b5), .val (.ref ub)] [(.int (p3.toInt8.toInt32)), (.int (p2.toInt8.toInt32)), (.int (p1.toInt8.toInt32)), (.int (2 : Int32)), (.ref b5)])) rfl (by rw [hml]; rfl) (argsL := [(.ref b5), (.int (2 : Int32)), (.int (p1.toInt8.toInt32)), (.int (p2.toInt8.toInt32)), (.int (p3.toInt8.toInt32))]) (rest := []) (lenOf pd_0_7 rfl) rfl (by show 2 * 0 + _ ≤ _; exact Nat.le_of_eq rfl) (hb hby at_204) (fun _ _ => ⟨rfl, rfl, (Nat.le_of_ble_eq_true rfl), (Nat.le_of_ble_eq_true rfl)⟩)
  dsimp only [Pt.U, Pt.locs, Pt.cells, Pt.slots] at X12 l12 y12 z12 st12 hQ12
  subst l12 y12 z12
  obtain ⟨rfl, N12q, hq12⟩ := hQ12
  have eq12 : T12.heap = T8.heap := hq12.trans eq11
  have N12 := Fr.app N11 N12q
  obtain ⟨_, _, ⟨T13, L13, k13, n13⟩, -, X13, ⟨Lc13, hQ13, l13, y13, z13⟩, st13⟩ := Jvm.LawKit.callS X12 hx (y := (⟨"com/example/coord2/coord2/KeyRangePrefixPinLaw", "same", "([BIBBB)Z"⟩ : MethodName)) hown (mvT hZ (hw _ (List.mem_of_getElem? (i := 48) rfl))) (mvT hZ (hw _ (List.mem_of_getElem? (i := 49) rfl))) (mvT hZ (hw _ (List.mem_of_getElem? (i := 50) rfl))) (mvT hZ (hw _ (List.mem_of_getElem? (i := 51) rfl))) (by decide) (backOf (W := 0) (rm9 l Z a0 hw [] ub ((0 : Int32) + (1 : Int32)) (((p1.toInt8.toInt32) + (1 : Int32)).toInt8.toInt32) (p2.toInt8.toInt32) (p3.toInt8.toInt32) B T12.heap n0 (by rw [eq12]; exact ZT) (by rw [eq12]; exact ArU) (by rw [SU]; decide) (Or.inl (by decide)) UK (Or.inl (by decide)) (Or.inl (by decide))) hZ (hw _ (List.mem_of_getElem? (i := 51) rfl)) (hw _ (List.mem_of_getElem? (i := 50) rfl)) (by decide) (by decide)) (g := (mkF m 222 #[.val (.int p1), .val (.int p2), .val (.int p3), .val (.int p4), .val (.int (2 : Int32)), .val (.int (p1.toInt8.toInt32)), .val (.int (p2.toInt8.toInt32)), .val (.int (p3.toInt8.toInt32)), .val (.ref b5), .val (.int (0 : Int32)), .val (.int (((p1.toInt8.toInt32) + (1 : Int32)).toInt8.toInt32)), .val (.int (p2.toInt8.toInt32)), .val (.int (p3.toInt8.toInt32)), .val (.ref r), .val (.ref b5), .val (.ref ub)] [(.int (p3.toInt8.toInt32)), (.int (p2.toInt8.toInt32)), (.int (((p1.toInt8.toInt32) + (1 : Int32)).toInt8.toInt32)), (.int ((0 : Int32) + (1 : Int32))), (.ref ub)])) rfl (by rw [hml]; rfl) (argsL := [(.ref ub), (.int ((0 : Int32) + (1 : Int32))), (.int (((p1.toInt8.toInt32) + (1 : Int32)).toInt8.toInt32)), (.int (p2.toInt8.toInt32)), (.int (p3.toInt8.toInt32))]) (rest := []) (lenOf pd_0_7 rfl) rfl (by show 2 * 0 + _ ≤ _; exact Nat.le_of_eq rfl) (hb hby at_222) (fun _ _ => ⟨rfl, rfl, (Nat.le_of_ble_eq_true rfl), (Nat.le_of_ble_eq_true rfl)⟩)
  dsimp only [Pt.U, Pt.locs, Pt.cells, Pt.slots] at X13 l13 y13 z13 st13 hQ13
  subst l13 y13 z13
  obtain ⟨rfl, N13q, hq13⟩ := hQ13
  have eq13 : T13.heap = T8.heap := hq13.trans eq12
  have N13 := Fr.app N12 N13q
  obtain ⟨fs, hr, hrun, hended, hW, hsame⟩ := X13.leave (v := some (.int (1 : Int32))) (fun h => by rw [Bd.returns] at h; cases h)
  refine ⟨_, _, pre0 _ ?_, hrun, hended, _, _, rfl, ?_, ⟨_, rfl⟩, hW, hsame.mono (by decide) (by decide)⟩
  · show Steps p.tables e below (s₁.setTop (mkF m 0 #[.val (.int p1), .val (.int p2), .val (.int p3), .val (.int p4), .unset, .unset, .unset, .unset, .unset, .unset, .unset, .unset, .unset, .unset, .unset, .unset] [])) _
    refine XS.iconst X0.here hx rfl (hb hby at_0) ?_
    show Steps p.tables e below (s₁.setTop (mkF m 1 #[.val (.int p1), .val (.int p2), .val (.int p3), .val (.int p4), .unset, .unset, .unset, .unset, .unset, .unset, .unset, .unset, .unset, .unset, .unset, .unset] [(.int (1 : Int32))])) _
    refine XS.iloadN X0.here hx rfl (hb hby at_1) rfl ?_
    show Steps p.tables e below (s₁.setTop (mkF m 2 #[.val (.int p1), .val (.int p2), .val (.int p3), .val (.int p4), .unset, .unset, .unset, .unset, .unset, .unset, .unset, .unset, .unset, .unset, .unset, .unset] [(.int p4), (.int (1 : Int32))])) _
    refine XS.iconst X0.here hx rfl (hb hby at_2) ?_
    show Steps p.tables e below (s₁.setTop (mkF m 3 #[.val (.int p1), .val (.int p2), .val (.int p3), .val (.int p4), .unset, .unset, .unset, .unset, .unset, .unset, .unset, .unset, .unset, .unset, .unset, .unset] [(.int (3 : Int32)), (.int p4), (.int (1 : Int32))])) _
    refine XS.iand X0.here hx rfl (hb hby at_3) rfl ?_
    show Steps p.tables e below (s₁.setTop (mkF m 4 #[.val (.int p1), .val (.int p2), .val (.int p3), .val (.int p4), .unset, .unset, .unset, .unset, .unset, .unset, .unset, .unset, .unset, .unset, .unset, .unset] [(.int (p4 &&& (3 : Int32))), (.int (1 : Int32))])) _
    refine XS.iconst X0.here hx rfl (hb hby at_4) ?_
    show Steps p.tables e below (s₁.setTop (mkF m 5 #[.val (.int p1), .val (.int p2), .val (.int p3), .val (.int p4), .unset, .unset, .unset, .unset, .unset, .unset, .unset, .unset, .unset, .unset, .unset, .unset] [(.int (3 : Int32)), (.int (p4 &&& (3 : Int32))), (.int (1 : Int32))])) _
    refine iremM X0 hx rfl (hb hby at_5) rfl (by decide) ?_
    show Steps p.tables e below (s₁.setTop (mkF m 6 #[.val (.int p1), .val (.int p2), .val (.int p3), .val (.int p4), .unset, .unset, .unset, .unset, .unset, .unset, .unset, .unset, .unset, .unset, .unset, .unset] [(.int ((p4 &&& (3 : Int32)) % (3 : Int32))), (.int (1 : Int32))])) _
    refine XS.iadd X0.here hx rfl (hb hby at_6) rfl ?_
    show Steps p.tables e below (s₁.setTop (mkF m 7 #[.val (.int p1), .val (.int p2), .val (.int p3), .val (.int p4), .unset, .unset, .unset, .unset, .unset, .unset, .unset, .unset, .unset, .unset, .unset, .unset] [(.int ((1 : Int32) + ((p4 &&& (3 : Int32)) % (3 : Int32))))])) _
    rw [hlen]
    refine XS.istore X0.here hx rfl (hb hby at_7) rfl (l' := #[.val (.int p1), .val (.int p2), .val (.int p3), .val (.int p4), .val (.int (2 : Int32)), .unset, .unset, .unset, .unset, .unset, .unset, .unset, .unset, .unset, .unset, .unset]) rfl ?_
    show Steps p.tables e below (s₁.setTop (mkF m 9 #[.val (.int p1), .val (.int p2), .val (.int p3), .val (.int p4), .val (.int (2 : Int32)), .unset, .unset, .unset, .unset, .unset, .unset, .unset, .unset, .unset, .unset, .unset] [])) _
    refine XS.iloadN X0.here hx rfl (hb hby at_9) rfl ?_
    show Steps p.tables e below (s₁.setTop (mkF m 10 #[.val (.int p1), .val (.int p2), .val (.int p3), .val (.int p4), .val (.int (2 : Int32)), .unset, .unset, .unset, .unset, .unset, .unset, .unset, .unset, .unset, .unset, .unset] [(.int p1)])) _
    refine XS.i2b X0.here hx rfl (hb hby at_10) rfl ?_
    show Steps p.tables e below (s₁.setTop (mkF m 11 #[.val (.int p1), .val (.int p2), .val (.int p3), .val (.int p4), .val (.int (2 : Int32)), .unset, .unset, .unset, .unset, .unset, .unset, .unset, .unset, .unset, .unset, .unset] [(.int (p1.toInt8.toInt32))])) _
    refine XS.istore X0.here hx rfl (hb hby at_11) rfl (l' := #[.val (.int p1), .val (.int p2), .val (.int p3), .val (.int p4), .val (.int (2 : Int32)), .val (.int (p1.toInt8.toInt32)), .unset, .unset, .unset, .unset, .unset, .unset, .unset, .unset, .unset, .unset]) rfl ?_
    show Steps p.tables e below (s₁.setTop (mkF m 13 #[.val (.int p1), .val (.int p2), .val (.int p3), .val (.int p4), .val (.int (2 : Int32)), .val (.int (p1.toInt8.toInt32)), .unset, .unset, .unset, .unset, .unset, .unset, .unset, .unset, .unset, .unset] [])) _
    refine XS.iloadN X0.here hx rfl (hb hby at_13) rfl ?_
    show Steps p.tables e below (s₁.setTop (mkF m 14 #[.val (.int p1), .val (.int p2), .val (.int p3), .val (.int p4), .val (.int (2 : Int32)), .val (.int (p1.toInt8.toInt32)), .unset, .unset, .unset, .unset, .unset, .unset, .unset, .unset, .unset, .unset] [(.int p2)])) _
    refine XS.i2b X0.here hx rfl (hb hby at_14) rfl ?_
    show Steps p.tables e below (s₁.setTop (mkF m 15 #[.val (.int p1), .val (.int p2), .val (.int p3), .val (.int p4), .val (.int (2 : Int32)), .val (.int (p1.toInt8.toInt32)), .unset, .unset, .unset, .unset, .unset, .unset, .unset, .unset, .unset, .unset] [(.int (p2.toInt8.toInt32))])) _
    refine XS.istore X0.here hx rfl (hb hby at_15) rfl (l' := #[.val (.int p1), .val (.int p2), .val (.int p3), .val (.int p4), .val (.int (2 : Int32)), .val (.int (p1.toInt8.toInt32)), .val (.int (p2.toInt8.toInt32)), .unset, .unset, .unset, .unset, .unset, .unset, .unset, .unset, .unset]) rfl ?_
    show Steps p.tables e below (s₁.setTop (mkF m 17 #[.val (.int p1), .val (.int p2), .val (.int p3), .val (.int p4), .val (.int (2 : Int32)), .val (.int (p1.toInt8.toInt32)), .val (.int (p2.toInt8.toInt32)), .unset, .unset, .unset, .unset, .unset, .unset, .unset, .unset, .unset] [])) _
    refine XS.iloadN X0.here hx rfl (hb hby at_17) rfl ?_
    show Steps p.tables e below (s₁.setTop (mkF m 18 #[.val (.int p1), .val (.int p2), .val (.int p3), .val (.int p4), .val (.int (2 : Int32)), .val (.int (p1.toInt8.toInt32)), .val (.int (p2.toInt8.toInt32)), .unset, .unset, .unset, .unset, .unset, .unset, .unset, .unset, .unset] [(.int p3)])) _
    refine XS.i2b X0.here hx rfl (hb hby at_18) rfl ?_
    show Steps p.tables e below (s₁.setTop (mkF m 19 #[.val (.int p1), .val (.int p2), .val (.int p3), .val (.int p4), .val (.int (2 : Int32)), .val (.int (p1.toInt8.toInt32)), .val (.int (p2.toInt8.toInt32)), .unset, .unset, .unset, .unset, .unset, .unset, .unset, .unset, .unset] [(.int (p3.toInt8.toInt32))])) _
    refine XS.istore X0.here hx rfl (hb hby at_19) rfl (l' := #[.val (.int p1), .val (.int p2), .val (.int p3), .val (.int p4), .val (.int (2 : Int32)), .val (.int (p1.toInt8.toInt32)), .val (.int (p2.toInt8.toInt32)), .val (.int (p3.toInt8.toInt32)), .unset, .unset, .unset, .unset, .unset, .unset, .unset, .unset]) rfl ?_
    show Steps p.tables e below (s₁.setTop (mkF m 21 #[.val (.int p1), .val (.int p2), .val (.int p3), .val (.int p4), .val (.int (2 : Int32)), .val (.int (p1.toInt8.toInt32)), .val (.int (p2.toInt8.toInt32)), .val (.int (p3.toInt8.toInt32)), .unset, .unset, .unset, .unset, .unset, .unset, .unset, .unset] [])) _
    refine XS.iload X0.here hx rfl (hb hby at_21) rfl ?_
    show Steps p.tables e below (s₁.setTop (mkF m 23 #[.val (.int p1), .val (.int p2), .val (.int p3), .val (.int p4), .val (.int (2 : Int32)), .val (.int (p1.toInt8.toInt32)), .val (.int (p2.toInt8.toInt32)), .val (.int (p3.toInt8.toInt32)), .unset, .unset, .unset, .unset, .unset, .unset, .unset, .unset] [(.int (2 : Int32))])) _
    refine st5 _ ?_
    show Steps p.tables e below (T5.setTop (mkF m 25 #[.val (.int p1), .val (.int p2), .val (.int p3), .val (.int p4), .val (.int (2 : Int32)), .val (.int (p1.toInt8.toInt32)), .val (.int (p2.toInt8.toInt32)), .val (.int (p3.toInt8.toInt32)), .unset, .unset, .unset, .unset, .unset, .unset, .unset, .unset] [(.ref b5)])) _
    refine XS.astore X5.here hx rfl (hb hby at_25) rfl rfl (l' := #[.val (.int p1), .val (.int p2), .val (.int p3), .val (.int p4), .val (.int (2 : Int32)), .val (.int (p1.toInt8.toInt32)), .val (.int (p2.toInt8.toInt32)), .val (.int (p3.toInt8.toInt32)), .val (.ref b5), .unset, .unset, .unset, .unset, .unset, .unset, .unset]) rfl ?_
    show Steps p.tables e below (T5.setTop (mkF m 27 #[.val (.int p1), .val (.int p2), .val (.int p3), .val (.int p4), .val (.int (2 : Int32)), .val (.int (p1.toInt8.toInt32)), .val (.int (p2.toInt8.toInt32)), .val (.int (p3.toInt8.toInt32)), .val (.ref b5), .unset, .unset, .unset, .unset, .unset, .unset, .unset] [])) _
    refine XS.aload X5.here hx rfl (hb hby at_27) rfl rfl ?_
    show Steps p.tables e below (T5.setTop (mkF m 29 #[.val (.int p1), .val (.int p2), .val (.int p3), .val (.int p4), .val (.int (2 : Int32)), .val (.int (p1.toInt8.toInt32)), .val (.int (p2.toInt8.toInt32)), .val (.int (p3.toInt8.toInt32)), .val (.ref b5), .unset, .unset, .unset, .unset, .unset, .unset, .unset] [(.ref b5)])) _
    refine XS.iconst X5.here hx rfl (hb hby at_29) ?_
    show Steps p.tables e below (T5.setTop (mkF m 30 #[.val (.int p1), .val (.int p2), .val (.int p3), .val (.int p4), .val (.int (2 : Int32)), .val (.int (p1.toInt8.toInt32)), .val (.int (p2.toInt8.toInt32)), .val (.int (p3.toInt8.toInt32)), .val (.ref b5), .unset, .unset, .unset, .unset, .unset, .unset, .unset] [(.int (0 : Int32)), (.ref b5)])) _
    refine XS.iload X5.here hx rfl (hb hby at_30) rfl ?_
    show Steps p.tables e below (T5.setTop (mkF m 32 #[.val (.int p1), .val (.int p2), .val (.int p3), .val (.int p4), .val (.int (2 : Int32)), .val (.int (p1.toInt8.toInt32)), .val (.int (p2.toInt8.toInt32)), .val (.int (p3.toInt8.toInt32)), .val (.ref b5), .unset, .unset, .unset, .unset, .unset, .unset, .unset] [(.int (p1.toInt8.toInt32)), (.int (0 : Int32)), (.ref b5)])) _
    refine st6 _ ?_
    show Steps p.tables e below (T6.setTop (mkF m 33 #[.val (.int p1), .val (.int p2), .val (.int p3), .val (.int p4), .val (.int (2 : Int32)), .val (.int (p1.toInt8.toInt32)), .val (.int (p2.toInt8.toInt32)), .val (.int (p3.toInt8.toInt32)), .val (.ref b5), .unset, .unset, .unset, .unset, .unset, .unset, .unset] [])) _
    refine XS.iload X6.here hx rfl (hb hby at_33) rfl ?_
    show Steps p.tables e below (T6.setTop (mkF m 35 #[.val (.int p1), .val (.int p2), .val (.int p3), .val (.int p4), .val (.int (2 : Int32)), .val (.int (p1.toInt8.toInt32)), .val (.int (p2.toInt8.toInt32)), .val (.int (p3.toInt8.toInt32)), .val (.ref b5), .unset, .unset, .unset, .unset, .unset, .unset, .unset] [(.int (2 : Int32))])) _
    refine XS.iconst X6.here hx rfl (hb hby at_35) ?_
    show Steps p.tables e below (T6.setTop (mkF m 36 #[.val (.int p1), .val (.int p2), .val (.int p3), .val (.int p4), .val (.int (2 : Int32)), .val (.int (p1.toInt8.toInt32)), .val (.int (p2.toInt8.toInt32)), .val (.int (p3.toInt8.toInt32)), .val (.ref b5), .unset, .unset, .unset, .unset, .unset, .unset, .unset] [(.int (1 : Int32)), (.int (2 : Int32))])) _
    refine XS.icmpNo X6.here hx rfl (hb hby at_36) rfl (tlt (by decide)).2.2.2 ?_
    show Steps p.tables e below (T6.setTop (mkF m 39 #[.val (.int p1), .val (.int p2), .val (.int p3), .val (.int p4), .val (.int (2 : Int32)), .val (.int (p1.toInt8.toInt32)), .val (.int (p2.toInt8.toInt32)), .val (.int (p3.toInt8.toInt32)), .val (.ref b5), .unset, .unset, .unset, .unset, .unset, .unset, .unset] [])) _
    refine XS.aload X6.here hx rfl (hb hby at_39) rfl rfl ?_
    show Steps p.tables e below (T6.setTop (mkF m 41 #[.val (.int p1), .val (.int p2), .val (.int p3), .val (.int p4), .val (.int (2 : Int32)), .val (.int (p1.toInt8.toInt32)), .val (.int (p2.toInt8.toInt32)), .val (.int (p3.toInt8.toInt32)), .val (.ref b5), .unset, .unset, .unset, .unset, .unset, .unset, .unset] [(.ref b5)])) _
    refine XS.iconst X6.here hx rfl (hb hby at_41) ?_
    show Steps p.tables e below (T6.setTop (mkF m 42 #[.val (.int p1), .val (.int p2), .val (.int p3), .val (.int p4), .val (.int (2 : Int32)), .val (.int (p1.toInt8.toInt32)), .val (.int (p2.toInt8.toInt32)), .val (.int (p3.toInt8.toInt32)), .val (.ref b5), .unset, .unset, .unset, .unset, .unset, .unset, .unset] [(.int (1 : Int32)), (.ref b5)])) _
    refine XS.iload X6.here hx rfl (hb hby at_42) rfl ?_
    show Steps p.tables e below (T6.setTop (mkF m 44 #[.val (.int p1), .val (.int p2), .val (.int p3), .val (.int p4), .val (.int (2 : Int32)), .val (.int (p1.toInt8.toInt32)), .val (.int (p2.toInt8.toInt32)), .val (.int (p3.toInt8.toInt32)), .val (.ref b5), .unset, .unset, .unset, .unset, .unset, .unset, .unset] [(.int (p2.toInt8.toInt32)), (.int (1 : Int32)), (.ref b5)])) _
    refine st7 _ ?_
    show Steps p.tables e below (T7.setTop (mkF m 45 #[.val (.int p1), .val (.int p2), .val (.int p3), .val (.int p4), .val (.int (2 : Int32)), .val (.int (p1.toInt8.toInt32)), .val (.int (p2.toInt8.toInt32)), .val (.int (p3.toInt8.toInt32)), .val (.ref b5), .unset, .unset, .unset, .unset, .unset, .unset, .unset] [])) _
    refine XS.iload X7.here hx rfl (hb hby at_45) rfl ?_
    show Steps p.tables e below (T7.setTop (mkF m 47 #[.val (.int p1), .val (.int p2), .val (.int p3), .val (.int p4), .val (.int (2 : Int32)), .val (.int (p1.toInt8.toInt32)), .val (.int (p2.toInt8.toInt32)), .val (.int (p3.toInt8.toInt32)), .val (.ref b5), .unset, .unset, .unset, .unset, .unset, .unset, .unset] [(.int (2 : Int32))])) _
    refine XS.iconst X7.here hx rfl (hb hby at_47) ?_
    show Steps p.tables e below (T7.setTop (mkF m 48 #[.val (.int p1), .val (.int p2), .val (.int p3), .val (.int p4), .val (.int (2 : Int32)), .val (.int (p1.toInt8.toInt32)), .val (.int (p2.toInt8.toInt32)), .val (.int (p3.toInt8.toInt32)), .val (.ref b5), .unset, .unset, .unset, .unset, .unset, .unset, .unset] [(.int (2 : Int32)), (.int (2 : Int32))])) _
    refine XS.icmpYes X7.here hx rfl (pc0 := 48) (pc' := 57) rfl (hb hby at_48) rfl (flt (by decide)).2.2.2 (by decide) (by decide) ?_
    show Steps p.tables e below (T7.setTop (mkF m 57 #[.val (.int p1), .val (.int p2), .val (.int p3), .val (.int p4), .val (.int (2 : Int32)), .val (.int (p1.toInt8.toInt32)), .val (.int (p2.toInt8.toInt32)), .val (.int (p3.toInt8.toInt32)), .val (.ref b5), .unset, .unset, .unset, .unset, .unset, .unset, .unset] [])) _
    refine XS.iload X7.here hx rfl (hb hby at_57) rfl ?_
    show Steps p.tables e below (T7.setTop (mkF m 59 #[.val (.int p1), .val (.int p2), .val (.int p3), .val (.int p4), .val (.int (2 : Int32)), .val (.int (p1.toInt8.toInt32)), .val (.int (p2.toInt8.toInt32)), .val (.int (p3.toInt8.toInt32)), .val (.ref b5), .unset, .unset, .unset, .unset, .unset, .unset, .unset] [(.int (2 : Int32))])) _
    refine XS.iconst X7.here hx rfl (hb hby at_59) ?_
    show Steps p.tables e below (T7.setTop (mkF m 60 #[.val (.int p1), .val (.int p2), .val (.int p3), .val (.int p4), .val (.int (2 : Int32)), .val (.int (p1.toInt8.toInt32)), .val (.int (p2.toInt8.toInt32)), .val (.int (p3.toInt8.toInt32)), .val (.ref b5), .unset, .unset, .unset, .unset, .unset, .unset, .unset] [(.int (3 : Int32)), (.int (2 : Int32))])) _
    refine XS.icmpYes X7.here hx rfl (pc0 := 60) (pc' := 75) rfl (hb hby at_60) rfl (feq (by decide)).2 (by decide) (by decide) ?_
    show Steps p.tables e below (T7.setTop (mkF m 75 #[.val (.int p1), .val (.int p2), .val (.int p3), .val (.int p4), .val (.int (2 : Int32)), .val (.int (p1.toInt8.toInt32)), .val (.int (p2.toInt8.toInt32)), .val (.int (p3.toInt8.toInt32)), .val (.ref b5), .unset, .unset, .unset, .unset, .unset, .unset, .unset] [])) _
    refine XS.iload X7.here hx rfl (hb hby at_75) rfl ?_
    show Steps p.tables e below (T7.setTop (mkF m 77 #[.val (.int p1), .val (.int p2), .val (.int p3), .val (.int p4), .val (.int (2 : Int32)), .val (.int (p1.toInt8.toInt32)), .val (.int (p2.toInt8.toInt32)), .val (.int (p3.toInt8.toInt32)), .val (.ref b5), .unset, .unset, .unset, .unset, .unset, .unset, .unset] [(.int (2 : Int32))])) _
    refine XS.iconst X7.here hx rfl (hb hby at_77) ?_
    show Steps p.tables e below (T7.setTop (mkF m 78 #[.val (.int p1), .val (.int p2), .val (.int p3), .val (.int p4), .val (.int (2 : Int32)), .val (.int (p1.toInt8.toInt32)), .val (.int (p2.toInt8.toInt32)), .val (.int (p3.toInt8.toInt32)), .val (.ref b5), .unset, .unset, .unset, .unset, .unset, .unset, .unset] [(.int (2 : Int32)), (.int (2 : Int32))])) _
    refine XS.icmpNo X7.here hx rfl (hb hby at_78) rfl (flt (by decide)).1 ?_
    show Steps p.tables e below (T7.setTop (mkF m 81 #[.val (.int p1), .val (.int p2), .val (.int p3), .val (.int p4), .val (.int (2 : Int32)), .val (.int (p1.toInt8.toInt32)), .val (.int (p2.toInt8.toInt32)), .val (.int (p3.toInt8.toInt32)), .val (.ref b5), .unset, .unset, .unset, .unset, .unset, .unset, .unset] [])) _
    refine XS.iload X7.here hx rfl (hb hby at_81) rfl ?_
    show Steps p.tables e below (T7.setTop (mkF m 83 #[.val (.int p1), .val (.int p2), .val (.int p3), .val (.int p4), .val (.int (2 : Int32)), .val (.int (p1.toInt8.toInt32)), .val (.int (p2.toInt8.toInt32)), .val (.int (p3.toInt8.toInt32)), .val (.ref b5), .unset, .unset, .unset, .unset, .unset, .unset, .unset] [(.int (p2.toInt8.toInt32))])) _
    refine XS.iconst X7.here hx rfl (hb hby at_83) ?_
    show Steps p.tables e below (T7.setTop (mkF m 84 #[.val (.int p1), .val (.int p2), .val (.int p3), .val (.int p4), .val (.int (2 : Int32)), .val (.int (p1.toInt8.toInt32)), .val (.int (p2.toInt8.toInt32)), .val (.int (p3.toInt8.toInt32)), .val (.ref b5), .unset, .unset, .unset, .unset, .unset, .unset, .unset] [(.int (-1 : Int32)), (.int (p2.toInt8.toInt32))])) _
    refine XS.icmpYes X7.here hx rfl (pc0 := 84) (pc' := 93) rfl (hb hby at_84) rfl (teq m1).1 (by decide) (by decide) ?_
    show Steps p.tables e below (T7.setTop (mkF m 93 #[.val (.int p1), .val (.int p2), .val (.int p3), .val (.int p4), .val (.int (2 : Int32)), .val (.int (p1.toInt8.toInt32)), .val (.int (p2.toInt8.toInt32)), .val (.int (p3.toInt8.toInt32)), .val (.ref b5), .unset, .unset, .unset, .unset, .unset, .unset, .unset] [])) _
    refine XS.iload X7.here hx rfl (hb hby at_93) rfl ?_
    show Steps p.tables e below (T7.setTop (mkF m 95 #[.val (.int p1), .val (.int p2), .val (.int p3), .val (.int p4), .val (.int (2 : Int32)), .val (.int (p1.toInt8.toInt32)), .val (.int (p2.toInt8.toInt32)), .val (.int (p3.toInt8.toInt32)), .val (.ref b5), .unset, .unset, .unset, .unset, .unset, .unset, .unset] [(.int (p1.toInt8.toInt32))])) _
    refine XS.iconst X7.here hx rfl (hb hby at_95) ?_
    show Steps p.tables e below (T7.setTop (mkF m 96 #[.val (.int p1), .val (.int p2), .val (.int p3), .val (.int p4), .val (.int (2 : Int32)), .val (.int (p1.toInt8.toInt32)), .val (.int (p2.toInt8.toInt32)), .val (.int (p3.toInt8.toInt32)), .val (.ref b5), .unset, .unset, .unset, .unset, .unset, .unset, .unset] [(.int (-1 : Int32)), (.int (p1.toInt8.toInt32))])) _
    refine XS.icmpNo X7.here hx rfl (hb hby at_96) rfl (feq nk0).1 ?_
    show Steps p.tables e below (T7.setTop (mkF m 99 #[.val (.int p1), .val (.int p2), .val (.int p3), .val (.int p4), .val (.int (2 : Int32)), .val (.int (p1.toInt8.toInt32)), .val (.int (p2.toInt8.toInt32)), .val (.int (p3.toInt8.toInt32)), .val (.ref b5), .unset, .unset, .unset, .unset, .unset, .unset, .unset] [])) _
    refine XS.iconst X7.here hx rfl (hb hby at_99) ?_
    show Steps p.tables e below (T7.setTop (mkF m 100 #[.val (.int p1), .val (.int p2), .val (.int p3), .val (.int p4), .val (.int (2 : Int32)), .val (.int (p1.toInt8.toInt32)), .val (.int (p2.toInt8.toInt32)), .val (.int (p3.toInt8.toInt32)), .val (.ref b5), .unset, .unset, .unset, .unset, .unset, .unset, .unset] [(.int (0 : Int32))])) _
    refine XS.istore X7.here hx rfl (hb hby at_100) rfl (l' := #[.val (.int p1), .val (.int p2), .val (.int p3), .val (.int p4), .val (.int (2 : Int32)), .val (.int (p1.toInt8.toInt32)), .val (.int (p2.toInt8.toInt32)), .val (.int (p3.toInt8.toInt32)), .val (.ref b5), .val (.int (0 : Int32)), .unset, .unset, .unset, .unset, .unset, .unset]) rfl ?_
    show Steps p.tables e below (T7.setTop (mkF m 102 #[.val (.int p1), .val (.int p2), .val (.int p3), .val (.int p4), .val (.int (2 : Int32)), .val (.int (p1.toInt8.toInt32)), .val (.int (p2.toInt8.toInt32)), .val (.int (p3.toInt8.toInt32)), .val (.ref b5), .val (.int (0 : Int32)), .unset, .unset, .unset, .unset, .unset, .unset] [])) _
    refine XS.goto X7.here hx rfl (pc0 := 102) (pc' := 107) rfl (hb hby at_102) (by decide) (by decide) ?_
    show Steps p.tables e below (T7.setTop (mkF m 107 #[.val (.int p1), .val (.int p2), .val (.int p3), .val (.int p4), .val (.int (2 : Int32)), .val (.int (p1.toInt8.toInt32)), .val (.int (p2.toInt8.toInt32)), .val (.int (p3.toInt8.toInt32)), .val (.ref b5), .val (.int (0 : Int32)), .unset, .unset, .unset, .unset, .unset, .unset] [])) _
    refine XS.iload X7.here hx rfl (hb hby at_107) rfl ?_
    show Steps p.tables e below (T7.setTop (mkF m 109 #[.val (.int p1), .val (.int p2), .val (.int p3), .val (.int p4), .val (.int (2 : Int32)), .val (.int (p1.toInt8.toInt32)), .val (.int (p2.toInt8.toInt32)), .val (.int (p3.toInt8.toInt32)), .val (.ref b5), .val (.int (0 : Int32)), .unset, .unset, .unset, .unset, .unset, .unset] [(.int (p1.toInt8.toInt32))])) _
    refine XS.istore X7.here hx rfl (hb hby at_109) rfl (l' := #[.val (.int p1), .val (.int p2), .val (.int p3), .val (.int p4), .val (.int (2 : Int32)), .val (.int (p1.toInt8.toInt32)), .val (.int (p2.toInt8.toInt32)), .val (.int (p3.toInt8.toInt32)), .val (.ref b5), .val (.int (0 : Int32)), .val (.int (p1.toInt8.toInt32)), .unset, .unset, .unset, .unset, .unset]) rfl ?_
    show Steps p.tables e below (T7.setTop (mkF m 111 #[.val (.int p1), .val (.int p2), .val (.int p3), .val (.int p4), .val (.int (2 : Int32)), .val (.int (p1.toInt8.toInt32)), .val (.int (p2.toInt8.toInt32)), .val (.int (p3.toInt8.toInt32)), .val (.ref b5), .val (.int (0 : Int32)), .val (.int (p1.toInt8.toInt32)), .unset, .unset, .unset, .unset, .unset] [])) _
    refine XS.iload X7.here hx rfl (hb hby at_111) rfl ?_
    show Steps p.tables e below (T7.setTop (mkF m 113 #[.val (.int p1), .val (.int p2), .val (.int p3), .val (.int p4), .val (.int (2 : Int32)), .val (.int (p1.toInt8.toInt32)), .val (.int (p2.toInt8.toInt32)), .val (.int (p3.toInt8.toInt32)), .val (.ref b5), .val (.int (0 : Int32)), .val (.int (p1.toInt8.toInt32)), .unset, .unset, .unset, .unset, .unset] [(.int (p2.toInt8.toInt32))])) _
    refine XS.istore X7.here hx rfl (hb hby at_113) rfl (l' := #[.val (.int p1), .val (.int p2), .val (.int p3), .val (.int p4), .val (.int (2 : Int32)), .val (.int (p1.toInt8.toInt32)), .val (.int (p2.toInt8.toInt32)), .val (.int (p3.toInt8.toInt32)), .val (.ref b5), .val (.int (0 : Int32)), .val (.int (p1.toInt8.toInt32)), .val (.int (p2.toInt8.toInt32)), .unset, .unset, .unset, .unset]) rfl ?_
    show Steps p.tables e below (T7.setTop (mkF m 115 #[.val (.int p1), .val (.int p2), .val (.int p3), .val (.int p4), .val (.int (2 : Int32)), .val (.int (p1.toInt8.toInt32)), .val (.int (p2.toInt8.toInt32)), .val (.int (p3.toInt8.toInt32)), .val (.ref b5), .val (.int (0 : Int32)), .val (.int (p1.toInt8.toInt32)), .val (.int (p2.toInt8.toInt32)), .unset, .unset, .unset, .unset] [])) _
    refine XS.iload X7.here hx rfl (hb hby at_115) rfl ?_
    show Steps p.tables e below (T7.setTop (mkF m 117 #[.val (.int p1), .val (.int p2), .val (.int p3), .val (.int p4), .val (.int (2 : Int32)), .val (.int (p1.toInt8.toInt32)), .val (.int (p2.toInt8.toInt32)), .val (.int (p3.toInt8.toInt32)), .val (.ref b5), .val (.int (0 : Int32)), .val (.int (p1.toInt8.toInt32)), .val (.int (p2.toInt8.toInt32)), .unset, .unset, .unset, .unset] [(.int (p3.toInt8.toInt32))])) _
    refine XS.istore X7.here hx rfl (hb hby at_117) rfl (l' := #[.val (.int p1), .val (.int p2), .val (.int p3), .val (.int p4), .val (.int (2 : Int32)), .val (.int (p1.toInt8.toInt32)), .val (.int (p2.toInt8.toInt32)), .val (.int (p3.toInt8.toInt32)), .val (.ref b5), .val (.int (0 : Int32)), .val (.int (p1.toInt8.toInt32)), .val (.int (p2.toInt8.toInt32)), .val (.int (p3.toInt8.toInt32)), .unset, .unset, .unset]) rfl ?_
    show Steps p.tables e below (T7.setTop (mkF m 119 #[.val (.int p1), .val (.int p2), .val (.int p3), .val (.int p4), .val (.int (2 : Int32)), .val (.int (p1.toInt8.toInt32)), .val (.int (p2.toInt8.toInt32)), .val (.int (p3.toInt8.toInt32)), .val (.ref b5), .val (.int (0 : Int32)), .val (.int (p1.toInt8.toInt32)), .val (.int (p2.toInt8.toInt32)), .val (.int (p3.toInt8.toInt32)), .unset, .unset, .unset] [])) _
    refine XS.iload X7.here hx rfl (hb hby at_119) rfl ?_
    show Steps p.tables e below (T7.setTop (mkF m 121 #[.val (.int p1), .val (.int p2), .val (.int p3), .val (.int p4), .val (.int (2 : Int32)), .val (.int (p1.toInt8.toInt32)), .val (.int (p2.toInt8.toInt32)), .val (.int (p3.toInt8.toInt32)), .val (.ref b5), .val (.int (0 : Int32)), .val (.int (p1.toInt8.toInt32)), .val (.int (p2.toInt8.toInt32)), .val (.int (p3.toInt8.toInt32)), .unset, .unset, .unset] [(.int (0 : Int32))])) _
    refine XS.ifNo X7.here hx rfl (hb hby at_121) rfl ((if0 _ _).trans (teq (rfl : (0 : Int32) = (0 : Int32))).2) ?_
    show Steps p.tables e below (T7.setTop (mkF m 124 #[.val (.int p1), .val (.int p2), .val (.int p3), .val (.int p4), .val (.int (2 : Int32)), .val (.int (p1.toInt8.toInt32)), .val (.int (p2.toInt8.toInt32)), .val (.int (p3.toInt8.toInt32)), .val (.ref b5), .val (.int (0 : Int32)), .val (.int (p1.toInt8.toInt32)), .val (.int (p2.toInt8.toInt32)), .val (.int (p3.toInt8.toInt32)), .unset, .unset, .unset] [])) _
    refine XS.iload X7.here hx rfl (hb hby at_124) rfl ?_
    show Steps p.tables e below (T7.setTop (mkF m 126 #[.val (.int p1), .val (.int p2), .val (.int p3), .val (.int p4), .val (.int (2 : Int32)), .val (.int (p1.toInt8.toInt32)), .val (.int (p2.toInt8.toInt32)), .val (.int (p3.toInt8.toInt32)), .val (.ref b5), .val (.int (0 : Int32)), .val (.int (p1.toInt8.toInt32)), .val (.int (p2.toInt8.toInt32)), .val (.int (p3.toInt8.toInt32)), .unset, .unset, .unset] [(.int (p1.toInt8.toInt32))])) _
    refine XS.iconst X7.here hx rfl (hb hby at_126) ?_
    show Steps p.tables e below (T7.setTop (mkF m 127 #[.val (.int p1), .val (.int p2), .val (.int p3), .val (.int p4), .val (.int (2 : Int32)), .val (.int (p1.toInt8.toInt32)), .val (.int (p2.toInt8.toInt32)), .val (.int (p3.toInt8.toInt32)), .val (.ref b5), .val (.int (0 : Int32)), .val (.int (p1.toInt8.toInt32)), .val (.int (p2.toInt8.toInt32)), .val (.int (p3.toInt8.toInt32)), .unset, .unset, .unset] [(.int (1 : Int32)), (.int (p1.toInt8.toInt32))])) _
    refine XS.iadd X7.here hx rfl (hb hby at_127) rfl ?_
    show Steps p.tables e below (T7.setTop (mkF m 128 #[.val (.int p1), .val (.int p2), .val (.int p3), .val (.int p4), .val (.int (2 : Int32)), .val (.int (p1.toInt8.toInt32)), .val (.int (p2.toInt8.toInt32)), .val (.int (p3.toInt8.toInt32)), .val (.ref b5), .val (.int (0 : Int32)), .val (.int (p1.toInt8.toInt32)), .val (.int (p2.toInt8.toInt32)), .val (.int (p3.toInt8.toInt32)), .unset, .unset, .unset] [(.int ((p1.toInt8.toInt32) + (1 : Int32)))])) _
    refine XS.i2b X7.here hx rfl (hb hby at_128) rfl ?_
    show Steps p.tables e below (T7.setTop (mkF m 129 #[.val (.int p1), .val (.int p2), .val (.int p3), .val (.int p4), .val (.int (2 : Int32)), .val (.int (p1.toInt8.toInt32)), .val (.int (p2.toInt8.toInt32)), .val (.int (p3.toInt8.toInt32)), .val (.ref b5), .val (.int (0 : Int32)), .val (.int (p1.toInt8.toInt32)), .val (.int (p2.toInt8.toInt32)), .val (.int (p3.toInt8.toInt32)), .unset, .unset, .unset] [(.int (((p1.toInt8.toInt32) + (1 : Int32)).toInt8.toInt32))])) _
    refine XS.istore X7.here hx rfl (hb hby at_129) rfl (l' := #[.val (.int p1), .val (.int p2), .val (.int p3), .val (.int p4), .val (.int (2 : Int32)), .val (.int (p1.toInt8.toInt32)), .val (.int (p2.toInt8.toInt32)), .val (.int (p3.toInt8.toInt32)), .val (.ref b5), .val (.int (0 : Int32)), .val (.int (((p1.toInt8.toInt32) + (1 : Int32)).toInt8.toInt32)), .val (.int (p2.toInt8.toInt32)), .val (.int (p3.toInt8.toInt32)), .unset, .unset, .unset]) rfl ?_
    show Steps p.tables e below (T7.setTop (mkF m 131 #[.val (.int p1), .val (.int p2), .val (.int p3), .val (.int p4), .val (.int (2 : Int32)), .val (.int (p1.toInt8.toInt32)), .val (.int (p2.toInt8.toInt32)), .val (.int (p3.toInt8.toInt32)), .val (.ref b5), .val (.int (0 : Int32)), .val (.int (((p1.toInt8.toInt32) + (1 : Int32)).toInt8.toInt32)), .val (.int (p2.toInt8.toInt32)), .val (.int (p3.toInt8.toInt32)), .unset, .unset, .unset] [])) _
    refine XS.goto X7.here hx rfl (pc0 := 131) (pc' := 157) rfl (hb hby at_131) (by decide) (by decide) ?_
    show Steps p.tables e below (T7.setTop (mkF m 157 #[.val (.int p1), .val (.int p2), .val (.int p3), .val (.int p4), .val (.int (2 : Int32)), .val (.int (p1.toInt8.toInt32)), .val (.int (p2.toInt8.toInt32)), .val (.int (p3.toInt8.toInt32)), .val (.ref b5), .val (.int (0 : Int32)), .val (.int (((p1.toInt8.toInt32) + (1 : Int32)).toInt8.toInt32)), .val (.int (p2.toInt8.toInt32)), .val (.int (p3.toInt8.toInt32)), .unset, .unset, .unset] [])) _
    refine XS.aload X7.here hx rfl (hb hby at_157) rfl rfl ?_
    show Steps p.tables e below (T7.setTop (mkF m 159 #[.val (.int p1), .val (.int p2), .val (.int p3), .val (.int p4), .val (.int (2 : Int32)), .val (.int (p1.toInt8.toInt32)), .val (.int (p2.toInt8.toInt32)), .val (.int (p3.toInt8.toInt32)), .val (.ref b5), .val (.int (0 : Int32)), .val (.int (((p1.toInt8.toInt32) + (1 : Int32)).toInt8.toInt32)), .val (.int (p2.toInt8.toInt32)), .val (.int (p3.toInt8.toInt32)), .unset, .unset, .unset] [(.ref b5)])) _
    refine st8 _ ?_
    show Steps p.tables e below (T8.setTop (mkF m 162 #[.val (.int p1), .val (.int p2), .val (.int p3), .val (.int p4), .val (.int (2 : Int32)), .val (.int (p1.toInt8.toInt32)), .val (.int (p2.toInt8.toInt32)), .val (.int (p3.toInt8.toInt32)), .val (.ref b5), .val (.int (0 : Int32)), .val (.int (((p1.toInt8.toInt32) + (1 : Int32)).toInt8.toInt32)), .val (.int (p2.toInt8.toInt32)), .val (.int (p3.toInt8.toInt32)), .unset, .unset, .unset] [(.ref r)])) _
    refine XS.astore X8.here hx rfl (hb hby at_162) rfl rfl (l' := #[.val (.int p1), .val (.int p2), .val (.int p3), .val (.int p4), .val (.int (2 : Int32)), .val (.int (p1.toInt8.toInt32)), .val (.int (p2.toInt8.toInt32)), .val (.int (p3.toInt8.toInt32)), .val (.ref b5), .val (.int (0 : Int32)), .val (.int (((p1.toInt8.toInt32) + (1 : Int32)).toInt8.toInt32)), .val (.int (p2.toInt8.toInt32)), .val (.int (p3.toInt8.toInt32)), .val (.ref r), .unset, .unset]) rfl ?_
    show Steps p.tables e below (T8.setTop (mkF m 164 #[.val (.int p1), .val (.int p2), .val (.int p3), .val (.int p4), .val (.int (2 : Int32)), .val (.int (p1.toInt8.toInt32)), .val (.int (p2.toInt8.toInt32)), .val (.int (p3.toInt8.toInt32)), .val (.ref b5), .val (.int (0 : Int32)), .val (.int (((p1.toInt8.toInt32) + (1 : Int32)).toInt8.toInt32)), .val (.int (p2.toInt8.toInt32)), .val (.int (p3.toInt8.toInt32)), .val (.ref r), .unset, .unset] [])) _
    refine XS.aload X8.here hx rfl (hb hby at_164) rfl rfl ?_
    show Steps p.tables e below (T8.setTop (mkF m 166 #[.val (.int p1), .val (.int p2), .val (.int p3), .val (.int p4), .val (.int (2 : Int32)), .val (.int (p1.toInt8.toInt32)), .val (.int (p2.toInt8.toInt32)), .val (.int (p3.toInt8.toInt32)), .val (.ref b5), .val (.int (0 : Int32)), .val (.int (((p1.toInt8.toInt32) + (1 : Int32)).toInt8.toInt32)), .val (.int (p2.toInt8.toInt32)), .val (.int (p3.toInt8.toInt32)), .val (.ref r), .unset, .unset] [(.ref r)])) _
    refine st9.trans ?_
    show Steps p.tables e below (T9.setTop (mkF m 169 #[.val (.int p1), .val (.int p2), .val (.int p3), .val (.int p4), .val (.int (2 : Int32)), .val (.int (p1.toInt8.toInt32)), .val (.int (p2.toInt8.toInt32)), .val (.int (p3.toInt8.toInt32)), .val (.ref b5), .val (.int (0 : Int32)), .val (.int (((p1.toInt8.toInt32) + (1 : Int32)).toInt8.toInt32)), .val (.int (p2.toInt8.toInt32)), .val (.int (p3.toInt8.toInt32)), .val (.ref r), .unset, .unset] [(.ref b5)])) _
    refine XS.astore X9.here hx rfl (hb hby at_169) rfl rfl (l' := #[.val (.int p1), .val (.int p2), .val (.int p3), .val (.int p4), .val (.int (2 : Int32)), .val (.int (p1.toInt8.toInt32)), .val (.int (p2.toInt8.toInt32)), .val (.int (p3.toInt8.toInt32)), .val (.ref b5), .val (.int (0 : Int32)), .val (.int (((p1.toInt8.toInt32) + (1 : Int32)).toInt8.toInt32)), .val (.int (p2.toInt8.toInt32)), .val (.int (p3.toInt8.toInt32)), .val (.ref r), .val (.ref b5), .unset]) rfl ?_
    show Steps p.tables e below (T9.setTop (mkF m 171 #[.val (.int p1), .val (.int p2), .val (.int p3), .val (.int p4), .val (.int (2 : Int32)), .val (.int (p1.toInt8.toInt32)), .val (.int (p2.toInt8.toInt32)), .val (.int (p3.toInt8.toInt32)), .val (.ref b5), .val (.int (0 : Int32)), .val (.int (((p1.toInt8.toInt32) + (1 : Int32)).toInt8.toInt32)), .val (.int (p2.toInt8.toInt32)), .val (.int (p3.toInt8.toInt32)), .val (.ref r), .val (.ref b5), .unset] [])) _
    refine XS.aload X9.here hx rfl (hb hby at_171) rfl rfl ?_
    show Steps p.tables e below (T9.setTop (mkF m 173 #[.val (.int p1), .val (.int p2), .val (.int p3), .val (.int p4), .val (.int (2 : Int32)), .val (.int (p1.toInt8.toInt32)), .val (.int (p2.toInt8.toInt32)), .val (.int (p3.toInt8.toInt32)), .val (.ref b5), .val (.int (0 : Int32)), .val (.int (((p1.toInt8.toInt32) + (1 : Int32)).toInt8.toInt32)), .val (.int (p2.toInt8.toInt32)), .val (.int (p3.toInt8.toInt32)), .val (.ref r), .val (.ref b5), .unset] [(.ref r)])) _
    refine st10.trans ?_
    show Steps p.tables e below (T10.setTop (mkF m 176 #[.val (.int p1), .val (.int p2), .val (.int p3), .val (.int p4), .val (.int (2 : Int32)), .val (.int (p1.toInt8.toInt32)), .val (.int (p2.toInt8.toInt32)), .val (.int (p3.toInt8.toInt32)), .val (.ref b5), .val (.int (0 : Int32)), .val (.int (((p1.toInt8.toInt32) + (1 : Int32)).toInt8.toInt32)), .val (.int (p2.toInt8.toInt32)), .val (.int (p3.toInt8.toInt32)), .val (.ref r), .val (.ref b5), .unset] [(.ref ub)])) _
    refine XS.astore X10.here hx rfl (hb hby at_176) rfl rfl (l' := #[.val (.int p1), .val (.int p2), .val (.int p3), .val (.int p4), .val (.int (2 : Int32)), .val (.int (p1.toInt8.toInt32)), .val (.int (p2.toInt8.toInt32)), .val (.int (p3.toInt8.toInt32)), .val (.ref b5), .val (.int (0 : Int32)), .val (.int (((p1.toInt8.toInt32) + (1 : Int32)).toInt8.toInt32)), .val (.int (p2.toInt8.toInt32)), .val (.int (p3.toInt8.toInt32)), .val (.ref r), .val (.ref b5), .val (.ref ub)]) rfl ?_
    show Steps p.tables e below (T10.setTop (mkF m 178 #[.val (.int p1), .val (.int p2), .val (.int p3), .val (.int p4), .val (.int (2 : Int32)), .val (.int (p1.toInt8.toInt32)), .val (.int (p2.toInt8.toInt32)), .val (.int (p3.toInt8.toInt32)), .val (.ref b5), .val (.int (0 : Int32)), .val (.int (((p1.toInt8.toInt32) + (1 : Int32)).toInt8.toInt32)), .val (.int (p2.toInt8.toInt32)), .val (.int (p3.toInt8.toInt32)), .val (.ref r), .val (.ref b5), .val (.ref ub)] [])) _
    refine XS.aload X10.here hx rfl (hb hby at_178) rfl rfl ?_
    show Steps p.tables e below (T10.setTop (mkF m 180 #[.val (.int p1), .val (.int p2), .val (.int p3), .val (.int p4), .val (.int (2 : Int32)), .val (.int (p1.toInt8.toInt32)), .val (.int (p2.toInt8.toInt32)), .val (.int (p3.toInt8.toInt32)), .val (.ref b5), .val (.int (0 : Int32)), .val (.int (((p1.toInt8.toInt32) + (1 : Int32)).toInt8.toInt32)), .val (.int (p2.toInt8.toInt32)), .val (.int (p3.toInt8.toInt32)), .val (.ref r), .val (.ref b5), .val (.ref ub)] [(.ref b5)])) _
    refine XS.iload X10.here hx rfl (hb hby at_180) rfl ?_
    show Steps p.tables e below (T10.setTop (mkF m 182 #[.val (.int p1), .val (.int p2), .val (.int p3), .val (.int p4), .val (.int (2 : Int32)), .val (.int (p1.toInt8.toInt32)), .val (.int (p2.toInt8.toInt32)), .val (.int (p3.toInt8.toInt32)), .val (.ref b5), .val (.int (0 : Int32)), .val (.int (((p1.toInt8.toInt32) + (1 : Int32)).toInt8.toInt32)), .val (.int (p2.toInt8.toInt32)), .val (.int (p3.toInt8.toInt32)), .val (.ref r), .val (.ref b5), .val (.ref ub)] [(.int (2 : Int32)), (.ref b5)])) _
    refine XS.iload X10.here hx rfl (hb hby at_182) rfl ?_
    show Steps p.tables e below (T10.setTop (mkF m 184 #[.val (.int p1), .val (.int p2), .val (.int p3), .val (.int p4), .val (.int (2 : Int32)), .val (.int (p1.toInt8.toInt32)), .val (.int (p2.toInt8.toInt32)), .val (.int (p3.toInt8.toInt32)), .val (.ref b5), .val (.int (0 : Int32)), .val (.int (((p1.toInt8.toInt32) + (1 : Int32)).toInt8.toInt32)), .val (.int (p2.toInt8.toInt32)), .val (.int (p3.toInt8.toInt32)), .val (.ref r), .val (.ref b5), .val (.ref ub)] [(.int (p1.toInt8.toInt32)), (.int (2 : Int32)), (.ref b5)])) _
    refine XS.iload X10.here hx rfl (hb hby at_184) rfl ?_
    show Steps p.tables e below (T10.setTop (mkF m 186 #[.val (.int p1), .val (.int p2), .val (.int p3), .val (.int p4), .val (.int (2 : Int32)), .val (.int (p1.toInt8.toInt32)), .val (.int (p2.toInt8.toInt32)), .val (.int (p3.toInt8.toInt32)), .val (.ref b5), .val (.int (0 : Int32)), .val (.int (((p1.toInt8.toInt32) + (1 : Int32)).toInt8.toInt32)), .val (.int (p2.toInt8.toInt32)), .val (.int (p3.toInt8.toInt32)), .val (.ref r), .val (.ref b5), .val (.ref ub)] [(.int (p2.toInt8.toInt32)), (.int (p1.toInt8.toInt32)), (.int (2 : Int32)), (.ref b5)])) _
    refine XS.iload X10.here hx rfl (hb hby at_186) rfl ?_
    show Steps p.tables e below (T10.setTop (mkF m 188 #[.val (.int p1), .val (.int p2), .val (.int p3), .val (.int p4), .val (.int (2 : Int32)), .val (.int (p1.toInt8.toInt32)), .val (.int (p2.toInt8.toInt32)), .val (.int (p3.toInt8.toInt32)), .val (.ref b5), .val (.int (0 : Int32)), .val (.int (((p1.toInt8.toInt32) + (1 : Int32)).toInt8.toInt32)), .val (.int (p2.toInt8.toInt32)), .val (.int (p3.toInt8.toInt32)), .val (.ref r), .val (.ref b5), .val (.ref ub)] [(.int (p3.toInt8.toInt32)), (.int (p2.toInt8.toInt32)), (.int (p1.toInt8.toInt32)), (.int (2 : Int32)), (.ref b5)])) _
    refine st11 _ ?_
    show Steps p.tables e below (T11.setTop (mkF m 191 #[.val (.int p1), .val (.int p2), .val (.int p3), .val (.int p4), .val (.int (2 : Int32)), .val (.int (p1.toInt8.toInt32)), .val (.int (p2.toInt8.toInt32)), .val (.int (p3.toInt8.toInt32)), .val (.ref b5), .val (.int (0 : Int32)), .val (.int (((p1.toInt8.toInt32) + (1 : Int32)).toInt8.toInt32)), .val (.int (p2.toInt8.toInt32)), .val (.int (p3.toInt8.toInt32)), .val (.ref r), .val (.ref b5), .val (.ref ub)] [(.int (1 : Int32))])) _
    refine XS.ifNo X11.here hx rfl (hb hby at_191) rfl ((if0 _ _).trans (feq (by decide : ¬ ((1 : Int32) = (0 : Int32)))).1) ?_
    show Steps p.tables e below (T11.setTop (mkF m 194 #[.val (.int p1), .val (.int p2), .val (.int p3), .val (.int p4), .val (.int (2 : Int32)), .val (.int (p1.toInt8.toInt32)), .val (.int (p2.toInt8.toInt32)), .val (.int (p3.toInt8.toInt32)), .val (.ref b5), .val (.int (0 : Int32)), .val (.int (((p1.toInt8.toInt32) + (1 : Int32)).toInt8.toInt32)), .val (.int (p2.toInt8.toInt32)), .val (.int (p3.toInt8.toInt32)), .val (.ref r), .val (.ref b5), .val (.ref ub)] [])) _
    refine XS.aload X11.here hx rfl (hb hby at_194) rfl rfl ?_
    show Steps p.tables e below (T11.setTop (mkF m 196 #[.val (.int p1), .val (.int p2), .val (.int p3), .val (.int p4), .val (.int (2 : Int32)), .val (.int (p1.toInt8.toInt32)), .val (.int (p2.toInt8.toInt32)), .val (.int (p3.toInt8.toInt32)), .val (.ref b5), .val (.int (0 : Int32)), .val (.int (((p1.toInt8.toInt32) + (1 : Int32)).toInt8.toInt32)), .val (.int (p2.toInt8.toInt32)), .val (.int (p3.toInt8.toInt32)), .val (.ref r), .val (.ref b5), .val (.ref ub)] [(.ref b5)])) _
    refine XS.iload X11.here hx rfl (hb hby at_196) rfl ?_
    show Steps p.tables e below (T11.setTop (mkF m 198 #[.val (.int p1), .val (.int p2), .val (.int p3), .val (.int p4), .val (.int (2 : Int32)), .val (.int (p1.toInt8.toInt32)), .val (.int (p2.toInt8.toInt32)), .val (.int (p3.toInt8.toInt32)), .val (.ref b5), .val (.int (0 : Int32)), .val (.int (((p1.toInt8.toInt32) + (1 : Int32)).toInt8.toInt32)), .val (.int (p2.toInt8.toInt32)), .val (.int (p3.toInt8.toInt32)), .val (.ref r), .val (.ref b5), .val (.ref ub)] [(.int (2 : Int32)), (.ref b5)])) _
    refine XS.iload X11.here hx rfl (hb hby at_198) rfl ?_
    show Steps p.tables e below (T11.setTop (mkF m 200 #[.val (.int p1), .val (.int p2), .val (.int p3), .val (.int p4), .val (.int (2 : Int32)), .val (.int (p1.toInt8.toInt32)), .val (.int (p2.toInt8.toInt32)), .val (.int (p3.toInt8.toInt32)), .val (.ref b5), .val (.int (0 : Int32)), .val (.int (((p1.toInt8.toInt32) + (1 : Int32)).toInt8.toInt32)), .val (.int (p2.toInt8.toInt32)), .val (.int (p3.toInt8.toInt32)), .val (.ref r), .val (.ref b5), .val (.ref ub)] [(.int (p1.toInt8.toInt32)), (.int (2 : Int32)), (.ref b5)])) _
    refine XS.iload X11.here hx rfl (hb hby at_200) rfl ?_
    show Steps p.tables e below (T11.setTop (mkF m 202 #[.val (.int p1), .val (.int p2), .val (.int p3), .val (.int p4), .val (.int (2 : Int32)), .val (.int (p1.toInt8.toInt32)), .val (.int (p2.toInt8.toInt32)), .val (.int (p3.toInt8.toInt32)), .val (.ref b5), .val (.int (0 : Int32)), .val (.int (((p1.toInt8.toInt32) + (1 : Int32)).toInt8.toInt32)), .val (.int (p2.toInt8.toInt32)), .val (.int (p3.toInt8.toInt32)), .val (.ref r), .val (.ref b5), .val (.ref ub)] [(.int (p2.toInt8.toInt32)), (.int (p1.toInt8.toInt32)), (.int (2 : Int32)), (.ref b5)])) _
    refine XS.iload X11.here hx rfl (hb hby at_202) rfl ?_
    show Steps p.tables e below (T11.setTop (mkF m 204 #[.val (.int p1), .val (.int p2), .val (.int p3), .val (.int p4), .val (.int (2 : Int32)), .val (.int (p1.toInt8.toInt32)), .val (.int (p2.toInt8.toInt32)), .val (.int (p3.toInt8.toInt32)), .val (.ref b5), .val (.int (0 : Int32)), .val (.int (((p1.toInt8.toInt32) + (1 : Int32)).toInt8.toInt32)), .val (.int (p2.toInt8.toInt32)), .val (.int (p3.toInt8.toInt32)), .val (.ref r), .val (.ref b5), .val (.ref ub)] [(.int (p3.toInt8.toInt32)), (.int (p2.toInt8.toInt32)), (.int (p1.toInt8.toInt32)), (.int (2 : Int32)), (.ref b5)])) _
    refine st12 _ ?_
    show Steps p.tables e below (T12.setTop (mkF m 207 #[.val (.int p1), .val (.int p2), .val (.int p3), .val (.int p4), .val (.int (2 : Int32)), .val (.int (p1.toInt8.toInt32)), .val (.int (p2.toInt8.toInt32)), .val (.int (p3.toInt8.toInt32)), .val (.ref b5), .val (.int (0 : Int32)), .val (.int (((p1.toInt8.toInt32) + (1 : Int32)).toInt8.toInt32)), .val (.int (p2.toInt8.toInt32)), .val (.int (p3.toInt8.toInt32)), .val (.ref r), .val (.ref b5), .val (.ref ub)] [(.int (1 : Int32))])) _
    refine XS.ifNo X12.here hx rfl (hb hby at_207) rfl ((if0 _ _).trans (feq (by decide : ¬ ((1 : Int32) = (0 : Int32)))).1) ?_
    show Steps p.tables e below (T12.setTop (mkF m 210 #[.val (.int p1), .val (.int p2), .val (.int p3), .val (.int p4), .val (.int (2 : Int32)), .val (.int (p1.toInt8.toInt32)), .val (.int (p2.toInt8.toInt32)), .val (.int (p3.toInt8.toInt32)), .val (.ref b5), .val (.int (0 : Int32)), .val (.int (((p1.toInt8.toInt32) + (1 : Int32)).toInt8.toInt32)), .val (.int (p2.toInt8.toInt32)), .val (.int (p3.toInt8.toInt32)), .val (.ref r), .val (.ref b5), .val (.ref ub)] [])) _
    refine XS.aload X12.here hx rfl (hb hby at_210) rfl rfl ?_
    show Steps p.tables e below (T12.setTop (mkF m 212 #[.val (.int p1), .val (.int p2), .val (.int p3), .val (.int p4), .val (.int (2 : Int32)), .val (.int (p1.toInt8.toInt32)), .val (.int (p2.toInt8.toInt32)), .val (.int (p3.toInt8.toInt32)), .val (.ref b5), .val (.int (0 : Int32)), .val (.int (((p1.toInt8.toInt32) + (1 : Int32)).toInt8.toInt32)), .val (.int (p2.toInt8.toInt32)), .val (.int (p3.toInt8.toInt32)), .val (.ref r), .val (.ref b5), .val (.ref ub)] [(.ref ub)])) _
    refine XS.iload X12.here hx rfl (hb hby at_212) rfl ?_
    show Steps p.tables e below (T12.setTop (mkF m 214 #[.val (.int p1), .val (.int p2), .val (.int p3), .val (.int p4), .val (.int (2 : Int32)), .val (.int (p1.toInt8.toInt32)), .val (.int (p2.toInt8.toInt32)), .val (.int (p3.toInt8.toInt32)), .val (.ref b5), .val (.int (0 : Int32)), .val (.int (((p1.toInt8.toInt32) + (1 : Int32)).toInt8.toInt32)), .val (.int (p2.toInt8.toInt32)), .val (.int (p3.toInt8.toInt32)), .val (.ref r), .val (.ref b5), .val (.ref ub)] [(.int (0 : Int32)), (.ref ub)])) _
    refine XS.iconst X12.here hx rfl (hb hby at_214) ?_
    show Steps p.tables e below (T12.setTop (mkF m 215 #[.val (.int p1), .val (.int p2), .val (.int p3), .val (.int p4), .val (.int (2 : Int32)), .val (.int (p1.toInt8.toInt32)), .val (.int (p2.toInt8.toInt32)), .val (.int (p3.toInt8.toInt32)), .val (.ref b5), .val (.int (0 : Int32)), .val (.int (((p1.toInt8.toInt32) + (1 : Int32)).toInt8.toInt32)), .val (.int (p2.toInt8.toInt32)), .val (.int (p3.toInt8.toInt32)), .val (.ref r), .val (.ref b5), .val (.ref ub)] [(.int (1 : Int32)), (.int (0 : Int32)), (.ref ub)])) _
    refine XS.iadd X12.here hx rfl (hb hby at_215) rfl ?_
    show Steps p.tables e below (T12.setTop (mkF m 216 #[.val (.int p1), .val (.int p2), .val (.int p3), .val (.int p4), .val (.int (2 : Int32)), .val (.int (p1.toInt8.toInt32)), .val (.int (p2.toInt8.toInt32)), .val (.int (p3.toInt8.toInt32)), .val (.ref b5), .val (.int (0 : Int32)), .val (.int (((p1.toInt8.toInt32) + (1 : Int32)).toInt8.toInt32)), .val (.int (p2.toInt8.toInt32)), .val (.int (p3.toInt8.toInt32)), .val (.ref r), .val (.ref b5), .val (.ref ub)] [(.int ((0 : Int32) + (1 : Int32))), (.ref ub)])) _
    refine XS.iload X12.here hx rfl (hb hby at_216) rfl ?_
    show Steps p.tables e below (T12.setTop (mkF m 218 #[.val (.int p1), .val (.int p2), .val (.int p3), .val (.int p4), .val (.int (2 : Int32)), .val (.int (p1.toInt8.toInt32)), .val (.int (p2.toInt8.toInt32)), .val (.int (p3.toInt8.toInt32)), .val (.ref b5), .val (.int (0 : Int32)), .val (.int (((p1.toInt8.toInt32) + (1 : Int32)).toInt8.toInt32)), .val (.int (p2.toInt8.toInt32)), .val (.int (p3.toInt8.toInt32)), .val (.ref r), .val (.ref b5), .val (.ref ub)] [(.int (((p1.toInt8.toInt32) + (1 : Int32)).toInt8.toInt32)), (.int ((0 : Int32) + (1 : Int32))), (.ref ub)])) _
    refine XS.iload X12.here hx rfl (hb hby at_218) rfl ?_
    show Steps p.tables e below (T12.setTop (mkF m 220 #[.val (.int p1), .val (.int p2), .val (.int p3), .val (.int p4), .val (.int (2 : Int32)), .val (.int (p1.toInt8.toInt32)), .val (.int (p2.toInt8.toInt32)), .val (.int (p3.toInt8.toInt32)), .val (.ref b5), .val (.int (0 : Int32)), .val (.int (((p1.toInt8.toInt32) + (1 : Int32)).toInt8.toInt32)), .val (.int (p2.toInt8.toInt32)), .val (.int (p3.toInt8.toInt32)), .val (.ref r), .val (.ref b5), .val (.ref ub)] [(.int (p2.toInt8.toInt32)), (.int (((p1.toInt8.toInt32) + (1 : Int32)).toInt8.toInt32)), (.int ((0 : Int32) + (1 : Int32))), (.ref ub)])) _
    refine XS.iload X12.here hx rfl (hb hby at_220) rfl ?_
    show Steps p.tables e below (T12.setTop (mkF m 222 #[.val (.int p1), .val (.int p2), .val (.int p3), .val (.int p4), .val (.int (2 : Int32)), .val (.int (p1.toInt8.toInt32)), .val (.int (p2.toInt8.toInt32)), .val (.int (p3.toInt8.toInt32)), .val (.ref b5), .val (.int (0 : Int32)), .val (.int (((p1.toInt8.toInt32) + (1 : Int32)).toInt8.toInt32)), .val (.int (p2.toInt8.toInt32)), .val (.int (p3.toInt8.toInt32)), .val (.ref r), .val (.ref b5), .val (.ref ub)] [(.int (p3.toInt8.toInt32)), (.int (p2.toInt8.toInt32)), (.int (((p1.toInt8.toInt32) + (1 : Int32)).toInt8.toInt32)), (.int ((0 : Int32) + (1 : Int32))), (.ref ub)])) _
    refine st13 _ ?_
    show Steps p.tables e below (T13.setTop (mkF m 225 #[.val (.int p1), .val (.int p2), .val (.int p3), .val (.int p4), .val (.int (2 : Int32)), .val (.int (p1.toInt8.toInt32)), .val (.int (p2.toInt8.toInt32)), .val (.int (p3.toInt8.toInt32)), .val (.ref b5), .val (.int (0 : Int32)), .val (.int (((p1.toInt8.toInt32) + (1 : Int32)).toInt8.toInt32)), .val (.int (p2.toInt8.toInt32)), .val (.int (p3.toInt8.toInt32)), .val (.ref r), .val (.ref b5), .val (.ref ub)] [(.int (1 : Int32))])) _
    refine XS.ifNo X13.here hx rfl (hb hby at_225) rfl ((if0 _ _).trans (feq (by decide : ¬ ((1 : Int32) = (0 : Int32)))).1) ?_
    show Steps p.tables e below (T13.setTop (mkF m 228 #[.val (.int p1), .val (.int p2), .val (.int p3), .val (.int p4), .val (.int (2 : Int32)), .val (.int (p1.toInt8.toInt32)), .val (.int (p2.toInt8.toInt32)), .val (.int (p3.toInt8.toInt32)), .val (.ref b5), .val (.int (0 : Int32)), .val (.int (((p1.toInt8.toInt32) + (1 : Int32)).toInt8.toInt32)), .val (.int (p2.toInt8.toInt32)), .val (.int (p3.toInt8.toInt32)), .val (.ref r), .val (.ref b5), .val (.ref ub)] [])) _
    refine XS.iconst X13.here hx rfl (hb hby at_228) ?_
    show Steps p.tables e below (T13.setTop (mkF m 229 #[.val (.int p1), .val (.int p2), .val (.int p3), .val (.int p4), .val (.int (2 : Int32)), .val (.int (p1.toInt8.toInt32)), .val (.int (p2.toInt8.toInt32)), .val (.int (p3.toInt8.toInt32)), .val (.ref b5), .val (.int (0 : Int32)), .val (.int (((p1.toInt8.toInt32) + (1 : Int32)).toInt8.toInt32)), .val (.int (p2.toInt8.toInt32)), .val (.int (p3.toInt8.toInt32)), .val (.ref r), .val (.ref b5), .val (.ref ub)] [(.int (1 : Int32))])) _
    refine XS.goto X13.here hx rfl (pc0 := 229) (pc' := 233) rfl (hb hby at_229) (by decide) (by decide) ?_
    show Steps p.tables e below (T13.setTop (mkF m 233 #[.val (.int p1), .val (.int p2), .val (.int p3), .val (.int p4), .val (.int (2 : Int32)), .val (.int (p1.toInt8.toInt32)), .val (.int (p2.toInt8.toInt32)), .val (.int (p3.toInt8.toInt32)), .val (.ref b5), .val (.int (0 : Int32)), .val (.int (((p1.toInt8.toInt32) + (1 : Int32)).toInt8.toInt32)), .val (.int (p2.toInt8.toInt32)), .val (.int (p3.toInt8.toInt32)), .val (.ref r), .val (.ref b5), .val (.ref ub)] [(.int (1 : Int32))])) _
    exact retN X13 hx (t := .boolean) Bd.returns (by simp) (hb hby at_233) hr
  · show Q0 h0 n0 _ T13.heap _
    exact ⟨rfl, N13⟩

set_option maxRecDepth 65536 in
set_option maxHeartbeats 40000000 in
theorem rm0_32 (l : Launch) (Z : State) (a0 : Array Value) (hw : ∀ d ∈ tables_1, d.before a0 Z = true) (ws : List Jvm.Cond) (p1 : Int32) (p2 : Int32) (p3 : Int32) (p4 : Int32) (h0 : Heap) (n0 : Nat) (Z0 : n0 ≤ h0.size) (hlen : ((1 : Int32) + ((p4 &&& (3 : Int32)) % (3 : Int32))) = (3 : Int32)) (nk2 : ¬ ((p3.toInt8.toInt32) = (-1 : Int32))) :
    MetFree l x (head1 (Jvm.Cond.code x code maxLocals ret :: ws) room_1) (fun a U => a = #[(.int p1), (.int p2), (.int p3), (.int p4)] ∧ Z.Warmed39 U.vm ∧ U.heap = h0) (fun _ _ _ _ _ => True) (fun _ U o U' => ∃ v L, o = .returned v ∧ Q0 h0 n0 v U'.heap L ∧ FrameEnd U o U' L room_1.cells room_1.slots) := by
  refine MetFree.of_bodySF (plainFor_of_name pn_0) hisR ?_
  intro p e s m args below meth c s₁ Bd hml0 hP hK
  obtain ⟨rfl, hZ, hh⟩ := hP
  have hx := Bd.exec
  have hby := Bd.bytes
  have hml : c.maxLocals = 16 := hml0
  have hown : s.vm.findClass "com/example/coord2/coord2/KeyRangePrefixPinLaw" = some m.cls := findClass_of_methodNamed Bd.named
  have hnm := (name_of_methodNamed Bd.named Bd.method).1
  have X0 : Stand p l e room_1 s m #[(.int p1), (.int p2), (.int p3), (.int p4)] below meth c s₁ [] 0 0 := Stand.of_body Bd
  have e0 : s₁.heap = h0 := by rw [← hh, Bd.state]; rfl
  have N0 := Fr.nil n0
  have pre0 : ∀ t, Steps p.tables e below (s₁.setTop (mkF m 0 #[.val (.int p1), .val (.int p2), .val (.int p3), .val (.int p4), .unset, .unset, .unset, .unset, .unset, .unset, .unset, .unset, .unset, .unset, .unset, .unset] [])) t → Steps p.tables e below (s₁.setTop (entryFrame m #[(.int p1), (.int p2), (.int p3), (.int p4)] maxLocals)) t := fun t k => castTop (ef_0 m p1 p2 p3 p4) k
  obtain ⟨T5, h5, k5, X5, e5, E5, A5, EA5, st5⟩ := newPE X0 hx hZ (hw _ (List.mem_of_getElem? (i := 0) rfl)) e0 (g := (mkF m 23 #[.val (.int p1), .val (.int p2), .val (.int p3), .val (.int p4), .val (.int (3 : Int32)), .val (.int (p1.toInt8.toInt32)), .val (.int (p2.toInt8.toInt32)), .val (.int (p3.toInt8.toInt32)), .unset, .unset, .unset, .unset, .unset, .unset, .unset, .unset] [(.int (3 : Int32))])) rfl (hb hby at_23) rfl (by decide) (cap := 3) (by decide) (by decide) (by decide) (by decide) (ad := "[B") rfl
  obtain ⟨b5, g5⟩ : ∃ z, z = h0.size := ⟨_, rfl⟩
  rw [← g5] at A5 EA5 st5
  have V_b5 : Arv Z h5 b5 k5 .byte (3 : Int32) [(.int (0 : Int32)), (.int (0 : Int32)), (.int (0 : Int32))] (.int (0 : Int32)) := (Arv.new A5 (by decide)).pad (pad_rep [] (.int (0 : Int32)) 3)
  have g_b5 : n0 ≤ b5 := Nat.le_trans Z0 (Nat.le_of_eq g5.symm)
  have sz_b5 : h0.size ≤ b5 := (Nat.le_trans (Keep.refl h0 []).1 (Nat.le_of_eq g5.symm))
  have K5 : Keep h0 h5 [] := (Keep.refl h0 []).ext E5
  obtain ⟨cl_b5_32, Ar_b5, q_b5, S_b5, N_b5, H_b5, G_b5⟩ := V_b5
  have hin32 : ¬ ((0 : Int32) < 0 ∨ cl_b5_32.slots.size ≤ ((0 : Int32)).toNatClampNeg) := inb_of S_b5 ⟨by decide, by decide⟩
  obtain ⟨T6, h6, X6, e6, W6, st6⟩ := stB X5 hx hZ e5 Ar_b5 (j := (0 : Int32)) hin32 (g := (mkF m 32 #[.val (.int p1), .val (.int p2), .val (.int p3), .val (.int p4), .val (.int (3 : Int32)), .val (.int (p1.toInt8.toInt32)), .val (.int (p2.toInt8.toInt32)), .val (.int (p3.toInt8.toInt32)), .val (.ref b5), .unset, .unset, .unset, .unset, .unset, .unset, .unset] [(.int (p1.toInt8.toInt32)), (.int (0 : Int32)), (.ref b5)])) rfl rfl (hb hby at_32)
  have V_b5_6 := Arv.set Ar_b5 q_b5 S_b5 N_b5 H_b5 G_b5 (fits_nar_byte _) W6 0 rfl (Nat.le_of_ble_eq_true rfl)
  have K6 : Keep h0 h6 [] := K5.wr W6 (Or.inr sz_b5)
  have N6 := Fr.snoc X6 N0 g_b5
  obtain ⟨cl_b5_44, Ar_b5, q_b5, S_b5, N_b5, H_b5, G_b5⟩ := V_b5_6
  have hin44 : ¬ ((1 : Int32) < 0 ∨ cl_b5_44.slots.size ≤ ((1 : Int32)).toNatClampNeg) := inb_of S_b5 ⟨by decide, by decide⟩
  obtain ⟨T7, h7, X7, e7, W7, st7⟩ := stB X6 hx hZ e6 Ar_b5 (j := (1 : Int32)) hin44 (g := (mkF m 44 #[.val (.int p1), .val (.int p2), .val (.int p3), .val (.int p4), .val (.int (3 : Int32)), .val (.int (p1.toInt8.toInt32)), .val (.int (p2.toInt8.toInt32)), .val (.int (p3.toInt8.toInt32)), .val (.ref b5), .unset, .unset, .unset, .unset, .unset, .unset, .unset] [(.int (p2.toInt8.toInt32)), (.int (1 : Int32)), (.ref b5)])) rfl rfl (hb hby at_44)
  have V_b5_7 := Arv.set Ar_b5 q_b5 S_b5 N_b5 H_b5 G_b5 (fits_nar_byte _) W7 1 rfl (Nat.le_of_ble_eq_true rfl)
  have K7 : Keep h0 h7 [] := K6.wr W7 (Or.inr sz_b5)
  have N7 := Fr.snoc X7 N6 g_b5
  obtain ⟨cl_b5_56, Ar_b5, q_b5, S_b5, N_b5, H_b5, G_b5⟩ := V_b5_7
  have hin56 : ¬ ((2 : Int32) < 0 ∨ cl_b5_56.slots.size ≤ ((2 : Int32)).toNatClampNeg) := inb_of S_b5 ⟨by decide, by decide⟩
  obtain ⟨T8, h8, X8, e8, W8, st8⟩ := stB X7 hx hZ e7 Ar_b5 (j := (2 : Int32)) hin56 (g := (mkF m 56 #[.val (.int p1), .val (.int p2), .val (.int p3), .val (.int p4), .val (.int (3 : Int32)), .val (.int (p1.toInt8.toInt32)), .val (.int (p2.toInt8.toInt32)), .val (.int (p3.toInt8.toInt32)), .val (.ref b5), .unset, .unset, .unset, .unset, .unset, .unset, .unset] [(.int (p3.toInt8.toInt32)), (.int (2 : Int32)), (.ref b5)])) rfl rfl (hb hby at_56)
  have V_b5_8 := Arv.set Ar_b5 q_b5 S_b5 N_b5 H_b5 G_b5 (fits_nar_byte _) W8 2 rfl (Nat.le_of_ble_eq_true rfl)
  have K8 : Keep h0 h8 [] := K7.wr W8 (Or.inr sz_b5)
  have N8 := Fr.snoc X8 N7 g_b5
  obtain ⟨cl, ArP, -, SP, -, HP, GP⟩ := V_b5_8
  have TyP : ∀ (i : Nat) (v : Value), cl.slots[i]? = some v → fits .byte v = true := fun i v hv => by
    obtain ⟨hi, -⟩ := Array.getElem?_eq_some_iff.mp hv
    rw [HP i hi] at hv; cases hv; exact GP i hi
  have c0 : cl.slots[0]? = some (.int (p1.toInt8.toInt32)) := (HP 0 (by rw [SP]; decide)).trans (congrArg (fun q => some (Value.int q)) (own_nar _))
  have c1 : cl.slots[1]? = some (.int (p2.toInt8.toInt32)) := (HP 1 (by rw [SP]; decide)).trans (congrArg (fun q => some (Value.int q)) (own_nar _))
  have c2 : cl.slots[2]? = some (.int (p3.toInt8.toInt32)) := (HP 2 (by rw [SP]; decide)).trans (congrArg (fun q => some (Value.int q)) (own_nar _))
  have hlat : ∀ j : Nat, 2 < j → j < cl.slots.size → cl.slots[j]? = some (.int (-1 : Int32)) := fun j h1 h2 => by
      rw [SP] at h2
      have h2 : j < 3 := h2
      omega
  have ExP : Exa Z h8 b5 "[B" := (((EA5.wr W6).wr W7).wr W8)
  obtain ⟨r, gr⟩ : ∃ q, q = h8.size := ⟨_, rfl⟩
  obtain ⟨_, _, ⟨T9, L9, k9, n9⟩, -, X9, ⟨Lc9, hQ9, l9, y9, z9⟩, st9⟩ := Jvm.LawKit.callS X8 hx (y := (⟨"com/example/coord2/coord2/KeyRange", "prefix", "([B)Lcom/example/coord2/coord2/KeyRange;"⟩ : MethodName)) hown (mvT hZ (hw _ (List.mem_of_getElem? (i := 1) rfl))) (mvT hZ (hw _ (List.mem_of_getElem? (i := 2) rfl))) (mvT hZ (hw _ (List.mem_of_getElem? (i := 3) rfl))) (mvT hZ (hw _ (List.mem_of_getElem? (i := 4) rfl))) (by decide) (backOf (W := 0) (rm1 l Z a0 hw [] b5 cl (3 : Int32) 2 (p3.toInt8.toInt32) r h8 n0 (Nat.le_trans Z0 K8.1) gr ArP ExP SP TyP (Or.inr (Or.inr (Or.inr (Or.inl ⟨rfl, rfl⟩)))) c2 nk2 hlat) hZ (hw _ (List.mem_of_getElem? (i := 4) rfl)) (hw _ (List.mem_of_getElem? (i := 3) rfl)) (by decide) (by decide)) (g := (mkF m 159 #[.val (.int p1), .val (.int p2), .val (.int p3), .val (.int p4), .val (.int (3 : Int32)), .val (.int (p1.toInt8.toInt32)), .val (.int (p2.toInt8.toInt32)), .val (.int (p3.toInt8.toInt32)), .val (.ref b5), .val (.int (2 : Int32)), .val (.int (p1.toInt8.toInt32)), .val (.int (p2.toInt8.toInt32)), .val (.int (((p3.toInt8.toInt32) + (1 : Int32)).toInt8.toInt32)), .unset, .unset, .unset] [(.ref b5)])) rfl (by rw [hml]; rfl) (argsL := [(.ref b5)]) (rest := []) (lenOf pd_0_0 rfl) rfl (by show 2 * 0 + _ ≤ _; exact Nat.le_of_eq rfl) (hb hby at_159) (fun _ _ => ⟨rfl, e8, (Nat.le_of_ble_eq_true rfl), (Nat.le_of_ble_eq_true rfl)⟩)
  dsimp only [Pt.U, Pt.locs, Pt.cells, Pt.slots] at X9 l9 y9 z9 st9 hQ9
  subst l9 y9 z9
  obtain ⟨rfl, N9q, KC, EX, FL, ub, B, FU, ArU, SU, HU, UK⟩ := hQ9
  have ArP' : Arr Z T9.heap b5 cl .byte := own_arr ArP KC List.not_mem_nil
  have ZT : n0 ≤ T9.heap.size := Nat.le_trans (Nat.le_trans Z0 K8.1) KC.1
  have eq9 : T9.heap = T9.heap := rfl
  have N9 := Fr.app N8 N9q
  obtain ⟨cq10, kq10, q10a, q10b, q10c⟩ := isOf hZ rfl (by rw [eq9]; exact EX : Exa Z T9.heap r "com/example/coord2/coord2/KeyRange")
  obtain ⟨_, _, ⟨T10, L10, k10, n10⟩, -, X10, ⟨Lc10, hQ10, l10, y10, z10⟩, st10⟩ := X9.virtualBack hx (y := (⟨"com/example/coord2/coord2/KeyRange", "lower", "()[B"⟩ : MethodName)) (z := (⟨"com/example/coord2/coord2/KeyRange", "lower", "()[B"⟩ : MethodName)) hown (mvT hZ (hw _ (List.mem_of_getElem? (i := 38) rfl))) (mvT hZ (hw _ (List.mem_of_getElem? (i := 39) rfl))) (notFace_of_selects (args := #[]) (mvT hZ (hw _ (List.mem_of_getElem? (i := 41) rfl)))) (mvT hZ (hw _ (List.mem_of_getElem? (i := 41) rfl))) (mvT hZ (hw _ (List.mem_of_getElem? (i := 40) rfl))) (by decide) (backOf (W := 0) (rm7 l Z a0 hw [] r b5 T9.heap n0 ZT FL) hZ (hw _ (List.mem_of_getElem? (i := 42) rfl)) (hw _ (List.mem_of_getElem? (i := 3) rfl)) (by decide) (by decide)) q10a q10c (g := (mkF m 166 #[.val (.int p1), .val (.int p2), .val (.int p3), .val (.int p4), .val (.int (3 : Int32)), .val (.int (p1.toInt8.toInt32)), .val (.int (p2.toInt8.toInt32)), .val (.int (p3.toInt8.toInt32)), .val (.ref b5), .val (.int (2 : Int32)), .val (.int (p1.toInt8.toInt32)), .val (.int (p2.toInt8.toInt32)), .val (.int (((p3.toInt8.toInt32) + (1 : Int32)).toInt8.toInt32)), .val (.ref r), .unset, .unset] [(.ref r)])) rfl (by rw [hml]; rfl) (Steps.refl _) (argsL := []) (rest := []) (lenOf pd_0_6 rfl) rfl (by show 2 * 0 + _ ≤ _; exact Nat.le_of_eq rfl) (hb hby at_166) (fun _ _ => ⟨rfl, rfl, (Nat.le_of_ble_eq_true rfl), (Nat.le_of_ble_eq_true rfl)⟩)
  dsimp only [Pt.U, Pt.locs, Pt.cells, Pt.slots] at X10 l10 y10 z10 st10 hQ10
  subst l10 y10 z10
  obtain ⟨rfl, N10q, hq10⟩ := hQ10
  have eq10 : T10.heap = T9.heap := hq10.trans eq9
  have N10 := Fr.app N9 N10q
  obtain ⟨cq11, kq11, q11a, q11b, q11c⟩ := isOf hZ rfl (by rw [eq10]; exact EX : Exa Z T10.heap r "com/example/coord2/coord2/KeyRange")
  obtain ⟨_, _, ⟨T11, L11, k11, n11⟩, -, X11, ⟨Lc11, hQ11, l11, y11, z11⟩, st11⟩ := X10.virtualBack hx (y := (⟨"com/example/coord2/coord2/KeyRange", "upper", "()[B"⟩ : MethodName)) (z := (⟨"com/example/coord2/coord2/KeyRange", "upper", "()[B"⟩ : MethodName)) hown (mvT hZ (hw _ (List.mem_of_getElem? (i := 43) rfl))) (mvT hZ (hw _ (List.mem_of_getElem? (i := 44) rfl))) (notFace_of_selects (args := #[]) (mvT hZ (hw _ (List.mem_of_getElem? (i := 46) rfl)))) (mvT hZ (hw _ (List.mem_of_getElem? (i := 46) rfl))) (mvT hZ (hw _ (List.mem_of_getElem? (i := 45) rfl))) (by decide) (backOf (W := 0) (rm8 l Z a0 hw [] r ub T10.heap n0 (by rw [eq10]; exact ZT) (by rw [eq10]; exact FU)) hZ (hw _ (List.mem_of_getElem? (i := 47) rfl)) (hw _ (List.mem_of_getElem? (i := 3) rfl)) (by decide) (by decide)) q11a q11c (g := (mkF m 173 #[.val (.int p1), .val (.int p2), .val (.int p3), .val (.int p4), .val (.int (3 : Int32)), .val (.int (p1.toInt8.toInt32)), .val (.int (p2.toInt8.toInt32)), .val (.int (p3.toInt8.toInt32)), .val (.ref b5), .val (.int (2 : Int32)), .val (.int (p1.toInt8.toInt32)), .val (.int (p2.toInt8.toInt32)), .val (.int (((p3.toInt8.toInt32) + (1 : Int32)).toInt8.toInt32)), .val (.ref r), .val (.ref b5), .unset] [(.ref r)])) rfl (by rw [hml]; rfl) (Steps.refl _) (argsL := []) (rest := []) (lenOf pd_0_6 rfl) rfl (by show 2 * 0 + _ ≤ _; exact Nat.le_of_eq rfl) (hb hby at_173) (fun _ _ => ⟨rfl, rfl, (Nat.le_of_ble_eq_true rfl), (Nat.le_of_ble_eq_true rfl)⟩)
  dsimp only [Pt.U, Pt.locs, Pt.cells, Pt.slots] at X11 l11 y11 z11 st11 hQ11
  subst l11 y11 z11
  obtain ⟨rfl, N11q, hq11⟩ := hQ11
  have eq11 : T11.heap = T9.heap := hq11.trans eq10
  have N11 := Fr.app N10 N11q
  obtain ⟨_, _, ⟨T12, L12, k12, n12⟩, -, X12, ⟨Lc12, hQ12, l12, y12, z12⟩, st12⟩ := Jvm.LawKit.callS X11 hx (y := (⟨"com/example/coord2/coord2/KeyRangePrefixPinLaw", "same", "([BIBBB)Z"⟩ : MethodName)) hown (mvT hZ (hw _ (List.mem_of_getElem? (i := 48) rfl))) (mvT hZ (hw _ (List.mem_of_getElem? (i := 49) rfl))) (mvT hZ (hw _ (List.mem_of_getElem? (i := 50) rfl))) (mvT hZ (hw _ (List.mem_of_getElem? (i := 51) rfl))) (by decide) (backOf (W := 0) (rm9 l Z a0 hw [] b5 (3 : Int32) (p1.toInt8.toInt32) (p2.toInt8.toInt32) (p3.toInt8.toInt32) cl T11.heap n0 (by rw [eq11]; exact ZT) (by rw [eq11]; exact ArP') SP (Or.inr (Or.inr rfl)) c0 (Or.inr c1) (Or.inr (Or.inr c2))) hZ (hw _ (List.mem_of_getElem? (i := 51) rfl)) (hw _ (List.mem_of_getElem? (i := 50) rfl)) (by decide) (by decide)) (g := (mkF m 188 #[.val (.int p1), .val (.int p2), .val (.int p3), .val (.int p4), .val (.int (3 : Int32)), .val (.int (p1.toInt8.toInt32)), .val (.int (p2.toInt8.toInt32)), .val (.int (p3.toInt8.toInt32)), .val (.ref b5), .val (.int (2 : Int32)), .val (.int (p1.toInt8.toInt32)), .val (.int (p2.toInt8.toInt32)), .val (.int (((p3.toInt8.toInt32) + (1 : Int32)).toInt8.toInt32)), .val (.ref r), .val (.ref b5), .val (.ref ub)] [(.int (p3.toInt8.toInt32)), (.int (p2.toInt8.toInt32)), (.int (p1.toInt8.toInt32)), (.int (3 : Int32)), (.ref b5)])) rfl (by rw [hml]; rfl) (argsL := [(.ref b5), (.int (3 : Int32)), (.int (p1.toInt8.toInt32)), (.int (p2.toInt8.toInt32)), (.int (p3.toInt8.toInt32))]) (rest := []) (lenOf pd_0_7 rfl) rfl (by show 2 * 0 + _ ≤ _; exact Nat.le_of_eq rfl) (hb hby at_188) (fun _ _ => ⟨rfl, rfl, (Nat.le_of_ble_eq_true rfl), (Nat.le_of_ble_eq_true rfl)⟩)
  dsimp only [Pt.U, Pt.locs, Pt.cells, Pt.slots] at X12 l12 y12 z12 st12 hQ12
  subst l12 y12 z12
  obtain ⟨rfl, N12q, hq12⟩ := hQ12
  have eq12 : T12.heap = T9.heap := hq12.trans eq11
  have N12 := Fr.app N11 N12q
  obtain ⟨_, _, ⟨T13, L13, k13, n13⟩, -, X13, ⟨Lc13, hQ13, l13, y13, z13⟩, st13⟩ := Jvm.LawKit.callS X12 hx (y := (⟨"com/example/coord2/coord2/KeyRangePrefixPinLaw", "same", "([BIBBB)Z"⟩ : MethodName)) hown (mvT hZ (hw _ (List.mem_of_getElem? (i := 48) rfl))) (mvT hZ (hw _ (List.mem_of_getElem? (i := 49) rfl))) (mvT hZ (hw _ (List.mem_of_getElem? (i := 50) rfl))) (mvT hZ (hw _ (List.mem_of_getElem? (i := 51) rfl))) (by decide) (backOf (W := 0) (rm9 l Z a0 hw [] b5 (3 : Int32) (p1.toInt8.toInt32) (p2.toInt8.toInt32) (p3.toInt8.toInt32) cl T12.heap n0 (by rw [eq12]; exact ZT) (by rw [eq12]; exact ArP') SP (Or.inr (Or.inr rfl)) c0 (Or.inr c1) (Or.inr (Or.inr c2))) hZ (hw _ (List.mem_of_getElem? (i := 51) rfl)) (hw _ (List.mem_of_getElem? (i := 50) rfl)) (by decide) (by decide)) (g := (mkF m 204 #[.val (.int p1), .val (.int p2), .val (.int p3), .val (.int p4), .val (.int (3 : Int32)), .val (.int (p1.toInt8.toInt32)), .val (.int (p2.toInt8.toInt32)), .val (.int (p3.toInt8.toInt32)), .val (.ref b5), .val (.int (2 : Int32)), .val (.int (p1.toInt8.toInt32)), .val (.int (p2.toInt8.toInt32)), .val (.int (((p3.toInt8.toInt32) + (1 : Int32)).toInt8.toInt32)), .val (.ref r), .val (.ref b5), .val (.ref ub)] [(.int (p3.toInt8.toInt32)), (.int (p2.toInt8.toInt32)), (.int (p1.toInt8.toInt32)), (.int (3 : Int32)), (.ref b5)])) rfl (by rw [hml]; rfl) (argsL := [(.ref b5), (.int (3 : Int32)), (.int (p1.toInt8.toInt32)), (.int (p2.toInt8.toInt32)), (.int (p3.toInt8.toInt32))]) (rest := []) (lenOf pd_0_7 rfl) rfl (by show 2 * 0 + _ ≤ _; exact Nat.le_of_eq rfl) (hb hby at_204) (fun _ _ => ⟨rfl, rfl, (Nat.le_of_ble_eq_true rfl), (Nat.le_of_ble_eq_true rfl)⟩)
  dsimp only [Pt.U, Pt.locs, Pt.cells, Pt.slots] at X13 l13 y13 z13 st13 hQ13
  subst l13 y13 z13
  obtain ⟨rfl, N13q, hq13⟩ := hQ13
  have eq13 : T13.heap = T9.heap := hq13.trans eq12
  have N13 := Fr.app N12 N13q
  obtain ⟨_, _, ⟨T14, L14, k14, n14⟩, -, X14, ⟨Lc14, hQ14, l14, y14, z14⟩, st14⟩ := Jvm.LawKit.callS X13 hx (y := (⟨"com/example/coord2/coord2/KeyRangePrefixPinLaw", "same", "([BIBBB)Z"⟩ : MethodName)) hown (mvT hZ (hw _ (List.mem_of_getElem? (i := 48) rfl))) (mvT hZ (hw _ (List.mem_of_getElem? (i := 49) rfl))) (mvT hZ (hw _ (List.mem_of_getElem? (i := 50) rfl))) (mvT hZ (hw _ (List.mem_of_getElem? (i := 51) rfl))) (by decide) (backOf (W := 0) (rm9 l Z a0 hw [] ub ((2 : Int32) + (1 : Int32)) (p1.toInt8.toInt32) (p2.toInt8.toInt32) (((p3.toInt8.toInt32) + (1 : Int32)).toInt8.toInt32) B T13.heap n0 (by rw [eq13]; exact ZT) (by rw [eq13]; exact ArU) (by rw [SU]; decide) (Or.inr (Or.inr (by decide))) ((HU 0 (by decide)).trans c0) (Or.inr ((HU 1 (by decide)).trans c1)) (Or.inr (Or.inr UK))) hZ (hw _ (List.mem_of_getElem? (i := 51) rfl)) (hw _ (List.mem_of_getElem? (i := 50) rfl)) (by decide) (by decide)) (g := (mkF m 222 #[.val (.int p1), .val (.int p2), .val (.int p3), .val (.int p4), .val (.int (3 : Int32)), .val (.int (p1.toInt8.toInt32)), .val (.int (p2.toInt8.toInt32)), .val (.int (p3.toInt8.toInt32)), .val (.ref b5), .val (.int (2 : Int32)), .val (.int (p1.toInt8.toInt32)), .val (.int (p2.toInt8.toInt32)), .val (.int (((p3.toInt8.toInt32) + (1 : Int32)).toInt8.toInt32)), .val (.ref r), .val (.ref b5), .val (.ref ub)] [(.int (((p3.toInt8.toInt32) + (1 : Int32)).toInt8.toInt32)), (.int (p2.toInt8.toInt32)), (.int (p1.toInt8.toInt32)), (.int ((2 : Int32) + (1 : Int32))), (.ref ub)])) rfl (by rw [hml]; rfl) (argsL := [(.ref ub), (.int ((2 : Int32) + (1 : Int32))), (.int (p1.toInt8.toInt32)), (.int (p2.toInt8.toInt32)), (.int (((p3.toInt8.toInt32) + (1 : Int32)).toInt8.toInt32))]) (rest := []) (lenOf pd_0_7 rfl) rfl (by show 2 * 0 + _ ≤ _; exact Nat.le_of_eq rfl) (hb hby at_222) (fun _ _ => ⟨rfl, rfl, (Nat.le_of_ble_eq_true rfl), (Nat.le_of_ble_eq_true rfl)⟩)
  dsimp only [Pt.U, Pt.locs, Pt.cells, Pt.slots] at X14 l14 y14 z14 st14 hQ14
  subst l14 y14 z14
  obtain ⟨rfl, N14q, hq14⟩ := hQ14
  have eq14 : T14.heap = T9.heap := hq14.trans eq13
  have N14 := Fr.app N13 N14q
  obtain ⟨fs, hr, hrun, hended, hW, hsame⟩ := X14.leave (v := some (.int (1 : Int32))) (fun h => by rw [Bd.returns] at h; cases h)
  refine ⟨_, _, pre0 _ ?_, hrun, hended, _, _, rfl, ?_, ⟨_, rfl⟩, hW, hsame.mono (by decide) (by decide)⟩
  · show Steps p.tables e below (s₁.setTop (mkF m 0 #[.val (.int p1), .val (.int p2), .val (.int p3), .val (.int p4), .unset, .unset, .unset, .unset, .unset, .unset, .unset, .unset, .unset, .unset, .unset, .unset] [])) _
    refine XS.iconst X0.here hx rfl (hb hby at_0) ?_
    show Steps p.tables e below (s₁.setTop (mkF m 1 #[.val (.int p1), .val (.int p2), .val (.int p3), .val (.int p4), .unset, .unset, .unset, .unset, .unset, .unset, .unset, .unset, .unset, .unset, .unset, .unset] [(.int (1 : Int32))])) _
    refine XS.iloadN X0.here hx rfl (hb hby at_1) rfl ?_
    show Steps p.tables e below (s₁.setTop (mkF m 2 #[.val (.int p1), .val (.int p2), .val (.int p3), .val (.int p4), .unset, .unset, .unset, .unset, .unset, .unset, .unset, .unset, .unset, .unset, .unset, .unset] [(.int p4), (.int (1 : Int32))])) _
    refine XS.iconst X0.here hx rfl (hb hby at_2) ?_
    show Steps p.tables e below (s₁.setTop (mkF m 3 #[.val (.int p1), .val (.int p2), .val (.int p3), .val (.int p4), .unset, .unset, .unset, .unset, .unset, .unset, .unset, .unset, .unset, .unset, .unset, .unset] [(.int (3 : Int32)), (.int p4), (.int (1 : Int32))])) _
    refine XS.iand X0.here hx rfl (hb hby at_3) rfl ?_
    show Steps p.tables e below (s₁.setTop (mkF m 4 #[.val (.int p1), .val (.int p2), .val (.int p3), .val (.int p4), .unset, .unset, .unset, .unset, .unset, .unset, .unset, .unset, .unset, .unset, .unset, .unset] [(.int (p4 &&& (3 : Int32))), (.int (1 : Int32))])) _
    refine XS.iconst X0.here hx rfl (hb hby at_4) ?_
    show Steps p.tables e below (s₁.setTop (mkF m 5 #[.val (.int p1), .val (.int p2), .val (.int p3), .val (.int p4), .unset, .unset, .unset, .unset, .unset, .unset, .unset, .unset, .unset, .unset, .unset, .unset] [(.int (3 : Int32)), (.int (p4 &&& (3 : Int32))), (.int (1 : Int32))])) _
    refine iremM X0 hx rfl (hb hby at_5) rfl (by decide) ?_
    show Steps p.tables e below (s₁.setTop (mkF m 6 #[.val (.int p1), .val (.int p2), .val (.int p3), .val (.int p4), .unset, .unset, .unset, .unset, .unset, .unset, .unset, .unset, .unset, .unset, .unset, .unset] [(.int ((p4 &&& (3 : Int32)) % (3 : Int32))), (.int (1 : Int32))])) _
    refine XS.iadd X0.here hx rfl (hb hby at_6) rfl ?_
    show Steps p.tables e below (s₁.setTop (mkF m 7 #[.val (.int p1), .val (.int p2), .val (.int p3), .val (.int p4), .unset, .unset, .unset, .unset, .unset, .unset, .unset, .unset, .unset, .unset, .unset, .unset] [(.int ((1 : Int32) + ((p4 &&& (3 : Int32)) % (3 : Int32))))])) _
    rw [hlen]
    refine XS.istore X0.here hx rfl (hb hby at_7) rfl (l' := #[.val (.int p1), .val (.int p2), .val (.int p3), .val (.int p4), .val (.int (3 : Int32)), .unset, .unset, .unset, .unset, .unset, .unset, .unset, .unset, .unset, .unset, .unset]) rfl ?_
    show Steps p.tables e below (s₁.setTop (mkF m 9 #[.val (.int p1), .val (.int p2), .val (.int p3), .val (.int p4), .val (.int (3 : Int32)), .unset, .unset, .unset, .unset, .unset, .unset, .unset, .unset, .unset, .unset, .unset] [])) _
    refine XS.iloadN X0.here hx rfl (hb hby at_9) rfl ?_
    show Steps p.tables e below (s₁.setTop (mkF m 10 #[.val (.int p1), .val (.int p2), .val (.int p3), .val (.int p4), .val (.int (3 : Int32)), .unset, .unset, .unset, .unset, .unset, .unset, .unset, .unset, .unset, .unset, .unset] [(.int p1)])) _
    refine XS.i2b X0.here hx rfl (hb hby at_10) rfl ?_
    show Steps p.tables e below (s₁.setTop (mkF m 11 #[.val (.int p1), .val (.int p2), .val (.int p3), .val (.int p4), .val (.int (3 : Int32)), .unset, .unset, .unset, .unset, .unset, .unset, .unset, .unset, .unset, .unset, .unset] [(.int (p1.toInt8.toInt32))])) _
    refine XS.istore X0.here hx rfl (hb hby at_11) rfl (l' := #[.val (.int p1), .val (.int p2), .val (.int p3), .val (.int p4), .val (.int (3 : Int32)), .val (.int (p1.toInt8.toInt32)), .unset, .unset, .unset, .unset, .unset, .unset, .unset, .unset, .unset, .unset]) rfl ?_
    show Steps p.tables e below (s₁.setTop (mkF m 13 #[.val (.int p1), .val (.int p2), .val (.int p3), .val (.int p4), .val (.int (3 : Int32)), .val (.int (p1.toInt8.toInt32)), .unset, .unset, .unset, .unset, .unset, .unset, .unset, .unset, .unset, .unset] [])) _
    refine XS.iloadN X0.here hx rfl (hb hby at_13) rfl ?_
    show Steps p.tables e below (s₁.setTop (mkF m 14 #[.val (.int p1), .val (.int p2), .val (.int p3), .val (.int p4), .val (.int (3 : Int32)), .val (.int (p1.toInt8.toInt32)), .unset, .unset, .unset, .unset, .unset, .unset, .unset, .unset, .unset, .unset] [(.int p2)])) _
    refine XS.i2b X0.here hx rfl (hb hby at_14) rfl ?_
    show Steps p.tables e below (s₁.setTop (mkF m 15 #[.val (.int p1), .val (.int p2), .val (.int p3), .val (.int p4), .val (.int (3 : Int32)), .val (.int (p1.toInt8.toInt32)), .unset, .unset, .unset, .unset, .unset, .unset, .unset, .unset, .unset, .unset] [(.int (p2.toInt8.toInt32))])) _
    refine XS.istore X0.here hx rfl (hb hby at_15) rfl (l' := #[.val (.int p1), .val (.int p2), .val (.int p3), .val (.int p4), .val (.int (3 : Int32)), .val (.int (p1.toInt8.toInt32)), .val (.int (p2.toInt8.toInt32)), .unset, .unset, .unset, .unset, .unset, .unset, .unset, .unset, .unset]) rfl ?_
    show Steps p.tables e below (s₁.setTop (mkF m 17 #[.val (.int p1), .val (.int p2), .val (.int p3), .val (.int p4), .val (.int (3 : Int32)), .val (.int (p1.toInt8.toInt32)), .val (.int (p2.toInt8.toInt32)), .unset, .unset, .unset, .unset, .unset, .unset, .unset, .unset, .unset] [])) _
    refine XS.iloadN X0.here hx rfl (hb hby at_17) rfl ?_
    show Steps p.tables e below (s₁.setTop (mkF m 18 #[.val (.int p1), .val (.int p2), .val (.int p3), .val (.int p4), .val (.int (3 : Int32)), .val (.int (p1.toInt8.toInt32)), .val (.int (p2.toInt8.toInt32)), .unset, .unset, .unset, .unset, .unset, .unset, .unset, .unset, .unset] [(.int p3)])) _
    refine XS.i2b X0.here hx rfl (hb hby at_18) rfl ?_
    show Steps p.tables e below (s₁.setTop (mkF m 19 #[.val (.int p1), .val (.int p2), .val (.int p3), .val (.int p4), .val (.int (3 : Int32)), .val (.int (p1.toInt8.toInt32)), .val (.int (p2.toInt8.toInt32)), .unset, .unset, .unset, .unset, .unset, .unset, .unset, .unset, .unset] [(.int (p3.toInt8.toInt32))])) _
    refine XS.istore X0.here hx rfl (hb hby at_19) rfl (l' := #[.val (.int p1), .val (.int p2), .val (.int p3), .val (.int p4), .val (.int (3 : Int32)), .val (.int (p1.toInt8.toInt32)), .val (.int (p2.toInt8.toInt32)), .val (.int (p3.toInt8.toInt32)), .unset, .unset, .unset, .unset, .unset, .unset, .unset, .unset]) rfl ?_
    show Steps p.tables e below (s₁.setTop (mkF m 21 #[.val (.int p1), .val (.int p2), .val (.int p3), .val (.int p4), .val (.int (3 : Int32)), .val (.int (p1.toInt8.toInt32)), .val (.int (p2.toInt8.toInt32)), .val (.int (p3.toInt8.toInt32)), .unset, .unset, .unset, .unset, .unset, .unset, .unset, .unset] [])) _
    refine XS.iload X0.here hx rfl (hb hby at_21) rfl ?_
    show Steps p.tables e below (s₁.setTop (mkF m 23 #[.val (.int p1), .val (.int p2), .val (.int p3), .val (.int p4), .val (.int (3 : Int32)), .val (.int (p1.toInt8.toInt32)), .val (.int (p2.toInt8.toInt32)), .val (.int (p3.toInt8.toInt32)), .unset, .unset, .unset, .unset, .unset, .unset, .unset, .unset] [(.int (3 : Int32))])) _
    refine st5 _ ?_
    show Steps p.tables e below (T5.setTop (mkF m 25 #[.val (.int p1), .val (.int p2), .val (.int p3), .val (.int p4), .val (.int (3 : Int32)), .val (.int (p1.toInt8.toInt32)), .val (.int (p2.toInt8.toInt32)), .val (.int (p3.toInt8.toInt32)), .unset, .unset, .unset, .unset, .unset, .unset, .unset, .unset] [(.ref b5)])) _
    refine XS.astore X5.here hx rfl (hb hby at_25) rfl rfl (l' := #[.val (.int p1), .val (.int p2), .val (.int p3), .val (.int p4), .val (.int (3 : Int32)), .val (.int (p1.toInt8.toInt32)), .val (.int (p2.toInt8.toInt32)), .val (.int (p3.toInt8.toInt32)), .val (.ref b5), .unset, .unset, .unset, .unset, .unset, .unset, .unset]) rfl ?_
    show Steps p.tables e below (T5.setTop (mkF m 27 #[.val (.int p1), .val (.int p2), .val (.int p3), .val (.int p4), .val (.int (3 : Int32)), .val (.int (p1.toInt8.toInt32)), .val (.int (p2.toInt8.toInt32)), .val (.int (p3.toInt8.toInt32)), .val (.ref b5), .unset, .unset, .unset, .unset, .unset, .unset, .unset] [])) _
    refine XS.aload X5.here hx rfl (hb hby at_27) rfl rfl ?_
    show Steps p.tables e below (T5.setTop (mkF m 29 #[.val (.int p1), .val (.int p2), .val (.int p3), .val (.int p4), .val (.int (3 : Int32)), .val (.int (p1.toInt8.toInt32)), .val (.int (p2.toInt8.toInt32)), .val (.int (p3.toInt8.toInt32)), .val (.ref b5), .unset, .unset, .unset, .unset, .unset, .unset, .unset] [(.ref b5)])) _
    refine XS.iconst X5.here hx rfl (hb hby at_29) ?_
    show Steps p.tables e below (T5.setTop (mkF m 30 #[.val (.int p1), .val (.int p2), .val (.int p3), .val (.int p4), .val (.int (3 : Int32)), .val (.int (p1.toInt8.toInt32)), .val (.int (p2.toInt8.toInt32)), .val (.int (p3.toInt8.toInt32)), .val (.ref b5), .unset, .unset, .unset, .unset, .unset, .unset, .unset] [(.int (0 : Int32)), (.ref b5)])) _
    refine XS.iload X5.here hx rfl (hb hby at_30) rfl ?_
    show Steps p.tables e below (T5.setTop (mkF m 32 #[.val (.int p1), .val (.int p2), .val (.int p3), .val (.int p4), .val (.int (3 : Int32)), .val (.int (p1.toInt8.toInt32)), .val (.int (p2.toInt8.toInt32)), .val (.int (p3.toInt8.toInt32)), .val (.ref b5), .unset, .unset, .unset, .unset, .unset, .unset, .unset] [(.int (p1.toInt8.toInt32)), (.int (0 : Int32)), (.ref b5)])) _
    refine st6 _ ?_
    show Steps p.tables e below (T6.setTop (mkF m 33 #[.val (.int p1), .val (.int p2), .val (.int p3), .val (.int p4), .val (.int (3 : Int32)), .val (.int (p1.toInt8.toInt32)), .val (.int (p2.toInt8.toInt32)), .val (.int (p3.toInt8.toInt32)), .val (.ref b5), .unset, .unset, .unset, .unset, .unset, .unset, .unset] [])) _
    refine XS.iload X6.here hx rfl (hb hby at_33) rfl ?_
    show Steps p.tables e below (T6.setTop (mkF m 35 #[.val (.int p1), .val (.int p2), .val (.int p3), .val (.int p4), .val (.int (3 : Int32)), .val (.int (p1.toInt8.toInt32)), .val (.int (p2.toInt8.toInt32)), .val (.int (p3.toInt8.toInt32)), .val (.ref b5), .unset, .unset, .unset, .unset, .unset, .unset, .unset] [(.int (3 : Int32))])) _
    refine XS.iconst X6.here hx rfl (hb hby at_35) ?_
    show Steps p.tables e below (T6.setTop (mkF m 36 #[.val (.int p1), .val (.int p2), .val (.int p3), .val (.int p4), .val (.int (3 : Int32)), .val (.int (p1.toInt8.toInt32)), .val (.int (p2.toInt8.toInt32)), .val (.int (p3.toInt8.toInt32)), .val (.ref b5), .unset, .unset, .unset, .unset, .unset, .unset, .unset] [(.int (1 : Int32)), (.int (3 : Int32))])) _
    refine XS.icmpNo X6.here hx rfl (hb hby at_36) rfl (tlt (by decide)).2.2.2 ?_
    show Steps p.tables e below (T6.setTop (mkF m 39 #[.val (.int p1), .val (.int p2), .val (.int p3), .val (.int p4), .val (.int (3 : Int32)), .val (.int (p1.toInt8.toInt32)), .val (.int (p2.toInt8.toInt32)), .val (.int (p3.toInt8.toInt32)), .val (.ref b5), .unset, .unset, .unset, .unset, .unset, .unset, .unset] [])) _
    refine XS.aload X6.here hx rfl (hb hby at_39) rfl rfl ?_
    show Steps p.tables e below (T6.setTop (mkF m 41 #[.val (.int p1), .val (.int p2), .val (.int p3), .val (.int p4), .val (.int (3 : Int32)), .val (.int (p1.toInt8.toInt32)), .val (.int (p2.toInt8.toInt32)), .val (.int (p3.toInt8.toInt32)), .val (.ref b5), .unset, .unset, .unset, .unset, .unset, .unset, .unset] [(.ref b5)])) _
    refine XS.iconst X6.here hx rfl (hb hby at_41) ?_
    show Steps p.tables e below (T6.setTop (mkF m 42 #[.val (.int p1), .val (.int p2), .val (.int p3), .val (.int p4), .val (.int (3 : Int32)), .val (.int (p1.toInt8.toInt32)), .val (.int (p2.toInt8.toInt32)), .val (.int (p3.toInt8.toInt32)), .val (.ref b5), .unset, .unset, .unset, .unset, .unset, .unset, .unset] [(.int (1 : Int32)), (.ref b5)])) _
    refine XS.iload X6.here hx rfl (hb hby at_42) rfl ?_
    show Steps p.tables e below (T6.setTop (mkF m 44 #[.val (.int p1), .val (.int p2), .val (.int p3), .val (.int p4), .val (.int (3 : Int32)), .val (.int (p1.toInt8.toInt32)), .val (.int (p2.toInt8.toInt32)), .val (.int (p3.toInt8.toInt32)), .val (.ref b5), .unset, .unset, .unset, .unset, .unset, .unset, .unset] [(.int (p2.toInt8.toInt32)), (.int (1 : Int32)), (.ref b5)])) _
    refine st7 _ ?_
    show Steps p.tables e below (T7.setTop (mkF m 45 #[.val (.int p1), .val (.int p2), .val (.int p3), .val (.int p4), .val (.int (3 : Int32)), .val (.int (p1.toInt8.toInt32)), .val (.int (p2.toInt8.toInt32)), .val (.int (p3.toInt8.toInt32)), .val (.ref b5), .unset, .unset, .unset, .unset, .unset, .unset, .unset] [])) _
    refine XS.iload X7.here hx rfl (hb hby at_45) rfl ?_
    show Steps p.tables e below (T7.setTop (mkF m 47 #[.val (.int p1), .val (.int p2), .val (.int p3), .val (.int p4), .val (.int (3 : Int32)), .val (.int (p1.toInt8.toInt32)), .val (.int (p2.toInt8.toInt32)), .val (.int (p3.toInt8.toInt32)), .val (.ref b5), .unset, .unset, .unset, .unset, .unset, .unset, .unset] [(.int (3 : Int32))])) _
    refine XS.iconst X7.here hx rfl (hb hby at_47) ?_
    show Steps p.tables e below (T7.setTop (mkF m 48 #[.val (.int p1), .val (.int p2), .val (.int p3), .val (.int p4), .val (.int (3 : Int32)), .val (.int (p1.toInt8.toInt32)), .val (.int (p2.toInt8.toInt32)), .val (.int (p3.toInt8.toInt32)), .val (.ref b5), .unset, .unset, .unset, .unset, .unset, .unset, .unset] [(.int (2 : Int32)), (.int (3 : Int32))])) _
    refine XS.icmpNo X7.here hx rfl (hb hby at_48) rfl (tlt (by decide)).2.2.2 ?_
    show Steps p.tables e below (T7.setTop (mkF m 51 #[.val (.int p1), .val (.int p2), .val (.int p3), .val (.int p4), .val (.int (3 : Int32)), .val (.int (p1.toInt8.toInt32)), .val (.int (p2.toInt8.toInt32)), .val (.int (p3.toInt8.toInt32)), .val (.ref b5), .unset, .unset, .unset, .unset, .unset, .unset, .unset] [])) _
    refine XS.aload X7.here hx rfl (hb hby at_51) rfl rfl ?_
    show Steps p.tables e below (T7.setTop (mkF m 53 #[.val (.int p1), .val (.int p2), .val (.int p3), .val (.int p4), .val (.int (3 : Int32)), .val (.int (p1.toInt8.toInt32)), .val (.int (p2.toInt8.toInt32)), .val (.int (p3.toInt8.toInt32)), .val (.ref b5), .unset, .unset, .unset, .unset, .unset, .unset, .unset] [(.ref b5)])) _
    refine XS.iconst X7.here hx rfl (hb hby at_53) ?_
    show Steps p.tables e below (T7.setTop (mkF m 54 #[.val (.int p1), .val (.int p2), .val (.int p3), .val (.int p4), .val (.int (3 : Int32)), .val (.int (p1.toInt8.toInt32)), .val (.int (p2.toInt8.toInt32)), .val (.int (p3.toInt8.toInt32)), .val (.ref b5), .unset, .unset, .unset, .unset, .unset, .unset, .unset] [(.int (2 : Int32)), (.ref b5)])) _
    refine XS.iload X7.here hx rfl (hb hby at_54) rfl ?_
    show Steps p.tables e below (T7.setTop (mkF m 56 #[.val (.int p1), .val (.int p2), .val (.int p3), .val (.int p4), .val (.int (3 : Int32)), .val (.int (p1.toInt8.toInt32)), .val (.int (p2.toInt8.toInt32)), .val (.int (p3.toInt8.toInt32)), .val (.ref b5), .unset, .unset, .unset, .unset, .unset, .unset, .unset] [(.int (p3.toInt8.toInt32)), (.int (2 : Int32)), (.ref b5)])) _
    refine st8 _ ?_
    show Steps p.tables e below (T8.setTop (mkF m 57 #[.val (.int p1), .val (.int p2), .val (.int p3), .val (.int p4), .val (.int (3 : Int32)), .val (.int (p1.toInt8.toInt32)), .val (.int (p2.toInt8.toInt32)), .val (.int (p3.toInt8.toInt32)), .val (.ref b5), .unset, .unset, .unset, .unset, .unset, .unset, .unset] [])) _
    refine XS.iload X8.here hx rfl (hb hby at_57) rfl ?_
    show Steps p.tables e below (T8.setTop (mkF m 59 #[.val (.int p1), .val (.int p2), .val (.int p3), .val (.int p4), .val (.int (3 : Int32)), .val (.int (p1.toInt8.toInt32)), .val (.int (p2.toInt8.toInt32)), .val (.int (p3.toInt8.toInt32)), .val (.ref b5), .unset, .unset, .unset, .unset, .unset, .unset, .unset] [(.int (3 : Int32))])) _
    refine XS.iconst X8.here hx rfl (hb hby at_59) ?_
    show Steps p.tables e below (T8.setTop (mkF m 60 #[.val (.int p1), .val (.int p2), .val (.int p3), .val (.int p4), .val (.int (3 : Int32)), .val (.int (p1.toInt8.toInt32)), .val (.int (p2.toInt8.toInt32)), .val (.int (p3.toInt8.toInt32)), .val (.ref b5), .unset, .unset, .unset, .unset, .unset, .unset, .unset] [(.int (3 : Int32)), (.int (3 : Int32))])) _
    refine XS.icmpNo X8.here hx rfl (hb hby at_60) rfl (teq (by decide)).2 ?_
    show Steps p.tables e below (T8.setTop (mkF m 63 #[.val (.int p1), .val (.int p2), .val (.int p3), .val (.int p4), .val (.int (3 : Int32)), .val (.int (p1.toInt8.toInt32)), .val (.int (p2.toInt8.toInt32)), .val (.int (p3.toInt8.toInt32)), .val (.ref b5), .unset, .unset, .unset, .unset, .unset, .unset, .unset] [])) _
    refine XS.iload X8.here hx rfl (hb hby at_63) rfl ?_
    show Steps p.tables e below (T8.setTop (mkF m 65 #[.val (.int p1), .val (.int p2), .val (.int p3), .val (.int p4), .val (.int (3 : Int32)), .val (.int (p1.toInt8.toInt32)), .val (.int (p2.toInt8.toInt32)), .val (.int (p3.toInt8.toInt32)), .val (.ref b5), .unset, .unset, .unset, .unset, .unset, .unset, .unset] [(.int (p3.toInt8.toInt32))])) _
    refine XS.iconst X8.here hx rfl (hb hby at_65) ?_
    show Steps p.tables e below (T8.setTop (mkF m 66 #[.val (.int p1), .val (.int p2), .val (.int p3), .val (.int p4), .val (.int (3 : Int32)), .val (.int (p1.toInt8.toInt32)), .val (.int (p2.toInt8.toInt32)), .val (.int (p3.toInt8.toInt32)), .val (.ref b5), .unset, .unset, .unset, .unset, .unset, .unset, .unset] [(.int (-1 : Int32)), (.int (p3.toInt8.toInt32))])) _
    refine XS.icmpNo X8.here hx rfl (hb hby at_66) rfl (feq nk2).1 ?_
    show Steps p.tables e below (T8.setTop (mkF m 69 #[.val (.int p1), .val (.int p2), .val (.int p3), .val (.int p4), .val (.int (3 : Int32)), .val (.int (p1.toInt8.toInt32)), .val (.int (p2.toInt8.toInt32)), .val (.int (p3.toInt8.toInt32)), .val (.ref b5), .unset, .unset, .unset, .unset, .unset, .unset, .unset] [])) _
    refine XS.iconst X8.here hx rfl (hb hby at_69) ?_
    show Steps p.tables e below (T8.setTop (mkF m 70 #[.val (.int p1), .val (.int p2), .val (.int p3), .val (.int p4), .val (.int (3 : Int32)), .val (.int (p1.toInt8.toInt32)), .val (.int (p2.toInt8.toInt32)), .val (.int (p3.toInt8.toInt32)), .val (.ref b5), .unset, .unset, .unset, .unset, .unset, .unset, .unset] [(.int (2 : Int32))])) _
    refine XS.istore X8.here hx rfl (hb hby at_70) rfl (l' := #[.val (.int p1), .val (.int p2), .val (.int p3), .val (.int p4), .val (.int (3 : Int32)), .val (.int (p1.toInt8.toInt32)), .val (.int (p2.toInt8.toInt32)), .val (.int (p3.toInt8.toInt32)), .val (.ref b5), .val (.int (2 : Int32)), .unset, .unset, .unset, .unset, .unset, .unset]) rfl ?_
    show Steps p.tables e below (T8.setTop (mkF m 72 #[.val (.int p1), .val (.int p2), .val (.int p3), .val (.int p4), .val (.int (3 : Int32)), .val (.int (p1.toInt8.toInt32)), .val (.int (p2.toInt8.toInt32)), .val (.int (p3.toInt8.toInt32)), .val (.ref b5), .val (.int (2 : Int32)), .unset, .unset, .unset, .unset, .unset, .unset] [])) _
    refine XS.goto X8.here hx rfl (pc0 := 72) (pc' := 107) rfl (hb hby at_72) (by decide) (by decide) ?_
    show Steps p.tables e below (T8.setTop (mkF m 107 #[.val (.int p1), .val (.int p2), .val (.int p3), .val (.int p4), .val (.int (3 : Int32)), .val (.int (p1.toInt8.toInt32)), .val (.int (p2.toInt8.toInt32)), .val (.int (p3.toInt8.toInt32)), .val (.ref b5), .val (.int (2 : Int32)), .unset, .unset, .unset, .unset, .unset, .unset] [])) _
    refine XS.iload X8.here hx rfl (hb hby at_107) rfl ?_
    show Steps p.tables e below (T8.setTop (mkF m 109 #[.val (.int p1), .val (.int p2), .val (.int p3), .val (.int p4), .val (.int (3 : Int32)), .val (.int (p1.toInt8.toInt32)), .val (.int (p2.toInt8.toInt32)), .val (.int (p3.toInt8.toInt32)), .val (.ref b5), .val (.int (2 : Int32)), .unset, .unset, .unset, .unset, .unset, .unset] [(.int (p1.toInt8.toInt32))])) _
    refine XS.istore X8.here hx rfl (hb hby at_109) rfl (l' := #[.val (.int p1), .val (.int p2), .val (.int p3), .val (.int p4), .val (.int (3 : Int32)), .val (.int (p1.toInt8.toInt32)), .val (.int (p2.toInt8.toInt32)), .val (.int (p3.toInt8.toInt32)), .val (.ref b5), .val (.int (2 : Int32)), .val (.int (p1.toInt8.toInt32)), .unset, .unset, .unset, .unset, .unset]) rfl ?_
    show Steps p.tables e below (T8.setTop (mkF m 111 #[.val (.int p1), .val (.int p2), .val (.int p3), .val (.int p4), .val (.int (3 : Int32)), .val (.int (p1.toInt8.toInt32)), .val (.int (p2.toInt8.toInt32)), .val (.int (p3.toInt8.toInt32)), .val (.ref b5), .val (.int (2 : Int32)), .val (.int (p1.toInt8.toInt32)), .unset, .unset, .unset, .unset, .unset] [])) _
    refine XS.iload X8.here hx rfl (hb hby at_111) rfl ?_
    show Steps p.tables e below (T8.setTop (mkF m 113 #[.val (.int p1), .val (.int p2), .val (.int p3), .val (.int p4), .val (.int (3 : Int32)), .val (.int (p1.toInt8.toInt32)), .val (.int (p2.toInt8.toInt32)), .val (.int (p3.toInt8.toInt32)), .val (.ref b5), .val (.int (2 : Int32)), .val (.int (p1.toInt8.toInt32)), .unset, .unset, .unset, .unset, .unset] [(.int (p2.toInt8.toInt32))])) _
    refine XS.istore X8.here hx rfl (hb hby at_113) rfl (l' := #[.val (.int p1), .val (.int p2), .val (.int p3), .val (.int p4), .val (.int (3 : Int32)), .val (.int (p1.toInt8.toInt32)), .val (.int (p2.toInt8.toInt32)), .val (.int (p3.toInt8.toInt32)), .val (.ref b5), .val (.int (2 : Int32)), .val (.int (p1.toInt8.toInt32)), .val (.int (p2.toInt8.toInt32)), .unset, .unset, .unset, .unset]) rfl ?_
    show Steps p.tables e below (T8.setTop (mkF m 115 #[.val (.int p1), .val (.int p2), .val (.int p3), .val (.int p4), .val (.int (3 : Int32)), .val (.int (p1.toInt8.toInt32)), .val (.int (p2.toInt8.toInt32)), .val (.int (p3.toInt8.toInt32)), .val (.ref b5), .val (.int (2 : Int32)), .val (.int (p1.toInt8.toInt32)), .val (.int (p2.toInt8.toInt32)), .unset, .unset, .unset, .unset] [])) _
    refine XS.iload X8.here hx rfl (hb hby at_115) rfl ?_
    show Steps p.tables e below (T8.setTop (mkF m 117 #[.val (.int p1), .val (.int p2), .val (.int p3), .val (.int p4), .val (.int (3 : Int32)), .val (.int (p1.toInt8.toInt32)), .val (.int (p2.toInt8.toInt32)), .val (.int (p3.toInt8.toInt32)), .val (.ref b5), .val (.int (2 : Int32)), .val (.int (p1.toInt8.toInt32)), .val (.int (p2.toInt8.toInt32)), .unset, .unset, .unset, .unset] [(.int (p3.toInt8.toInt32))])) _
    refine XS.istore X8.here hx rfl (hb hby at_117) rfl (l' := #[.val (.int p1), .val (.int p2), .val (.int p3), .val (.int p4), .val (.int (3 : Int32)), .val (.int (p1.toInt8.toInt32)), .val (.int (p2.toInt8.toInt32)), .val (.int (p3.toInt8.toInt32)), .val (.ref b5), .val (.int (2 : Int32)), .val (.int (p1.toInt8.toInt32)), .val (.int (p2.toInt8.toInt32)), .val (.int (p3.toInt8.toInt32)), .unset, .unset, .unset]) rfl ?_
    show Steps p.tables e below (T8.setTop (mkF m 119 #[.val (.int p1), .val (.int p2), .val (.int p3), .val (.int p4), .val (.int (3 : Int32)), .val (.int (p1.toInt8.toInt32)), .val (.int (p2.toInt8.toInt32)), .val (.int (p3.toInt8.toInt32)), .val (.ref b5), .val (.int (2 : Int32)), .val (.int (p1.toInt8.toInt32)), .val (.int (p2.toInt8.toInt32)), .val (.int (p3.toInt8.toInt32)), .unset, .unset, .unset] [])) _
    refine XS.iload X8.here hx rfl (hb hby at_119) rfl ?_
    show Steps p.tables e below (T8.setTop (mkF m 121 #[.val (.int p1), .val (.int p2), .val (.int p3), .val (.int p4), .val (.int (3 : Int32)), .val (.int (p1.toInt8.toInt32)), .val (.int (p2.toInt8.toInt32)), .val (.int (p3.toInt8.toInt32)), .val (.ref b5), .val (.int (2 : Int32)), .val (.int (p1.toInt8.toInt32)), .val (.int (p2.toInt8.toInt32)), .val (.int (p3.toInt8.toInt32)), .unset, .unset, .unset] [(.int (2 : Int32))])) _
    refine XS.ifYes X8.here hx rfl (pc0 := 121) (pc' := 134) rfl (hb hby at_121) rfl ((if0 _ _).trans (feq (by decide)).2) (by decide) (by decide) ?_
    show Steps p.tables e below (T8.setTop (mkF m 134 #[.val (.int p1), .val (.int p2), .val (.int p3), .val (.int p4), .val (.int (3 : Int32)), .val (.int (p1.toInt8.toInt32)), .val (.int (p2.toInt8.toInt32)), .val (.int (p3.toInt8.toInt32)), .val (.ref b5), .val (.int (2 : Int32)), .val (.int (p1.toInt8.toInt32)), .val (.int (p2.toInt8.toInt32)), .val (.int (p3.toInt8.toInt32)), .unset, .unset, .unset] [])) _
    refine XS.iload X8.here hx rfl (hb hby at_134) rfl ?_
    show Steps p.tables e below (T8.setTop (mkF m 136 #[.val (.int p1), .val (.int p2), .val (.int p3), .val (.int p4), .val (.int (3 : Int32)), .val (.int (p1.toInt8.toInt32)), .val (.int (p2.toInt8.toInt32)), .val (.int (p3.toInt8.toInt32)), .val (.ref b5), .val (.int (2 : Int32)), .val (.int (p1.toInt8.toInt32)), .val (.int (p2.toInt8.toInt32)), .val (.int (p3.toInt8.toInt32)), .unset, .unset, .unset] [(.int (2 : Int32))])) _
    refine XS.iconst X8.here hx rfl (hb hby at_136) ?_
    show Steps p.tables e below (T8.setTop (mkF m 137 #[.val (.int p1), .val (.int p2), .val (.int p3), .val (.int p4), .val (.int (3 : Int32)), .val (.int (p1.toInt8.toInt32)), .val (.int (p2.toInt8.toInt32)), .val (.int (p3.toInt8.toInt32)), .val (.ref b5), .val (.int (2 : Int32)), .val (.int (p1.toInt8.toInt32)), .val (.int (p2.toInt8.toInt32)), .val (.int (p3.toInt8.toInt32)), .unset, .unset, .unset] [(.int (1 : Int32)), (.int (2 : Int32))])) _
    refine XS.icmpYes X8.here hx rfl (pc0 := 137) (pc' := 150) rfl (hb hby at_137) rfl (feq (by decide)).2 (by decide) (by decide) ?_
    show Steps p.tables e below (T8.setTop (mkF m 150 #[.val (.int p1), .val (.int p2), .val (.int p3), .val (.int p4), .val (.int (3 : Int32)), .val (.int (p1.toInt8.toInt32)), .val (.int (p2.toInt8.toInt32)), .val (.int (p3.toInt8.toInt32)), .val (.ref b5), .val (.int (2 : Int32)), .val (.int (p1.toInt8.toInt32)), .val (.int (p2.toInt8.toInt32)), .val (.int (p3.toInt8.toInt32)), .unset, .unset, .unset] [])) _
    refine XS.iload X8.here hx rfl (hb hby at_150) rfl ?_
    show Steps p.tables e below (T8.setTop (mkF m 152 #[.val (.int p1), .val (.int p2), .val (.int p3), .val (.int p4), .val (.int (3 : Int32)), .val (.int (p1.toInt8.toInt32)), .val (.int (p2.toInt8.toInt32)), .val (.int (p3.toInt8.toInt32)), .val (.ref b5), .val (.int (2 : Int32)), .val (.int (p1.toInt8.toInt32)), .val (.int (p2.toInt8.toInt32)), .val (.int (p3.toInt8.toInt32)), .unset, .unset, .unset] [(.int (p3.toInt8.toInt32))])) _
    refine XS.iconst X8.here hx rfl (hb hby at_152) ?_
    show Steps p.tables e below (T8.setTop (mkF m 153 #[.val (.int p1), .val (.int p2), .val (.int p3), .val (.int p4), .val (.int (3 : Int32)), .val (.int (p1.toInt8.toInt32)), .val (.int (p2.toInt8.toInt32)), .val (.int (p3.toInt8.toInt32)), .val (.ref b5), .val (.int (2 : Int32)), .val (.int (p1.toInt8.toInt32)), .val (.int (p2.toInt8.toInt32)), .val (.int (p3.toInt8.toInt32)), .unset, .unset, .unset] [(.int (1 : Int32)), (.int (p3.toInt8.toInt32))])) _
    refine XS.iadd X8.here hx rfl (hb hby at_153) rfl ?_
    show Steps p.tables e below (T8.setTop (mkF m 154 #[.val (.int p1), .val (.int p2), .val (.int p3), .val (.int p4), .val (.int (3 : Int32)), .val (.int (p1.toInt8.toInt32)), .val (.int (p2.toInt8.toInt32)), .val (.int (p3.toInt8.toInt32)), .val (.ref b5), .val (.int (2 : Int32)), .val (.int (p1.toInt8.toInt32)), .val (.int (p2.toInt8.toInt32)), .val (.int (p3.toInt8.toInt32)), .unset, .unset, .unset] [(.int ((p3.toInt8.toInt32) + (1 : Int32)))])) _
    refine XS.i2b X8.here hx rfl (hb hby at_154) rfl ?_
    show Steps p.tables e below (T8.setTop (mkF m 155 #[.val (.int p1), .val (.int p2), .val (.int p3), .val (.int p4), .val (.int (3 : Int32)), .val (.int (p1.toInt8.toInt32)), .val (.int (p2.toInt8.toInt32)), .val (.int (p3.toInt8.toInt32)), .val (.ref b5), .val (.int (2 : Int32)), .val (.int (p1.toInt8.toInt32)), .val (.int (p2.toInt8.toInt32)), .val (.int (p3.toInt8.toInt32)), .unset, .unset, .unset] [(.int (((p3.toInt8.toInt32) + (1 : Int32)).toInt8.toInt32))])) _
    refine XS.istore X8.here hx rfl (hb hby at_155) rfl (l' := #[.val (.int p1), .val (.int p2), .val (.int p3), .val (.int p4), .val (.int (3 : Int32)), .val (.int (p1.toInt8.toInt32)), .val (.int (p2.toInt8.toInt32)), .val (.int (p3.toInt8.toInt32)), .val (.ref b5), .val (.int (2 : Int32)), .val (.int (p1.toInt8.toInt32)), .val (.int (p2.toInt8.toInt32)), .val (.int (((p3.toInt8.toInt32) + (1 : Int32)).toInt8.toInt32)), .unset, .unset, .unset]) rfl ?_
    show Steps p.tables e below (T8.setTop (mkF m 157 #[.val (.int p1), .val (.int p2), .val (.int p3), .val (.int p4), .val (.int (3 : Int32)), .val (.int (p1.toInt8.toInt32)), .val (.int (p2.toInt8.toInt32)), .val (.int (p3.toInt8.toInt32)), .val (.ref b5), .val (.int (2 : Int32)), .val (.int (p1.toInt8.toInt32)), .val (.int (p2.toInt8.toInt32)), .val (.int (((p3.toInt8.toInt32) + (1 : Int32)).toInt8.toInt32)), .unset, .unset, .unset] [])) _
    refine XS.aload X8.here hx rfl (hb hby at_157) rfl rfl ?_
    show Steps p.tables e below (T8.setTop (mkF m 159 #[.val (.int p1), .val (.int p2), .val (.int p3), .val (.int p4), .val (.int (3 : Int32)), .val (.int (p1.toInt8.toInt32)), .val (.int (p2.toInt8.toInt32)), .val (.int (p3.toInt8.toInt32)), .val (.ref b5), .val (.int (2 : Int32)), .val (.int (p1.toInt8.toInt32)), .val (.int (p2.toInt8.toInt32)), .val (.int (((p3.toInt8.toInt32) + (1 : Int32)).toInt8.toInt32)), .unset, .unset, .unset] [(.ref b5)])) _
    refine st9 _ ?_
    show Steps p.tables e below (T9.setTop (mkF m 162 #[.val (.int p1), .val (.int p2), .val (.int p3), .val (.int p4), .val (.int (3 : Int32)), .val (.int (p1.toInt8.toInt32)), .val (.int (p2.toInt8.toInt32)), .val (.int (p3.toInt8.toInt32)), .val (.ref b5), .val (.int (2 : Int32)), .val (.int (p1.toInt8.toInt32)), .val (.int (p2.toInt8.toInt32)), .val (.int (((p3.toInt8.toInt32) + (1 : Int32)).toInt8.toInt32)), .unset, .unset, .unset] [(.ref r)])) _
    refine XS.astore X9.here hx rfl (hb hby at_162) rfl rfl (l' := #[.val (.int p1), .val (.int p2), .val (.int p3), .val (.int p4), .val (.int (3 : Int32)), .val (.int (p1.toInt8.toInt32)), .val (.int (p2.toInt8.toInt32)), .val (.int (p3.toInt8.toInt32)), .val (.ref b5), .val (.int (2 : Int32)), .val (.int (p1.toInt8.toInt32)), .val (.int (p2.toInt8.toInt32)), .val (.int (((p3.toInt8.toInt32) + (1 : Int32)).toInt8.toInt32)), .val (.ref r), .unset, .unset]) rfl ?_
    show Steps p.tables e below (T9.setTop (mkF m 164 #[.val (.int p1), .val (.int p2), .val (.int p3), .val (.int p4), .val (.int (3 : Int32)), .val (.int (p1.toInt8.toInt32)), .val (.int (p2.toInt8.toInt32)), .val (.int (p3.toInt8.toInt32)), .val (.ref b5), .val (.int (2 : Int32)), .val (.int (p1.toInt8.toInt32)), .val (.int (p2.toInt8.toInt32)), .val (.int (((p3.toInt8.toInt32) + (1 : Int32)).toInt8.toInt32)), .val (.ref r), .unset, .unset] [])) _
    refine XS.aload X9.here hx rfl (hb hby at_164) rfl rfl ?_
    show Steps p.tables e below (T9.setTop (mkF m 166 #[.val (.int p1), .val (.int p2), .val (.int p3), .val (.int p4), .val (.int (3 : Int32)), .val (.int (p1.toInt8.toInt32)), .val (.int (p2.toInt8.toInt32)), .val (.int (p3.toInt8.toInt32)), .val (.ref b5), .val (.int (2 : Int32)), .val (.int (p1.toInt8.toInt32)), .val (.int (p2.toInt8.toInt32)), .val (.int (((p3.toInt8.toInt32) + (1 : Int32)).toInt8.toInt32)), .val (.ref r), .unset, .unset] [(.ref r)])) _
    refine st10.trans ?_
    show Steps p.tables e below (T10.setTop (mkF m 169 #[.val (.int p1), .val (.int p2), .val (.int p3), .val (.int p4), .val (.int (3 : Int32)), .val (.int (p1.toInt8.toInt32)), .val (.int (p2.toInt8.toInt32)), .val (.int (p3.toInt8.toInt32)), .val (.ref b5), .val (.int (2 : Int32)), .val (.int (p1.toInt8.toInt32)), .val (.int (p2.toInt8.toInt32)), .val (.int (((p3.toInt8.toInt32) + (1 : Int32)).toInt8.toInt32)), .val (.ref r), .unset, .unset] [(.ref b5)])) _
    refine XS.astore X10.here hx rfl (hb hby at_169) rfl rfl (l' := #[.val (.int p1), .val (.int p2), .val (.int p3), .val (.int p4), .val (.int (3 : Int32)), .val (.int (p1.toInt8.toInt32)), .val (.int (p2.toInt8.toInt32)), .val (.int (p3.toInt8.toInt32)), .val (.ref b5), .val (.int (2 : Int32)), .val (.int (p1.toInt8.toInt32)), .val (.int (p2.toInt8.toInt32)), .val (.int (((p3.toInt8.toInt32) + (1 : Int32)).toInt8.toInt32)), .val (.ref r), .val (.ref b5), .unset]) rfl ?_
    show Steps p.tables e below (T10.setTop (mkF m 171 #[.val (.int p1), .val (.int p2), .val (.int p3), .val (.int p4), .val (.int (3 : Int32)), .val (.int (p1.toInt8.toInt32)), .val (.int (p2.toInt8.toInt32)), .val (.int (p3.toInt8.toInt32)), .val (.ref b5), .val (.int (2 : Int32)), .val (.int (p1.toInt8.toInt32)), .val (.int (p2.toInt8.toInt32)), .val (.int (((p3.toInt8.toInt32) + (1 : Int32)).toInt8.toInt32)), .val (.ref r), .val (.ref b5), .unset] [])) _
    refine XS.aload X10.here hx rfl (hb hby at_171) rfl rfl ?_
    show Steps p.tables e below (T10.setTop (mkF m 173 #[.val (.int p1), .val (.int p2), .val (.int p3), .val (.int p4), .val (.int (3 : Int32)), .val (.int (p1.toInt8.toInt32)), .val (.int (p2.toInt8.toInt32)), .val (.int (p3.toInt8.toInt32)), .val (.ref b5), .val (.int (2 : Int32)), .val (.int (p1.toInt8.toInt32)), .val (.int (p2.toInt8.toInt32)), .val (.int (((p3.toInt8.toInt32) + (1 : Int32)).toInt8.toInt32)), .val (.ref r), .val (.ref b5), .unset] [(.ref r)])) _
    refine st11.trans ?_
    show Steps p.tables e below (T11.setTop (mkF m 176 #[.val (.int p1), .val (.int p2), .val (.int p3), .val (.int p4), .val (.int (3 : Int32)), .val (.int (p1.toInt8.toInt32)), .val (.int (p2.toInt8.toInt32)), .val (.int (p3.toInt8.toInt32)), .val (.ref b5), .val (.int (2 : Int32)), .val (.int (p1.toInt8.toInt32)), .val (.int (p2.toInt8.toInt32)), .val (.int (((p3.toInt8.toInt32) + (1 : Int32)).toInt8.toInt32)), .val (.ref r), .val (.ref b5), .unset] [(.ref ub)])) _
    refine XS.astore X11.here hx rfl (hb hby at_176) rfl rfl (l' := #[.val (.int p1), .val (.int p2), .val (.int p3), .val (.int p4), .val (.int (3 : Int32)), .val (.int (p1.toInt8.toInt32)), .val (.int (p2.toInt8.toInt32)), .val (.int (p3.toInt8.toInt32)), .val (.ref b5), .val (.int (2 : Int32)), .val (.int (p1.toInt8.toInt32)), .val (.int (p2.toInt8.toInt32)), .val (.int (((p3.toInt8.toInt32) + (1 : Int32)).toInt8.toInt32)), .val (.ref r), .val (.ref b5), .val (.ref ub)]) rfl ?_
    show Steps p.tables e below (T11.setTop (mkF m 178 #[.val (.int p1), .val (.int p2), .val (.int p3), .val (.int p4), .val (.int (3 : Int32)), .val (.int (p1.toInt8.toInt32)), .val (.int (p2.toInt8.toInt32)), .val (.int (p3.toInt8.toInt32)), .val (.ref b5), .val (.int (2 : Int32)), .val (.int (p1.toInt8.toInt32)), .val (.int (p2.toInt8.toInt32)), .val (.int (((p3.toInt8.toInt32) + (1 : Int32)).toInt8.toInt32)), .val (.ref r), .val (.ref b5), .val (.ref ub)] [])) _
    refine XS.aload X11.here hx rfl (hb hby at_178) rfl rfl ?_
    show Steps p.tables e below (T11.setTop (mkF m 180 #[.val (.int p1), .val (.int p2), .val (.int p3), .val (.int p4), .val (.int (3 : Int32)), .val (.int (p1.toInt8.toInt32)), .val (.int (p2.toInt8.toInt32)), .val (.int (p3.toInt8.toInt32)), .val (.ref b5), .val (.int (2 : Int32)), .val (.int (p1.toInt8.toInt32)), .val (.int (p2.toInt8.toInt32)), .val (.int (((p3.toInt8.toInt32) + (1 : Int32)).toInt8.toInt32)), .val (.ref r), .val (.ref b5), .val (.ref ub)] [(.ref b5)])) _
    refine XS.iload X11.here hx rfl (hb hby at_180) rfl ?_
    show Steps p.tables e below (T11.setTop (mkF m 182 #[.val (.int p1), .val (.int p2), .val (.int p3), .val (.int p4), .val (.int (3 : Int32)), .val (.int (p1.toInt8.toInt32)), .val (.int (p2.toInt8.toInt32)), .val (.int (p3.toInt8.toInt32)), .val (.ref b5), .val (.int (2 : Int32)), .val (.int (p1.toInt8.toInt32)), .val (.int (p2.toInt8.toInt32)), .val (.int (((p3.toInt8.toInt32) + (1 : Int32)).toInt8.toInt32)), .val (.ref r), .val (.ref b5), .val (.ref ub)] [(.int (3 : Int32)), (.ref b5)])) _
    refine XS.iload X11.here hx rfl (hb hby at_182) rfl ?_
    show Steps p.tables e below (T11.setTop (mkF m 184 #[.val (.int p1), .val (.int p2), .val (.int p3), .val (.int p4), .val (.int (3 : Int32)), .val (.int (p1.toInt8.toInt32)), .val (.int (p2.toInt8.toInt32)), .val (.int (p3.toInt8.toInt32)), .val (.ref b5), .val (.int (2 : Int32)), .val (.int (p1.toInt8.toInt32)), .val (.int (p2.toInt8.toInt32)), .val (.int (((p3.toInt8.toInt32) + (1 : Int32)).toInt8.toInt32)), .val (.ref r), .val (.ref b5), .val (.ref ub)] [(.int (p1.toInt8.toInt32)), (.int (3 : Int32)), (.ref b5)])) _
    refine XS.iload X11.here hx rfl (hb hby at_184) rfl ?_
    show Steps p.tables e below (T11.setTop (mkF m 186 #[.val (.int p1), .val (.int p2), .val (.int p3), .val (.int p4), .val (.int (3 : Int32)), .val (.int (p1.toInt8.toInt32)), .val (.int (p2.toInt8.toInt32)), .val (.int (p3.toInt8.toInt32)), .val (.ref b5), .val (.int (2 : Int32)), .val (.int (p1.toInt8.toInt32)), .val (.int (p2.toInt8.toInt32)), .val (.int (((p3.toInt8.toInt32) + (1 : Int32)).toInt8.toInt32)), .val (.ref r), .val (.ref b5), .val (.ref ub)] [(.int (p2.toInt8.toInt32)), (.int (p1.toInt8.toInt32)), (.int (3 : Int32)), (.ref b5)])) _
    refine XS.iload X11.here hx rfl (hb hby at_186) rfl ?_
    show Steps p.tables e below (T11.setTop (mkF m 188 #[.val (.int p1), .val (.int p2), .val (.int p3), .val (.int p4), .val (.int (3 : Int32)), .val (.int (p1.toInt8.toInt32)), .val (.int (p2.toInt8.toInt32)), .val (.int (p3.toInt8.toInt32)), .val (.ref b5), .val (.int (2 : Int32)), .val (.int (p1.toInt8.toInt32)), .val (.int (p2.toInt8.toInt32)), .val (.int (((p3.toInt8.toInt32) + (1 : Int32)).toInt8.toInt32)), .val (.ref r), .val (.ref b5), .val (.ref ub)] [(.int (p3.toInt8.toInt32)), (.int (p2.toInt8.toInt32)), (.int (p1.toInt8.toInt32)), (.int (3 : Int32)), (.ref b5)])) _
    refine st12 _ ?_
    show Steps p.tables e below (T12.setTop (mkF m 191 #[.val (.int p1), .val (.int p2), .val (.int p3), .val (.int p4), .val (.int (3 : Int32)), .val (.int (p1.toInt8.toInt32)), .val (.int (p2.toInt8.toInt32)), .val (.int (p3.toInt8.toInt32)), .val (.ref b5), .val (.int (2 : Int32)), .val (.int (p1.toInt8.toInt32)), .val (.int (p2.toInt8.toInt32)), .val (.int (((p3.toInt8.toInt32) + (1 : Int32)).toInt8.toInt32)), .val (.ref r), .val (.ref b5), .val (.ref ub)] [(.int (1 : Int32))])) _
    refine XS.ifNo X12.here hx rfl (hb hby at_191) rfl ((if0 _ _).trans (feq (by decide : ¬ ((1 : Int32) = (0 : Int32)))).1) ?_
    show Steps p.tables e below (T12.setTop (mkF m 194 #[.val (.int p1), .val (.int p2), .val (.int p3), .val (.int p4), .val (.int (3 : Int32)), .val (.int (p1.toInt8.toInt32)), .val (.int (p2.toInt8.toInt32)), .val (.int (p3.toInt8.toInt32)), .val (.ref b5), .val (.int (2 : Int32)), .val (.int (p1.toInt8.toInt32)), .val (.int (p2.toInt8.toInt32)), .val (.int (((p3.toInt8.toInt32) + (1 : Int32)).toInt8.toInt32)), .val (.ref r), .val (.ref b5), .val (.ref ub)] [])) _
    refine XS.aload X12.here hx rfl (hb hby at_194) rfl rfl ?_
    show Steps p.tables e below (T12.setTop (mkF m 196 #[.val (.int p1), .val (.int p2), .val (.int p3), .val (.int p4), .val (.int (3 : Int32)), .val (.int (p1.toInt8.toInt32)), .val (.int (p2.toInt8.toInt32)), .val (.int (p3.toInt8.toInt32)), .val (.ref b5), .val (.int (2 : Int32)), .val (.int (p1.toInt8.toInt32)), .val (.int (p2.toInt8.toInt32)), .val (.int (((p3.toInt8.toInt32) + (1 : Int32)).toInt8.toInt32)), .val (.ref r), .val (.ref b5), .val (.ref ub)] [(.ref b5)])) _
    refine XS.iload X12.here hx rfl (hb hby at_196) rfl ?_
    show Steps p.tables e below (T12.setTop (mkF m 198 #[.val (.int p1), .val (.int p2), .val (.int p3), .val (.int p4), .val (.int (3 : Int32)), .val (.int (p1.toInt8.toInt32)), .val (.int (p2.toInt8.toInt32)), .val (.int (p3.toInt8.toInt32)), .val (.ref b5), .val (.int (2 : Int32)), .val (.int (p1.toInt8.toInt32)), .val (.int (p2.toInt8.toInt32)), .val (.int (((p3.toInt8.toInt32) + (1 : Int32)).toInt8.toInt32)), .val (.ref r), .val (.ref b5), .val (.ref ub)] [(.int (3 : Int32)), (.ref b5)])) _
    refine XS.iload X12.here hx rfl (hb hby at_198) rfl ?_
    show Steps p.tables e below (T12.setTop (mkF m 200 #[.val (.int p1), .val (.int p2), .val (.int p3), .val (.int p4), .val (.int (3 : Int32)), .val (.int (p1.toInt8.toInt32)), .val (.int (p2.toInt8.toInt32)), .val (.int (p3.toInt8.toInt32)), .val (.ref b5), .val (.int (2 : Int32)), .val (.int (p1.toInt8.toInt32)), .val (.int (p2.toInt8.toInt32)), .val (.int (((p3.toInt8.toInt32) + (1 : Int32)).toInt8.toInt32)), .val (.ref r), .val (.ref b5), .val (.ref ub)] [(.int (p1.toInt8.toInt32)), (.int (3 : Int32)), (.ref b5)])) _
    refine XS.iload X12.here hx rfl (hb hby at_200) rfl ?_
    show Steps p.tables e below (T12.setTop (mkF m 202 #[.val (.int p1), .val (.int p2), .val (.int p3), .val (.int p4), .val (.int (3 : Int32)), .val (.int (p1.toInt8.toInt32)), .val (.int (p2.toInt8.toInt32)), .val (.int (p3.toInt8.toInt32)), .val (.ref b5), .val (.int (2 : Int32)), .val (.int (p1.toInt8.toInt32)), .val (.int (p2.toInt8.toInt32)), .val (.int (((p3.toInt8.toInt32) + (1 : Int32)).toInt8.toInt32)), .val (.ref r), .val (.ref b5), .val (.ref ub)] [(.int (p2.toInt8.toInt32)), (.int (p1.toInt8.toInt32)), (.int (3 : Int32)), (.ref b5)])) _
    refine XS.iload X12.here hx rfl (hb hby at_202) rfl ?_
    show Steps p.tables e below (T12.setTop (mkF m 204 #[.val (.int p1), .val (.int p2), .val (.int p3), .val (.int p4), .val (.int (3 : Int32)), .val (.int (p1.toInt8.toInt32)), .val (.int (p2.toInt8.toInt32)), .val (.int (p3.toInt8.toInt32)), .val (.ref b5), .val (.int (2 : Int32)), .val (.int (p1.toInt8.toInt32)), .val (.int (p2.toInt8.toInt32)), .val (.int (((p3.toInt8.toInt32) + (1 : Int32)).toInt8.toInt32)), .val (.ref r), .val (.ref b5), .val (.ref ub)] [(.int (p3.toInt8.toInt32)), (.int (p2.toInt8.toInt32)), (.int (p1.toInt8.toInt32)), (.int (3 : Int32)), (.ref b5)])) _
    refine st13 _ ?_
    show Steps p.tables e below (T13.setTop (mkF m 207 #[.val (.int p1), .val (.int p2), .val (.int p3), .val (.int p4), .val (.int (3 : Int32)), .val (.int (p1.toInt8.toInt32)), .val (.int (p2.toInt8.toInt32)), .val (.int (p3.toInt8.toInt32)), .val (.ref b5), .val (.int (2 : Int32)), .val (.int (p1.toInt8.toInt32)), .val (.int (p2.toInt8.toInt32)), .val (.int (((p3.toInt8.toInt32) + (1 : Int32)).toInt8.toInt32)), .val (.ref r), .val (.ref b5), .val (.ref ub)] [(.int (1 : Int32))])) _
    refine XS.ifNo X13.here hx rfl (hb hby at_207) rfl ((if0 _ _).trans (feq (by decide : ¬ ((1 : Int32) = (0 : Int32)))).1) ?_
    show Steps p.tables e below (T13.setTop (mkF m 210 #[.val (.int p1), .val (.int p2), .val (.int p3), .val (.int p4), .val (.int (3 : Int32)), .val (.int (p1.toInt8.toInt32)), .val (.int (p2.toInt8.toInt32)), .val (.int (p3.toInt8.toInt32)), .val (.ref b5), .val (.int (2 : Int32)), .val (.int (p1.toInt8.toInt32)), .val (.int (p2.toInt8.toInt32)), .val (.int (((p3.toInt8.toInt32) + (1 : Int32)).toInt8.toInt32)), .val (.ref r), .val (.ref b5), .val (.ref ub)] [])) _
    refine XS.aload X13.here hx rfl (hb hby at_210) rfl rfl ?_
    show Steps p.tables e below (T13.setTop (mkF m 212 #[.val (.int p1), .val (.int p2), .val (.int p3), .val (.int p4), .val (.int (3 : Int32)), .val (.int (p1.toInt8.toInt32)), .val (.int (p2.toInt8.toInt32)), .val (.int (p3.toInt8.toInt32)), .val (.ref b5), .val (.int (2 : Int32)), .val (.int (p1.toInt8.toInt32)), .val (.int (p2.toInt8.toInt32)), .val (.int (((p3.toInt8.toInt32) + (1 : Int32)).toInt8.toInt32)), .val (.ref r), .val (.ref b5), .val (.ref ub)] [(.ref ub)])) _
    refine XS.iload X13.here hx rfl (hb hby at_212) rfl ?_
    show Steps p.tables e below (T13.setTop (mkF m 214 #[.val (.int p1), .val (.int p2), .val (.int p3), .val (.int p4), .val (.int (3 : Int32)), .val (.int (p1.toInt8.toInt32)), .val (.int (p2.toInt8.toInt32)), .val (.int (p3.toInt8.toInt32)), .val (.ref b5), .val (.int (2 : Int32)), .val (.int (p1.toInt8.toInt32)), .val (.int (p2.toInt8.toInt32)), .val (.int (((p3.toInt8.toInt32) + (1 : Int32)).toInt8.toInt32)), .val (.ref r), .val (.ref b5), .val (.ref ub)] [(.int (2 : Int32)), (.ref ub)])) _
    refine XS.iconst X13.here hx rfl (hb hby at_214) ?_
    show Steps p.tables e below (T13.setTop (mkF m 215 #[.val (.int p1), .val (.int p2), .val (.int p3), .val (.int p4), .val (.int (3 : Int32)), .val (.int (p1.toInt8.toInt32)), .val (.int (p2.toInt8.toInt32)), .val (.int (p3.toInt8.toInt32)), .val (.ref b5), .val (.int (2 : Int32)), .val (.int (p1.toInt8.toInt32)), .val (.int (p2.toInt8.toInt32)), .val (.int (((p3.toInt8.toInt32) + (1 : Int32)).toInt8.toInt32)), .val (.ref r), .val (.ref b5), .val (.ref ub)] [(.int (1 : Int32)), (.int (2 : Int32)), (.ref ub)])) _
    refine XS.iadd X13.here hx rfl (hb hby at_215) rfl ?_
    show Steps p.tables e below (T13.setTop (mkF m 216 #[.val (.int p1), .val (.int p2), .val (.int p3), .val (.int p4), .val (.int (3 : Int32)), .val (.int (p1.toInt8.toInt32)), .val (.int (p2.toInt8.toInt32)), .val (.int (p3.toInt8.toInt32)), .val (.ref b5), .val (.int (2 : Int32)), .val (.int (p1.toInt8.toInt32)), .val (.int (p2.toInt8.toInt32)), .val (.int (((p3.toInt8.toInt32) + (1 : Int32)).toInt8.toInt32)), .val (.ref r), .val (.ref b5), .val (.ref ub)] [(.int ((2 : Int32) + (1 : Int32))), (.ref ub)])) _
    refine XS.iload X13.here hx rfl (hb hby at_216) rfl ?_
    show Steps p.tables e below (T13.setTop (mkF m 218 #[.val (.int p1), .val (.int p2), .val (.int p3), .val (.int p4), .val (.int (3 : Int32)), .val (.int (p1.toInt8.toInt32)), .val (.int (p2.toInt8.toInt32)), .val (.int (p3.toInt8.toInt32)), .val (.ref b5), .val (.int (2 : Int32)), .val (.int (p1.toInt8.toInt32)), .val (.int (p2.toInt8.toInt32)), .val (.int (((p3.toInt8.toInt32) + (1 : Int32)).toInt8.toInt32)), .val (.ref r), .val (.ref b5), .val (.ref ub)] [(.int (p1.toInt8.toInt32)), (.int ((2 : Int32) + (1 : Int32))), (.ref ub)])) _
    refine XS.iload X13.here hx rfl (hb hby at_218) rfl ?_
    show Steps p.tables e below (T13.setTop (mkF m 220 #[.val (.int p1), .val (.int p2), .val (.int p3), .val (.int p4), .val (.int (3 : Int32)), .val (.int (p1.toInt8.toInt32)), .val (.int (p2.toInt8.toInt32)), .val (.int (p3.toInt8.toInt32)), .val (.ref b5), .val (.int (2 : Int32)), .val (.int (p1.toInt8.toInt32)), .val (.int (p2.toInt8.toInt32)), .val (.int (((p3.toInt8.toInt32) + (1 : Int32)).toInt8.toInt32)), .val (.ref r), .val (.ref b5), .val (.ref ub)] [(.int (p2.toInt8.toInt32)), (.int (p1.toInt8.toInt32)), (.int ((2 : Int32) + (1 : Int32))), (.ref ub)])) _
    refine XS.iload X13.here hx rfl (hb hby at_220) rfl ?_
    show Steps p.tables e below (T13.setTop (mkF m 222 #[.val (.int p1), .val (.int p2), .val (.int p3), .val (.int p4), .val (.int (3 : Int32)), .val (.int (p1.toInt8.toInt32)), .val (.int (p2.toInt8.toInt32)), .val (.int (p3.toInt8.toInt32)), .val (.ref b5), .val (.int (2 : Int32)), .val (.int (p1.toInt8.toInt32)), .val (.int (p2.toInt8.toInt32)), .val (.int (((p3.toInt8.toInt32) + (1 : Int32)).toInt8.toInt32)), .val (.ref r), .val (.ref b5), .val (.ref ub)] [(.int (((p3.toInt8.toInt32) + (1 : Int32)).toInt8.toInt32)), (.int (p2.toInt8.toInt32)), (.int (p1.toInt8.toInt32)), (.int ((2 : Int32) + (1 : Int32))), (.ref ub)])) _
    refine st14 _ ?_
    show Steps p.tables e below (T14.setTop (mkF m 225 #[.val (.int p1), .val (.int p2), .val (.int p3), .val (.int p4), .val (.int (3 : Int32)), .val (.int (p1.toInt8.toInt32)), .val (.int (p2.toInt8.toInt32)), .val (.int (p3.toInt8.toInt32)), .val (.ref b5), .val (.int (2 : Int32)), .val (.int (p1.toInt8.toInt32)), .val (.int (p2.toInt8.toInt32)), .val (.int (((p3.toInt8.toInt32) + (1 : Int32)).toInt8.toInt32)), .val (.ref r), .val (.ref b5), .val (.ref ub)] [(.int (1 : Int32))])) _
    refine XS.ifNo X14.here hx rfl (hb hby at_225) rfl ((if0 _ _).trans (feq (by decide : ¬ ((1 : Int32) = (0 : Int32)))).1) ?_
    show Steps p.tables e below (T14.setTop (mkF m 228 #[.val (.int p1), .val (.int p2), .val (.int p3), .val (.int p4), .val (.int (3 : Int32)), .val (.int (p1.toInt8.toInt32)), .val (.int (p2.toInt8.toInt32)), .val (.int (p3.toInt8.toInt32)), .val (.ref b5), .val (.int (2 : Int32)), .val (.int (p1.toInt8.toInt32)), .val (.int (p2.toInt8.toInt32)), .val (.int (((p3.toInt8.toInt32) + (1 : Int32)).toInt8.toInt32)), .val (.ref r), .val (.ref b5), .val (.ref ub)] [])) _
    refine XS.iconst X14.here hx rfl (hb hby at_228) ?_
    show Steps p.tables e below (T14.setTop (mkF m 229 #[.val (.int p1), .val (.int p2), .val (.int p3), .val (.int p4), .val (.int (3 : Int32)), .val (.int (p1.toInt8.toInt32)), .val (.int (p2.toInt8.toInt32)), .val (.int (p3.toInt8.toInt32)), .val (.ref b5), .val (.int (2 : Int32)), .val (.int (p1.toInt8.toInt32)), .val (.int (p2.toInt8.toInt32)), .val (.int (((p3.toInt8.toInt32) + (1 : Int32)).toInt8.toInt32)), .val (.ref r), .val (.ref b5), .val (.ref ub)] [(.int (1 : Int32))])) _
    refine XS.goto X14.here hx rfl (pc0 := 229) (pc' := 233) rfl (hb hby at_229) (by decide) (by decide) ?_
    show Steps p.tables e below (T14.setTop (mkF m 233 #[.val (.int p1), .val (.int p2), .val (.int p3), .val (.int p4), .val (.int (3 : Int32)), .val (.int (p1.toInt8.toInt32)), .val (.int (p2.toInt8.toInt32)), .val (.int (p3.toInt8.toInt32)), .val (.ref b5), .val (.int (2 : Int32)), .val (.int (p1.toInt8.toInt32)), .val (.int (p2.toInt8.toInt32)), .val (.int (((p3.toInt8.toInt32) + (1 : Int32)).toInt8.toInt32)), .val (.ref r), .val (.ref b5), .val (.ref ub)] [(.int (1 : Int32))])) _
    exact retN X14 hx (t := .boolean) Bd.returns (by simp) (hb hby at_233) hr
  · show Q0 h0 n0 _ T14.heap _
    exact ⟨rfl, N14⟩

set_option maxRecDepth 65536 in
set_option maxHeartbeats 40000000 in
theorem rm0_31 (l : Launch) (Z : State) (a0 : Array Value) (hw : ∀ d ∈ tables_1, d.before a0 Z = true) (ws : List Jvm.Cond) (p1 : Int32) (p2 : Int32) (p3 : Int32) (p4 : Int32) (h0 : Heap) (n0 : Nat) (Z0 : n0 ≤ h0.size) (hlen : ((1 : Int32) + ((p4 &&& (3 : Int32)) % (3 : Int32))) = (3 : Int32)) (m2 : (p3.toInt8.toInt32) = (-1 : Int32)) (nk1 : ¬ ((p2.toInt8.toInt32) = (-1 : Int32))) :
    MetFree l x (head1 (Jvm.Cond.code x code maxLocals ret :: ws) room_1) (fun a U => a = #[(.int p1), (.int p2), (.int p3), (.int p4)] ∧ Z.Warmed39 U.vm ∧ U.heap = h0) (fun _ _ _ _ _ => True) (fun _ U o U' => ∃ v L, o = .returned v ∧ Q0 h0 n0 v U'.heap L ∧ FrameEnd U o U' L room_1.cells room_1.slots) := by
  refine MetFree.of_bodySF (plainFor_of_name pn_0) hisR ?_
  intro p e s m args below meth c s₁ Bd hml0 hP hK
  obtain ⟨rfl, hZ, hh⟩ := hP
  have hx := Bd.exec
  have hby := Bd.bytes
  have hml : c.maxLocals = 16 := hml0
  have hown : s.vm.findClass "com/example/coord2/coord2/KeyRangePrefixPinLaw" = some m.cls := findClass_of_methodNamed Bd.named
  have hnm := (name_of_methodNamed Bd.named Bd.method).1
  have X0 : Stand p l e room_1 s m #[(.int p1), (.int p2), (.int p3), (.int p4)] below meth c s₁ [] 0 0 := Stand.of_body Bd
  have e0 : s₁.heap = h0 := by rw [← hh, Bd.state]; rfl
  have N0 := Fr.nil n0
  have pre0 : ∀ t, Steps p.tables e below (s₁.setTop (mkF m 0 #[.val (.int p1), .val (.int p2), .val (.int p3), .val (.int p4), .unset, .unset, .unset, .unset, .unset, .unset, .unset, .unset, .unset, .unset, .unset, .unset] [])) t → Steps p.tables e below (s₁.setTop (entryFrame m #[(.int p1), (.int p2), (.int p3), (.int p4)] maxLocals)) t := fun t k => castTop (ef_0 m p1 p2 p3 p4) k
  obtain ⟨T5, h5, k5, X5, e5, E5, A5, EA5, st5⟩ := newPE X0 hx hZ (hw _ (List.mem_of_getElem? (i := 0) rfl)) e0 (g := (mkF m 23 #[.val (.int p1), .val (.int p2), .val (.int p3), .val (.int p4), .val (.int (3 : Int32)), .val (.int (p1.toInt8.toInt32)), .val (.int (p2.toInt8.toInt32)), .val (.int (p3.toInt8.toInt32)), .unset, .unset, .unset, .unset, .unset, .unset, .unset, .unset] [(.int (3 : Int32))])) rfl (hb hby at_23) rfl (by decide) (cap := 3) (by decide) (by decide) (by decide) (by decide) (ad := "[B") rfl
  obtain ⟨b5, g5⟩ : ∃ z, z = h0.size := ⟨_, rfl⟩
  rw [← g5] at A5 EA5 st5
  have V_b5 : Arv Z h5 b5 k5 .byte (3 : Int32) [(.int (0 : Int32)), (.int (0 : Int32)), (.int (0 : Int32))] (.int (0 : Int32)) := (Arv.new A5 (by decide)).pad (pad_rep [] (.int (0 : Int32)) 3)
  have g_b5 : n0 ≤ b5 := Nat.le_trans Z0 (Nat.le_of_eq g5.symm)
  have sz_b5 : h0.size ≤ b5 := (Nat.le_trans (Keep.refl h0 []).1 (Nat.le_of_eq g5.symm))
  have K5 : Keep h0 h5 [] := (Keep.refl h0 []).ext E5
  obtain ⟨cl_b5_32, Ar_b5, q_b5, S_b5, N_b5, H_b5, G_b5⟩ := V_b5
  have hin32 : ¬ ((0 : Int32) < 0 ∨ cl_b5_32.slots.size ≤ ((0 : Int32)).toNatClampNeg) := inb_of S_b5 ⟨by decide, by decide⟩
  obtain ⟨T6, h6, X6, e6, W6, st6⟩ := stB X5 hx hZ e5 Ar_b5 (j := (0 : Int32)) hin32 (g := (mkF m 32 #[.val (.int p1), .val (.int p2), .val (.int p3), .val (.int p4), .val (.int (3 : Int32)), .val (.int (p1.toInt8.toInt32)), .val (.int (p2.toInt8.toInt32)), .val (.int (p3.toInt8.toInt32)), .val (.ref b5), .unset, .unset, .unset, .unset, .unset, .unset, .unset] [(.int (p1.toInt8.toInt32)), (.int (0 : Int32)), (.ref b5)])) rfl rfl (hb hby at_32)
  have V_b5_6 := Arv.set Ar_b5 q_b5 S_b5 N_b5 H_b5 G_b5 (fits_nar_byte _) W6 0 rfl (Nat.le_of_ble_eq_true rfl)
  have K6 : Keep h0 h6 [] := K5.wr W6 (Or.inr sz_b5)
  have N6 := Fr.snoc X6 N0 g_b5
  obtain ⟨cl_b5_44, Ar_b5, q_b5, S_b5, N_b5, H_b5, G_b5⟩ := V_b5_6
  have hin44 : ¬ ((1 : Int32) < 0 ∨ cl_b5_44.slots.size ≤ ((1 : Int32)).toNatClampNeg) := inb_of S_b5 ⟨by decide, by decide⟩
  obtain ⟨T7, h7, X7, e7, W7, st7⟩ := stB X6 hx hZ e6 Ar_b5 (j := (1 : Int32)) hin44 (g := (mkF m 44 #[.val (.int p1), .val (.int p2), .val (.int p3), .val (.int p4), .val (.int (3 : Int32)), .val (.int (p1.toInt8.toInt32)), .val (.int (p2.toInt8.toInt32)), .val (.int (p3.toInt8.toInt32)), .val (.ref b5), .unset, .unset, .unset, .unset, .unset, .unset, .unset] [(.int (p2.toInt8.toInt32)), (.int (1 : Int32)), (.ref b5)])) rfl rfl (hb hby at_44)
  have V_b5_7 := Arv.set Ar_b5 q_b5 S_b5 N_b5 H_b5 G_b5 (fits_nar_byte _) W7 1 rfl (Nat.le_of_ble_eq_true rfl)
  have K7 : Keep h0 h7 [] := K6.wr W7 (Or.inr sz_b5)
  have N7 := Fr.snoc X7 N6 g_b5
  obtain ⟨cl_b5_56, Ar_b5, q_b5, S_b5, N_b5, H_b5, G_b5⟩ := V_b5_7
  have hin56 : ¬ ((2 : Int32) < 0 ∨ cl_b5_56.slots.size ≤ ((2 : Int32)).toNatClampNeg) := inb_of S_b5 ⟨by decide, by decide⟩
  obtain ⟨T8, h8, X8, e8, W8, st8⟩ := stB X7 hx hZ e7 Ar_b5 (j := (2 : Int32)) hin56 (g := (mkF m 56 #[.val (.int p1), .val (.int p2), .val (.int p3), .val (.int p4), .val (.int (3 : Int32)), .val (.int (p1.toInt8.toInt32)), .val (.int (p2.toInt8.toInt32)), .val (.int (p3.toInt8.toInt32)), .val (.ref b5), .unset, .unset, .unset, .unset, .unset, .unset, .unset] [(.int (p3.toInt8.toInt32)), (.int (2 : Int32)), (.ref b5)])) rfl rfl (hb hby at_56)
  have V_b5_8 := Arv.set Ar_b5 q_b5 S_b5 N_b5 H_b5 G_b5 (fits_nar_byte _) W8 2 rfl (Nat.le_of_ble_eq_true rfl)
  have K8 : Keep h0 h8 [] := K7.wr W8 (Or.inr sz_b5)
  have N8 := Fr.snoc X8 N7 g_b5
  obtain ⟨cl, ArP, -, SP, -, HP, GP⟩ := V_b5_8
  have TyP : ∀ (i : Nat) (v : Value), cl.slots[i]? = some v → fits .byte v = true := fun i v hv => by
    obtain ⟨hi, -⟩ := Array.getElem?_eq_some_iff.mp hv
    rw [HP i hi] at hv; cases hv; exact GP i hi
  have c0 : cl.slots[0]? = some (.int (p1.toInt8.toInt32)) := (HP 0 (by rw [SP]; decide)).trans (congrArg (fun q => some (Value.int q)) (own_nar _))
  have c1 : cl.slots[1]? = some (.int (p2.toInt8.toInt32)) := (HP 1 (by rw [SP]; decide)).trans (congrArg (fun q => some (Value.int q)) (own_nar _))
  have c2 : cl.slots[2]? = some (.int (p3.toInt8.toInt32)) := (HP 2 (by rw [SP]; decide)).trans (congrArg (fun q => some (Value.int q)) (own_nar _))
  have hlat : ∀ j : Nat, 1 < j → j < cl.slots.size → cl.slots[j]? = some (.int (-1 : Int32)) := fun j h1 h2 => by
      rw [SP] at h2
      have h2 : j < 3 := h2
      rcases (by omega : j = 2) with rfl
      · rw [← m2]; exact c2
  have ExP : Exa Z h8 b5 "[B" := (((EA5.wr W6).wr W7).wr W8)
  obtain ⟨r, gr⟩ : ∃ q, q = h8.size := ⟨_, rfl⟩
  obtain ⟨_, _, ⟨T9, L9, k9, n9⟩, -, X9, ⟨Lc9, hQ9, l9, y9, z9⟩, st9⟩ := Jvm.LawKit.callS X8 hx (y := (⟨"com/example/coord2/coord2/KeyRange", "prefix", "([B)Lcom/example/coord2/coord2/KeyRange;"⟩ : MethodName)) hown (mvT hZ (hw _ (List.mem_of_getElem? (i := 1) rfl))) (mvT hZ (hw _ (List.mem_of_getElem? (i := 2) rfl))) (mvT hZ (hw _ (List.mem_of_getElem? (i := 3) rfl))) (mvT hZ (hw _ (List.mem_of_getElem? (i := 4) rfl))) (by decide) (backOf (W := 0) (rm1 l Z a0 hw [] b5 cl (3 : Int32) 1 (p2.toInt8.toInt32) r h8 n0 (Nat.le_trans Z0 K8.1) gr ArP ExP SP TyP (Or.inr (Or.inr (Or.inr (Or.inr (Or.inl ⟨rfl, rfl⟩))))) c1 nk1 hlat) hZ (hw _ (List.mem_of_getElem? (i := 4) rfl)) (hw _ (List.mem_of_getElem? (i := 3) rfl)) (by decide) (by decide)) (g := (mkF m 159 #[.val (.int p1), .val (.int p2), .val (.int p3), .val (.int p4), .val (.int (3 : Int32)), .val (.int (p1.toInt8.toInt32)), .val (.int (p2.toInt8.toInt32)), .val (.int (p3.toInt8.toInt32)), .val (.ref b5), .val (.int (1 : Int32)), .val (.int (p1.toInt8.toInt32)), .val (.int (((p2.toInt8.toInt32) + (1 : Int32)).toInt8.toInt32)), .val (.int (p3.toInt8.toInt32)), .unset, .unset, .unset] [(.ref b5)])) rfl (by rw [hml]; rfl) (argsL := [(.ref b5)]) (rest := []) (lenOf pd_0_0 rfl) rfl (by show 2 * 0 + _ ≤ _; exact Nat.le_of_eq rfl) (hb hby at_159) (fun _ _ => ⟨rfl, e8, (Nat.le_of_ble_eq_true rfl), (Nat.le_of_ble_eq_true rfl)⟩)
  dsimp only [Pt.U, Pt.locs, Pt.cells, Pt.slots] at X9 l9 y9 z9 st9 hQ9
  subst l9 y9 z9
  obtain ⟨rfl, N9q, KC, EX, FL, ub, B, FU, ArU, SU, HU, UK⟩ := hQ9
  have ArP' : Arr Z T9.heap b5 cl .byte := own_arr ArP KC List.not_mem_nil
  have ZT : n0 ≤ T9.heap.size := Nat.le_trans (Nat.le_trans Z0 K8.1) KC.1
  have eq9 : T9.heap = T9.heap := rfl
  have N9 := Fr.app N8 N9q
  obtain ⟨cq10, kq10, q10a, q10b, q10c⟩ := isOf hZ rfl (by rw [eq9]; exact EX : Exa Z T9.heap r "com/example/coord2/coord2/KeyRange")
  obtain ⟨_, _, ⟨T10, L10, k10, n10⟩, -, X10, ⟨Lc10, hQ10, l10, y10, z10⟩, st10⟩ := X9.virtualBack hx (y := (⟨"com/example/coord2/coord2/KeyRange", "lower", "()[B"⟩ : MethodName)) (z := (⟨"com/example/coord2/coord2/KeyRange", "lower", "()[B"⟩ : MethodName)) hown (mvT hZ (hw _ (List.mem_of_getElem? (i := 38) rfl))) (mvT hZ (hw _ (List.mem_of_getElem? (i := 39) rfl))) (notFace_of_selects (args := #[]) (mvT hZ (hw _ (List.mem_of_getElem? (i := 41) rfl)))) (mvT hZ (hw _ (List.mem_of_getElem? (i := 41) rfl))) (mvT hZ (hw _ (List.mem_of_getElem? (i := 40) rfl))) (by decide) (backOf (W := 0) (rm7 l Z a0 hw [] r b5 T9.heap n0 ZT FL) hZ (hw _ (List.mem_of_getElem? (i := 42) rfl)) (hw _ (List.mem_of_getElem? (i := 3) rfl)) (by decide) (by decide)) q10a q10c (g := (mkF m 166 #[.val (.int p1), .val (.int p2), .val (.int p3), .val (.int p4), .val (.int (3 : Int32)), .val (.int (p1.toInt8.toInt32)), .val (.int (p2.toInt8.toInt32)), .val (.int (p3.toInt8.toInt32)), .val (.ref b5), .val (.int (1 : Int32)), .val (.int (p1.toInt8.toInt32)), .val (.int (((p2.toInt8.toInt32) + (1 : Int32)).toInt8.toInt32)), .val (.int (p3.toInt8.toInt32)), .val (.ref r), .unset, .unset] [(.ref r)])) rfl (by rw [hml]; rfl) (Steps.refl _) (argsL := []) (rest := []) (lenOf pd_0_6 rfl) rfl (by show 2 * 0 + _ ≤ _; exact Nat.le_of_eq rfl) (hb hby at_166) (fun _ _ => ⟨rfl, rfl, (Nat.le_of_ble_eq_true rfl), (Nat.le_of_ble_eq_true rfl)⟩)
  dsimp only [Pt.U, Pt.locs, Pt.cells, Pt.slots] at X10 l10 y10 z10 st10 hQ10
  subst l10 y10 z10
  obtain ⟨rfl, N10q, hq10⟩ := hQ10
  have eq10 : T10.heap = T9.heap := hq10.trans eq9
  have N10 := Fr.app N9 N10q
  obtain ⟨cq11, kq11, q11a, q11b, q11c⟩ := isOf hZ rfl (by rw [eq10]; exact EX : Exa Z T10.heap r "com/example/coord2/coord2/KeyRange")
  obtain ⟨_, _, ⟨T11, L11, k11, n11⟩, -, X11, ⟨Lc11, hQ11, l11, y11, z11⟩, st11⟩ := X10.virtualBack hx (y := (⟨"com/example/coord2/coord2/KeyRange", "upper", "()[B"⟩ : MethodName)) (z := (⟨"com/example/coord2/coord2/KeyRange", "upper", "()[B"⟩ : MethodName)) hown (mvT hZ (hw _ (List.mem_of_getElem? (i := 43) rfl))) (mvT hZ (hw _ (List.mem_of_getElem? (i := 44) rfl))) (notFace_of_selects (args := #[]) (mvT hZ (hw _ (List.mem_of_getElem? (i := 46) rfl)))) (mvT hZ (hw _ (List.mem_of_getElem? (i := 46) rfl))) (mvT hZ (hw _ (List.mem_of_getElem? (i := 45) rfl))) (by decide) (backOf (W := 0) (rm8 l Z a0 hw [] r ub T10.heap n0 (by rw [eq10]; exact ZT) (by rw [eq10]; exact FU)) hZ (hw _ (List.mem_of_getElem? (i := 47) rfl)) (hw _ (List.mem_of_getElem? (i := 3) rfl)) (by decide) (by decide)) q11a q11c (g := (mkF m 173 #[.val (.int p1), .val (.int p2), .val (.int p3), .val (.int p4), .val (.int (3 : Int32)), .val (.int (p1.toInt8.toInt32)), .val (.int (p2.toInt8.toInt32)), .val (.int (p3.toInt8.toInt32)), .val (.ref b5), .val (.int (1 : Int32)), .val (.int (p1.toInt8.toInt32)), .val (.int (((p2.toInt8.toInt32) + (1 : Int32)).toInt8.toInt32)), .val (.int (p3.toInt8.toInt32)), .val (.ref r), .val (.ref b5), .unset] [(.ref r)])) rfl (by rw [hml]; rfl) (Steps.refl _) (argsL := []) (rest := []) (lenOf pd_0_6 rfl) rfl (by show 2 * 0 + _ ≤ _; exact Nat.le_of_eq rfl) (hb hby at_173) (fun _ _ => ⟨rfl, rfl, (Nat.le_of_ble_eq_true rfl), (Nat.le_of_ble_eq_true rfl)⟩)
  dsimp only [Pt.U, Pt.locs, Pt.cells, Pt.slots] at X11 l11 y11 z11 st11 hQ11
  subst l11 y11 z11
  obtain ⟨rfl, N11q, hq11⟩ := hQ11
  have eq11 : T11.heap = T9.heap := hq11.trans eq10
  have N11 := Fr.app N10 N11q
  obtain ⟨_, _, ⟨T12, L12, k12, n12⟩, -, X12, ⟨Lc12, hQ12, l12, y12, z12⟩, st12⟩ := Jvm.LawKit.callS X11 hx (y := (⟨"com/example/coord2/coord2/KeyRangePrefixPinLaw", "same", "([BIBBB)Z"⟩ : MethodName)) hown (mvT hZ (hw _ (List.mem_of_getElem? (i := 48) rfl))) (mvT hZ (hw _ (List.mem_of_getElem? (i := 49) rfl))) (mvT hZ (hw _ (List.mem_of_getElem? (i := 50) rfl))) (mvT hZ (hw _ (List.mem_of_getElem? (i := 51) rfl))) (by decide) (backOf (W := 0) (rm9 l Z a0 hw [] b5 (3 : Int32) (p1.toInt8.toInt32) (p2.toInt8.toInt32) (p3.toInt8.toInt32) cl T11.heap n0 (by rw [eq11]; exact ZT) (by rw [eq11]; exact ArP') SP (Or.inr (Or.inr rfl)) c0 (Or.inr c1) (Or.inr (Or.inr c2))) hZ (hw _ (List.mem_of_getElem? (i := 51) rfl)) (hw _ (List.mem_of_getElem? (i := 50) rfl)) (by decide) (by decide)) (g := (mkF m 188 #[.val (.int p1), .val (.int p2), .val (.int p3), .val (.int p4), .val (.int (3 : Int32)), .val (.int (p1.toInt8.toInt32)), .val (.int (p2.toInt8.toInt32)), .val (.int (p3.toInt8.toInt32)), .val (.ref b5), .val (.int (1 : Int32)), .val (.int (p1.toInt8.toInt32)), .val (.int (((p2.toInt8.toInt32) + (1 : Int32)).toInt8.toInt32)), .val (.int (p3.toInt8.toInt32)), .val (.ref r), .val (.ref b5), .val (.ref ub)] [(.int (p3.toInt8.toInt32)), (.int (p2.toInt8.toInt32)), (.int (p1.toInt8.toInt32)), (.int (3 : Int32)), (.ref b5)])) rfl (by rw [hml]; rfl) (argsL := [(.ref b5), (.int (3 : Int32)), (.int (p1.toInt8.toInt32)), (.int (p2.toInt8.toInt32)), (.int (p3.toInt8.toInt32))]) (rest := []) (lenOf pd_0_7 rfl) rfl (by show 2 * 0 + _ ≤ _; exact Nat.le_of_eq rfl) (hb hby at_188) (fun _ _ => ⟨rfl, rfl, (Nat.le_of_ble_eq_true rfl), (Nat.le_of_ble_eq_true rfl)⟩)
  dsimp only [Pt.U, Pt.locs, Pt.cells, Pt.slots] at X12 l12 y12 z12 st12 hQ12
  subst l12 y12 z12
  obtain ⟨rfl, N12q, hq12⟩ := hQ12
  have eq12 : T12.heap = T9.heap := hq12.trans eq11
  have N12 := Fr.app N11 N12q
  obtain ⟨_, _, ⟨T13, L13, k13, n13⟩, -, X13, ⟨Lc13, hQ13, l13, y13, z13⟩, st13⟩ := Jvm.LawKit.callS X12 hx (y := (⟨"com/example/coord2/coord2/KeyRangePrefixPinLaw", "same", "([BIBBB)Z"⟩ : MethodName)) hown (mvT hZ (hw _ (List.mem_of_getElem? (i := 48) rfl))) (mvT hZ (hw _ (List.mem_of_getElem? (i := 49) rfl))) (mvT hZ (hw _ (List.mem_of_getElem? (i := 50) rfl))) (mvT hZ (hw _ (List.mem_of_getElem? (i := 51) rfl))) (by decide) (backOf (W := 0) (rm9 l Z a0 hw [] b5 (3 : Int32) (p1.toInt8.toInt32) (p2.toInt8.toInt32) (p3.toInt8.toInt32) cl T12.heap n0 (by rw [eq12]; exact ZT) (by rw [eq12]; exact ArP') SP (Or.inr (Or.inr rfl)) c0 (Or.inr c1) (Or.inr (Or.inr c2))) hZ (hw _ (List.mem_of_getElem? (i := 51) rfl)) (hw _ (List.mem_of_getElem? (i := 50) rfl)) (by decide) (by decide)) (g := (mkF m 204 #[.val (.int p1), .val (.int p2), .val (.int p3), .val (.int p4), .val (.int (3 : Int32)), .val (.int (p1.toInt8.toInt32)), .val (.int (p2.toInt8.toInt32)), .val (.int (p3.toInt8.toInt32)), .val (.ref b5), .val (.int (1 : Int32)), .val (.int (p1.toInt8.toInt32)), .val (.int (((p2.toInt8.toInt32) + (1 : Int32)).toInt8.toInt32)), .val (.int (p3.toInt8.toInt32)), .val (.ref r), .val (.ref b5), .val (.ref ub)] [(.int (p3.toInt8.toInt32)), (.int (p2.toInt8.toInt32)), (.int (p1.toInt8.toInt32)), (.int (3 : Int32)), (.ref b5)])) rfl (by rw [hml]; rfl) (argsL := [(.ref b5), (.int (3 : Int32)), (.int (p1.toInt8.toInt32)), (.int (p2.toInt8.toInt32)), (.int (p3.toInt8.toInt32))]) (rest := []) (lenOf pd_0_7 rfl) rfl (by show 2 * 0 + _ ≤ _; exact Nat.le_of_eq rfl) (hb hby at_204) (fun _ _ => ⟨rfl, rfl, (Nat.le_of_ble_eq_true rfl), (Nat.le_of_ble_eq_true rfl)⟩)
  dsimp only [Pt.U, Pt.locs, Pt.cells, Pt.slots] at X13 l13 y13 z13 st13 hQ13
  subst l13 y13 z13
  obtain ⟨rfl, N13q, hq13⟩ := hQ13
  have eq13 : T13.heap = T9.heap := hq13.trans eq12
  have N13 := Fr.app N12 N13q
  obtain ⟨_, _, ⟨T14, L14, k14, n14⟩, -, X14, ⟨Lc14, hQ14, l14, y14, z14⟩, st14⟩ := Jvm.LawKit.callS X13 hx (y := (⟨"com/example/coord2/coord2/KeyRangePrefixPinLaw", "same", "([BIBBB)Z"⟩ : MethodName)) hown (mvT hZ (hw _ (List.mem_of_getElem? (i := 48) rfl))) (mvT hZ (hw _ (List.mem_of_getElem? (i := 49) rfl))) (mvT hZ (hw _ (List.mem_of_getElem? (i := 50) rfl))) (mvT hZ (hw _ (List.mem_of_getElem? (i := 51) rfl))) (by decide) (backOf (W := 0) (rm9 l Z a0 hw [] ub ((1 : Int32) + (1 : Int32)) (p1.toInt8.toInt32) (((p2.toInt8.toInt32) + (1 : Int32)).toInt8.toInt32) (p3.toInt8.toInt32) B T13.heap n0 (by rw [eq13]; exact ZT) (by rw [eq13]; exact ArU) (by rw [SU]; decide) (Or.inr (Or.inl (by decide))) ((HU 0 (by decide)).trans c0) (Or.inr UK) (Or.inr (Or.inl (by decide)))) hZ (hw _ (List.mem_of_getElem? (i := 51) rfl)) (hw _ (List.mem_of_getElem? (i := 50) rfl)) (by decide) (by decide)) (g := (mkF m 222 #[.val (.int p1), .val (.int p2), .val (.int p3), .val (.int p4), .val (.int (3 : Int32)), .val (.int (p1.toInt8.toInt32)), .val (.int (p2.toInt8.toInt32)), .val (.int (p3.toInt8.toInt32)), .val (.ref b5), .val (.int (1 : Int32)), .val (.int (p1.toInt8.toInt32)), .val (.int (((p2.toInt8.toInt32) + (1 : Int32)).toInt8.toInt32)), .val (.int (p3.toInt8.toInt32)), .val (.ref r), .val (.ref b5), .val (.ref ub)] [(.int (p3.toInt8.toInt32)), (.int (((p2.toInt8.toInt32) + (1 : Int32)).toInt8.toInt32)), (.int (p1.toInt8.toInt32)), (.int ((1 : Int32) + (1 : Int32))), (.ref ub)])) rfl (by rw [hml]; rfl) (argsL := [(.ref ub), (.int ((1 : Int32) + (1 : Int32))), (.int (p1.toInt8.toInt32)), (.int (((p2.toInt8.toInt32) + (1 : Int32)).toInt8.toInt32)), (.int (p3.toInt8.toInt32))]) (rest := []) (lenOf pd_0_7 rfl) rfl (by show 2 * 0 + _ ≤ _; exact Nat.le_of_eq rfl) (hb hby at_222) (fun _ _ => ⟨rfl, rfl, (Nat.le_of_ble_eq_true rfl), (Nat.le_of_ble_eq_true rfl)⟩)
  dsimp only [Pt.U, Pt.locs, Pt.cells, Pt.slots] at X14 l14 y14 z14 st14 hQ14
  subst l14 y14 z14
  obtain ⟨rfl, N14q, hq14⟩ := hQ14
  have eq14 : T14.heap = T9.heap := hq14.trans eq13
  have N14 := Fr.app N13 N14q
  obtain ⟨fs, hr, hrun, hended, hW, hsame⟩ := X14.leave (v := some (.int (1 : Int32))) (fun h => by rw [Bd.returns] at h; cases h)
  refine ⟨_, _, pre0 _ ?_, hrun, hended, _, _, rfl, ?_, ⟨_, rfl⟩, hW, hsame.mono (by decide) (by decide)⟩
  · show Steps p.tables e below (s₁.setTop (mkF m 0 #[.val (.int p1), .val (.int p2), .val (.int p3), .val (.int p4), .unset, .unset, .unset, .unset, .unset, .unset, .unset, .unset, .unset, .unset, .unset, .unset] [])) _
    refine XS.iconst X0.here hx rfl (hb hby at_0) ?_
    show Steps p.tables e below (s₁.setTop (mkF m 1 #[.val (.int p1), .val (.int p2), .val (.int p3), .val (.int p4), .unset, .unset, .unset, .unset, .unset, .unset, .unset, .unset, .unset, .unset, .unset, .unset] [(.int (1 : Int32))])) _
    refine XS.iloadN X0.here hx rfl (hb hby at_1) rfl ?_
    show Steps p.tables e below (s₁.setTop (mkF m 2 #[.val (.int p1), .val (.int p2), .val (.int p3), .val (.int p4), .unset, .unset, .unset, .unset, .unset, .unset, .unset, .unset, .unset, .unset, .unset, .unset] [(.int p4), (.int (1 : Int32))])) _
    refine XS.iconst X0.here hx rfl (hb hby at_2) ?_
    show Steps p.tables e below (s₁.setTop (mkF m 3 #[.val (.int p1), .val (.int p2), .val (.int p3), .val (.int p4), .unset, .unset, .unset, .unset, .unset, .unset, .unset, .unset, .unset, .unset, .unset, .unset] [(.int (3 : Int32)), (.int p4), (.int (1 : Int32))])) _
    refine XS.iand X0.here hx rfl (hb hby at_3) rfl ?_
    show Steps p.tables e below (s₁.setTop (mkF m 4 #[.val (.int p1), .val (.int p2), .val (.int p3), .val (.int p4), .unset, .unset, .unset, .unset, .unset, .unset, .unset, .unset, .unset, .unset, .unset, .unset] [(.int (p4 &&& (3 : Int32))), (.int (1 : Int32))])) _
    refine XS.iconst X0.here hx rfl (hb hby at_4) ?_
    show Steps p.tables e below (s₁.setTop (mkF m 5 #[.val (.int p1), .val (.int p2), .val (.int p3), .val (.int p4), .unset, .unset, .unset, .unset, .unset, .unset, .unset, .unset, .unset, .unset, .unset, .unset] [(.int (3 : Int32)), (.int (p4 &&& (3 : Int32))), (.int (1 : Int32))])) _
    refine iremM X0 hx rfl (hb hby at_5) rfl (by decide) ?_
    show Steps p.tables e below (s₁.setTop (mkF m 6 #[.val (.int p1), .val (.int p2), .val (.int p3), .val (.int p4), .unset, .unset, .unset, .unset, .unset, .unset, .unset, .unset, .unset, .unset, .unset, .unset] [(.int ((p4 &&& (3 : Int32)) % (3 : Int32))), (.int (1 : Int32))])) _
    refine XS.iadd X0.here hx rfl (hb hby at_6) rfl ?_
    show Steps p.tables e below (s₁.setTop (mkF m 7 #[.val (.int p1), .val (.int p2), .val (.int p3), .val (.int p4), .unset, .unset, .unset, .unset, .unset, .unset, .unset, .unset, .unset, .unset, .unset, .unset] [(.int ((1 : Int32) + ((p4 &&& (3 : Int32)) % (3 : Int32))))])) _
    rw [hlen]
    refine XS.istore X0.here hx rfl (hb hby at_7) rfl (l' := #[.val (.int p1), .val (.int p2), .val (.int p3), .val (.int p4), .val (.int (3 : Int32)), .unset, .unset, .unset, .unset, .unset, .unset, .unset, .unset, .unset, .unset, .unset]) rfl ?_
    show Steps p.tables e below (s₁.setTop (mkF m 9 #[.val (.int p1), .val (.int p2), .val (.int p3), .val (.int p4), .val (.int (3 : Int32)), .unset, .unset, .unset, .unset, .unset, .unset, .unset, .unset, .unset, .unset, .unset] [])) _
    refine XS.iloadN X0.here hx rfl (hb hby at_9) rfl ?_
    show Steps p.tables e below (s₁.setTop (mkF m 10 #[.val (.int p1), .val (.int p2), .val (.int p3), .val (.int p4), .val (.int (3 : Int32)), .unset, .unset, .unset, .unset, .unset, .unset, .unset, .unset, .unset, .unset, .unset] [(.int p1)])) _
    refine XS.i2b X0.here hx rfl (hb hby at_10) rfl ?_
    show Steps p.tables e below (s₁.setTop (mkF m 11 #[.val (.int p1), .val (.int p2), .val (.int p3), .val (.int p4), .val (.int (3 : Int32)), .unset, .unset, .unset, .unset, .unset, .unset, .unset, .unset, .unset, .unset, .unset] [(.int (p1.toInt8.toInt32))])) _
    refine XS.istore X0.here hx rfl (hb hby at_11) rfl (l' := #[.val (.int p1), .val (.int p2), .val (.int p3), .val (.int p4), .val (.int (3 : Int32)), .val (.int (p1.toInt8.toInt32)), .unset, .unset, .unset, .unset, .unset, .unset, .unset, .unset, .unset, .unset]) rfl ?_
    show Steps p.tables e below (s₁.setTop (mkF m 13 #[.val (.int p1), .val (.int p2), .val (.int p3), .val (.int p4), .val (.int (3 : Int32)), .val (.int (p1.toInt8.toInt32)), .unset, .unset, .unset, .unset, .unset, .unset, .unset, .unset, .unset, .unset] [])) _
    refine XS.iloadN X0.here hx rfl (hb hby at_13) rfl ?_
    show Steps p.tables e below (s₁.setTop (mkF m 14 #[.val (.int p1), .val (.int p2), .val (.int p3), .val (.int p4), .val (.int (3 : Int32)), .val (.int (p1.toInt8.toInt32)), .unset, .unset, .unset, .unset, .unset, .unset, .unset, .unset, .unset, .unset] [(.int p2)])) _
    refine XS.i2b X0.here hx rfl (hb hby at_14) rfl ?_
    show Steps p.tables e below (s₁.setTop (mkF m 15 #[.val (.int p1), .val (.int p2), .val (.int p3), .val (.int p4), .val (.int (3 : Int32)), .val (.int (p1.toInt8.toInt32)), .unset, .unset, .unset, .unset, .unset, .unset, .unset, .unset, .unset, .unset] [(.int (p2.toInt8.toInt32))])) _
    refine XS.istore X0.here hx rfl (hb hby at_15) rfl (l' := #[.val (.int p1), .val (.int p2), .val (.int p3), .val (.int p4), .val (.int (3 : Int32)), .val (.int (p1.toInt8.toInt32)), .val (.int (p2.toInt8.toInt32)), .unset, .unset, .unset, .unset, .unset, .unset, .unset, .unset, .unset]) rfl ?_
    show Steps p.tables e below (s₁.setTop (mkF m 17 #[.val (.int p1), .val (.int p2), .val (.int p3), .val (.int p4), .val (.int (3 : Int32)), .val (.int (p1.toInt8.toInt32)), .val (.int (p2.toInt8.toInt32)), .unset, .unset, .unset, .unset, .unset, .unset, .unset, .unset, .unset] [])) _
    refine XS.iloadN X0.here hx rfl (hb hby at_17) rfl ?_
    show Steps p.tables e below (s₁.setTop (mkF m 18 #[.val (.int p1), .val (.int p2), .val (.int p3), .val (.int p4), .val (.int (3 : Int32)), .val (.int (p1.toInt8.toInt32)), .val (.int (p2.toInt8.toInt32)), .unset, .unset, .unset, .unset, .unset, .unset, .unset, .unset, .unset] [(.int p3)])) _
    refine XS.i2b X0.here hx rfl (hb hby at_18) rfl ?_
    show Steps p.tables e below (s₁.setTop (mkF m 19 #[.val (.int p1), .val (.int p2), .val (.int p3), .val (.int p4), .val (.int (3 : Int32)), .val (.int (p1.toInt8.toInt32)), .val (.int (p2.toInt8.toInt32)), .unset, .unset, .unset, .unset, .unset, .unset, .unset, .unset, .unset] [(.int (p3.toInt8.toInt32))])) _
    refine XS.istore X0.here hx rfl (hb hby at_19) rfl (l' := #[.val (.int p1), .val (.int p2), .val (.int p3), .val (.int p4), .val (.int (3 : Int32)), .val (.int (p1.toInt8.toInt32)), .val (.int (p2.toInt8.toInt32)), .val (.int (p3.toInt8.toInt32)), .unset, .unset, .unset, .unset, .unset, .unset, .unset, .unset]) rfl ?_
    show Steps p.tables e below (s₁.setTop (mkF m 21 #[.val (.int p1), .val (.int p2), .val (.int p3), .val (.int p4), .val (.int (3 : Int32)), .val (.int (p1.toInt8.toInt32)), .val (.int (p2.toInt8.toInt32)), .val (.int (p3.toInt8.toInt32)), .unset, .unset, .unset, .unset, .unset, .unset, .unset, .unset] [])) _
    refine XS.iload X0.here hx rfl (hb hby at_21) rfl ?_
    show Steps p.tables e below (s₁.setTop (mkF m 23 #[.val (.int p1), .val (.int p2), .val (.int p3), .val (.int p4), .val (.int (3 : Int32)), .val (.int (p1.toInt8.toInt32)), .val (.int (p2.toInt8.toInt32)), .val (.int (p3.toInt8.toInt32)), .unset, .unset, .unset, .unset, .unset, .unset, .unset, .unset] [(.int (3 : Int32))])) _
    refine st5 _ ?_
    show Steps p.tables e below (T5.setTop (mkF m 25 #[.val (.int p1), .val (.int p2), .val (.int p3), .val (.int p4), .val (.int (3 : Int32)), .val (.int (p1.toInt8.toInt32)), .val (.int (p2.toInt8.toInt32)), .val (.int (p3.toInt8.toInt32)), .unset, .unset, .unset, .unset, .unset, .unset, .unset, .unset] [(.ref b5)])) _
    refine XS.astore X5.here hx rfl (hb hby at_25) rfl rfl (l' := #[.val (.int p1), .val (.int p2), .val (.int p3), .val (.int p4), .val (.int (3 : Int32)), .val (.int (p1.toInt8.toInt32)), .val (.int (p2.toInt8.toInt32)), .val (.int (p3.toInt8.toInt32)), .val (.ref b5), .unset, .unset, .unset, .unset, .unset, .unset, .unset]) rfl ?_
    show Steps p.tables e below (T5.setTop (mkF m 27 #[.val (.int p1), .val (.int p2), .val (.int p3), .val (.int p4), .val (.int (3 : Int32)), .val (.int (p1.toInt8.toInt32)), .val (.int (p2.toInt8.toInt32)), .val (.int (p3.toInt8.toInt32)), .val (.ref b5), .unset, .unset, .unset, .unset, .unset, .unset, .unset] [])) _
    refine XS.aload X5.here hx rfl (hb hby at_27) rfl rfl ?_
    show Steps p.tables e below (T5.setTop (mkF m 29 #[.val (.int p1), .val (.int p2), .val (.int p3), .val (.int p4), .val (.int (3 : Int32)), .val (.int (p1.toInt8.toInt32)), .val (.int (p2.toInt8.toInt32)), .val (.int (p3.toInt8.toInt32)), .val (.ref b5), .unset, .unset, .unset, .unset, .unset, .unset, .unset] [(.ref b5)])) _
    refine XS.iconst X5.here hx rfl (hb hby at_29) ?_
    show Steps p.tables e below (T5.setTop (mkF m 30 #[.val (.int p1), .val (.int p2), .val (.int p3), .val (.int p4), .val (.int (3 : Int32)), .val (.int (p1.toInt8.toInt32)), .val (.int (p2.toInt8.toInt32)), .val (.int (p3.toInt8.toInt32)), .val (.ref b5), .unset, .unset, .unset, .unset, .unset, .unset, .unset] [(.int (0 : Int32)), (.ref b5)])) _
    refine XS.iload X5.here hx rfl (hb hby at_30) rfl ?_
    show Steps p.tables e below (T5.setTop (mkF m 32 #[.val (.int p1), .val (.int p2), .val (.int p3), .val (.int p4), .val (.int (3 : Int32)), .val (.int (p1.toInt8.toInt32)), .val (.int (p2.toInt8.toInt32)), .val (.int (p3.toInt8.toInt32)), .val (.ref b5), .unset, .unset, .unset, .unset, .unset, .unset, .unset] [(.int (p1.toInt8.toInt32)), (.int (0 : Int32)), (.ref b5)])) _
    refine st6 _ ?_
    show Steps p.tables e below (T6.setTop (mkF m 33 #[.val (.int p1), .val (.int p2), .val (.int p3), .val (.int p4), .val (.int (3 : Int32)), .val (.int (p1.toInt8.toInt32)), .val (.int (p2.toInt8.toInt32)), .val (.int (p3.toInt8.toInt32)), .val (.ref b5), .unset, .unset, .unset, .unset, .unset, .unset, .unset] [])) _
    refine XS.iload X6.here hx rfl (hb hby at_33) rfl ?_
    show Steps p.tables e below (T6.setTop (mkF m 35 #[.val (.int p1), .val (.int p2), .val (.int p3), .val (.int p4), .val (.int (3 : Int32)), .val (.int (p1.toInt8.toInt32)), .val (.int (p2.toInt8.toInt32)), .val (.int (p3.toInt8.toInt32)), .val (.ref b5), .unset, .unset, .unset, .unset, .unset, .unset, .unset] [(.int (3 : Int32))])) _
    refine XS.iconst X6.here hx rfl (hb hby at_35) ?_
    show Steps p.tables e below (T6.setTop (mkF m 36 #[.val (.int p1), .val (.int p2), .val (.int p3), .val (.int p4), .val (.int (3 : Int32)), .val (.int (p1.toInt8.toInt32)), .val (.int (p2.toInt8.toInt32)), .val (.int (p3.toInt8.toInt32)), .val (.ref b5), .unset, .unset, .unset, .unset, .unset, .unset, .unset] [(.int (1 : Int32)), (.int (3 : Int32))])) _
    refine XS.icmpNo X6.here hx rfl (hb hby at_36) rfl (tlt (by decide)).2.2.2 ?_
    show Steps p.tables e below (T6.setTop (mkF m 39 #[.val (.int p1), .val (.int p2), .val (.int p3), .val (.int p4), .val (.int (3 : Int32)), .val (.int (p1.toInt8.toInt32)), .val (.int (p2.toInt8.toInt32)), .val (.int (p3.toInt8.toInt32)), .val (.ref b5), .unset, .unset, .unset, .unset, .unset, .unset, .unset] [])) _
    refine XS.aload X6.here hx rfl (hb hby at_39) rfl rfl ?_
    show Steps p.tables e below (T6.setTop (mkF m 41 #[.val (.int p1), .val (.int p2), .val (.int p3), .val (.int p4), .val (.int (3 : Int32)), .val (.int (p1.toInt8.toInt32)), .val (.int (p2.toInt8.toInt32)), .val (.int (p3.toInt8.toInt32)), .val (.ref b5), .unset, .unset, .unset, .unset, .unset, .unset, .unset] [(.ref b5)])) _
    refine XS.iconst X6.here hx rfl (hb hby at_41) ?_
    show Steps p.tables e below (T6.setTop (mkF m 42 #[.val (.int p1), .val (.int p2), .val (.int p3), .val (.int p4), .val (.int (3 : Int32)), .val (.int (p1.toInt8.toInt32)), .val (.int (p2.toInt8.toInt32)), .val (.int (p3.toInt8.toInt32)), .val (.ref b5), .unset, .unset, .unset, .unset, .unset, .unset, .unset] [(.int (1 : Int32)), (.ref b5)])) _
    refine XS.iload X6.here hx rfl (hb hby at_42) rfl ?_
    show Steps p.tables e below (T6.setTop (mkF m 44 #[.val (.int p1), .val (.int p2), .val (.int p3), .val (.int p4), .val (.int (3 : Int32)), .val (.int (p1.toInt8.toInt32)), .val (.int (p2.toInt8.toInt32)), .val (.int (p3.toInt8.toInt32)), .val (.ref b5), .unset, .unset, .unset, .unset, .unset, .unset, .unset] [(.int (p2.toInt8.toInt32)), (.int (1 : Int32)), (.ref b5)])) _
    refine st7 _ ?_
    show Steps p.tables e below (T7.setTop (mkF m 45 #[.val (.int p1), .val (.int p2), .val (.int p3), .val (.int p4), .val (.int (3 : Int32)), .val (.int (p1.toInt8.toInt32)), .val (.int (p2.toInt8.toInt32)), .val (.int (p3.toInt8.toInt32)), .val (.ref b5), .unset, .unset, .unset, .unset, .unset, .unset, .unset] [])) _
    refine XS.iload X7.here hx rfl (hb hby at_45) rfl ?_
    show Steps p.tables e below (T7.setTop (mkF m 47 #[.val (.int p1), .val (.int p2), .val (.int p3), .val (.int p4), .val (.int (3 : Int32)), .val (.int (p1.toInt8.toInt32)), .val (.int (p2.toInt8.toInt32)), .val (.int (p3.toInt8.toInt32)), .val (.ref b5), .unset, .unset, .unset, .unset, .unset, .unset, .unset] [(.int (3 : Int32))])) _
    refine XS.iconst X7.here hx rfl (hb hby at_47) ?_
    show Steps p.tables e below (T7.setTop (mkF m 48 #[.val (.int p1), .val (.int p2), .val (.int p3), .val (.int p4), .val (.int (3 : Int32)), .val (.int (p1.toInt8.toInt32)), .val (.int (p2.toInt8.toInt32)), .val (.int (p3.toInt8.toInt32)), .val (.ref b5), .unset, .unset, .unset, .unset, .unset, .unset, .unset] [(.int (2 : Int32)), (.int (3 : Int32))])) _
    refine XS.icmpNo X7.here hx rfl (hb hby at_48) rfl (tlt (by decide)).2.2.2 ?_
    show Steps p.tables e below (T7.setTop (mkF m 51 #[.val (.int p1), .val (.int p2), .val (.int p3), .val (.int p4), .val (.int (3 : Int32)), .val (.int (p1.toInt8.toInt32)), .val (.int (p2.toInt8.toInt32)), .val (.int (p3.toInt8.toInt32)), .val (.ref b5), .unset, .unset, .unset, .unset, .unset, .unset, .unset] [])) _
    refine XS.aload X7.here hx rfl (hb hby at_51) rfl rfl ?_
    show Steps p.tables e below (T7.setTop (mkF m 53 #[.val (.int p1), .val (.int p2), .val (.int p3), .val (.int p4), .val (.int (3 : Int32)), .val (.int (p1.toInt8.toInt32)), .val (.int (p2.toInt8.toInt32)), .val (.int (p3.toInt8.toInt32)), .val (.ref b5), .unset, .unset, .unset, .unset, .unset, .unset, .unset] [(.ref b5)])) _
    refine XS.iconst X7.here hx rfl (hb hby at_53) ?_
    show Steps p.tables e below (T7.setTop (mkF m 54 #[.val (.int p1), .val (.int p2), .val (.int p3), .val (.int p4), .val (.int (3 : Int32)), .val (.int (p1.toInt8.toInt32)), .val (.int (p2.toInt8.toInt32)), .val (.int (p3.toInt8.toInt32)), .val (.ref b5), .unset, .unset, .unset, .unset, .unset, .unset, .unset] [(.int (2 : Int32)), (.ref b5)])) _
    refine XS.iload X7.here hx rfl (hb hby at_54) rfl ?_
    show Steps p.tables e below (T7.setTop (mkF m 56 #[.val (.int p1), .val (.int p2), .val (.int p3), .val (.int p4), .val (.int (3 : Int32)), .val (.int (p1.toInt8.toInt32)), .val (.int (p2.toInt8.toInt32)), .val (.int (p3.toInt8.toInt32)), .val (.ref b5), .unset, .unset, .unset, .unset, .unset, .unset, .unset] [(.int (p3.toInt8.toInt32)), (.int (2 : Int32)), (.ref b5)])) _
    refine st8 _ ?_
    show Steps p.tables e below (T8.setTop (mkF m 57 #[.val (.int p1), .val (.int p2), .val (.int p3), .val (.int p4), .val (.int (3 : Int32)), .val (.int (p1.toInt8.toInt32)), .val (.int (p2.toInt8.toInt32)), .val (.int (p3.toInt8.toInt32)), .val (.ref b5), .unset, .unset, .unset, .unset, .unset, .unset, .unset] [])) _
    refine XS.iload X8.here hx rfl (hb hby at_57) rfl ?_
    show Steps p.tables e below (T8.setTop (mkF m 59 #[.val (.int p1), .val (.int p2), .val (.int p3), .val (.int p4), .val (.int (3 : Int32)), .val (.int (p1.toInt8.toInt32)), .val (.int (p2.toInt8.toInt32)), .val (.int (p3.toInt8.toInt32)), .val (.ref b5), .unset, .unset, .unset, .unset, .unset, .unset, .unset] [(.int (3 : Int32))])) _
    refine XS.iconst X8.here hx rfl (hb hby at_59) ?_
    show Steps p.tables e below (T8.setTop (mkF m 60 #[.val (.int p1), .val (.int p2), .val (.int p3), .val (.int p4), .val (.int (3 : Int32)), .val (.int (p1.toInt8.toInt32)), .val (.int (p2.toInt8.toInt32)), .val (.int (p3.toInt8.toInt32)), .val (.ref b5), .unset, .unset, .unset, .unset, .unset, .unset, .unset] [(.int (3 : Int32)), (.int (3 : Int32))])) _
    refine XS.icmpNo X8.here hx rfl (hb hby at_60) rfl (teq (by decide)).2 ?_
    show Steps p.tables e below (T8.setTop (mkF m 63 #[.val (.int p1), .val (.int p2), .val (.int p3), .val (.int p4), .val (.int (3 : Int32)), .val (.int (p1.toInt8.toInt32)), .val (.int (p2.toInt8.toInt32)), .val (.int (p3.toInt8.toInt32)), .val (.ref b5), .unset, .unset, .unset, .unset, .unset, .unset, .unset] [])) _
    refine XS.iload X8.here hx rfl (hb hby at_63) rfl ?_
    show Steps p.tables e below (T8.setTop (mkF m 65 #[.val (.int p1), .val (.int p2), .val (.int p3), .val (.int p4), .val (.int (3 : Int32)), .val (.int (p1.toInt8.toInt32)), .val (.int (p2.toInt8.toInt32)), .val (.int (p3.toInt8.toInt32)), .val (.ref b5), .unset, .unset, .unset, .unset, .unset, .unset, .unset] [(.int (p3.toInt8.toInt32))])) _
    refine XS.iconst X8.here hx rfl (hb hby at_65) ?_
    show Steps p.tables e below (T8.setTop (mkF m 66 #[.val (.int p1), .val (.int p2), .val (.int p3), .val (.int p4), .val (.int (3 : Int32)), .val (.int (p1.toInt8.toInt32)), .val (.int (p2.toInt8.toInt32)), .val (.int (p3.toInt8.toInt32)), .val (.ref b5), .unset, .unset, .unset, .unset, .unset, .unset, .unset] [(.int (-1 : Int32)), (.int (p3.toInt8.toInt32))])) _
    refine XS.icmpYes X8.here hx rfl (pc0 := 66) (pc' := 75) rfl (hb hby at_66) rfl (teq m2).1 (by decide) (by decide) ?_
    show Steps p.tables e below (T8.setTop (mkF m 75 #[.val (.int p1), .val (.int p2), .val (.int p3), .val (.int p4), .val (.int (3 : Int32)), .val (.int (p1.toInt8.toInt32)), .val (.int (p2.toInt8.toInt32)), .val (.int (p3.toInt8.toInt32)), .val (.ref b5), .unset, .unset, .unset, .unset, .unset, .unset, .unset] [])) _
    refine XS.iload X8.here hx rfl (hb hby at_75) rfl ?_
    show Steps p.tables e below (T8.setTop (mkF m 77 #[.val (.int p1), .val (.int p2), .val (.int p3), .val (.int p4), .val (.int (3 : Int32)), .val (.int (p1.toInt8.toInt32)), .val (.int (p2.toInt8.toInt32)), .val (.int (p3.toInt8.toInt32)), .val (.ref b5), .unset, .unset, .unset, .unset, .unset, .unset, .unset] [(.int (3 : Int32))])) _
    refine XS.iconst X8.here hx rfl (hb hby at_77) ?_
    show Steps p.tables e below (T8.setTop (mkF m 78 #[.val (.int p1), .val (.int p2), .val (.int p3), .val (.int p4), .val (.int (3 : Int32)), .val (.int (p1.toInt8.toInt32)), .val (.int (p2.toInt8.toInt32)), .val (.int (p3.toInt8.toInt32)), .val (.ref b5), .unset, .unset, .unset, .unset, .unset, .unset, .unset] [(.int (2 : Int32)), (.int (3 : Int32))])) _
    refine XS.icmpNo X8.here hx rfl (hb hby at_78) rfl (flt (by decide)).1 ?_
    show Steps p.tables e below (T8.setTop (mkF m 81 #[.val (.int p1), .val (.int p2), .val (.int p3), .val (.int p4), .val (.int (3 : Int32)), .val (.int (p1.toInt8.toInt32)), .val (.int (p2.toInt8.toInt32)), .val (.int (p3.toInt8.toInt32)), .val (.ref b5), .unset, .unset, .unset, .unset, .unset, .unset, .unset] [])) _
    refine XS.iload X8.here hx rfl (hb hby at_81) rfl ?_
    show Steps p.tables e below (T8.setTop (mkF m 83 #[.val (.int p1), .val (.int p2), .val (.int p3), .val (.int p4), .val (.int (3 : Int32)), .val (.int (p1.toInt8.toInt32)), .val (.int (p2.toInt8.toInt32)), .val (.int (p3.toInt8.toInt32)), .val (.ref b5), .unset, .unset, .unset, .unset, .unset, .unset, .unset] [(.int (p2.toInt8.toInt32))])) _
    refine XS.iconst X8.here hx rfl (hb hby at_83) ?_
    show Steps p.tables e below (T8.setTop (mkF m 84 #[.val (.int p1), .val (.int p2), .val (.int p3), .val (.int p4), .val (.int (3 : Int32)), .val (.int (p1.toInt8.toInt32)), .val (.int (p2.toInt8.toInt32)), .val (.int (p3.toInt8.toInt32)), .val (.ref b5), .unset, .unset, .unset, .unset, .unset, .unset, .unset] [(.int (-1 : Int32)), (.int (p2.toInt8.toInt32))])) _
    refine XS.icmpNo X8.here hx rfl (hb hby at_84) rfl (feq nk1).1 ?_
    show Steps p.tables e below (T8.setTop (mkF m 87 #[.val (.int p1), .val (.int p2), .val (.int p3), .val (.int p4), .val (.int (3 : Int32)), .val (.int (p1.toInt8.toInt32)), .val (.int (p2.toInt8.toInt32)), .val (.int (p3.toInt8.toInt32)), .val (.ref b5), .unset, .unset, .unset, .unset, .unset, .unset, .unset] [])) _
    refine XS.iconst X8.here hx rfl (hb hby at_87) ?_
    show Steps p.tables e below (T8.setTop (mkF m 88 #[.val (.int p1), .val (.int p2), .val (.int p3), .val (.int p4), .val (.int (3 : Int32)), .val (.int (p1.toInt8.toInt32)), .val (.int (p2.toInt8.toInt32)), .val (.int (p3.toInt8.toInt32)), .val (.ref b5), .unset, .unset, .unset, .unset, .unset, .unset, .unset] [(.int (1 : Int32))])) _
    refine XS.istore X8.here hx rfl (hb hby at_88) rfl (l' := #[.val (.int p1), .val (.int p2), .val (.int p3), .val (.int p4), .val (.int (3 : Int32)), .val (.int (p1.toInt8.toInt32)), .val (.int (p2.toInt8.toInt32)), .val (.int (p3.toInt8.toInt32)), .val (.ref b5), .val (.int (1 : Int32)), .unset, .unset, .unset, .unset, .unset, .unset]) rfl ?_
    show Steps p.tables e below (T8.setTop (mkF m 90 #[.val (.int p1), .val (.int p2), .val (.int p3), .val (.int p4), .val (.int (3 : Int32)), .val (.int (p1.toInt8.toInt32)), .val (.int (p2.toInt8.toInt32)), .val (.int (p3.toInt8.toInt32)), .val (.ref b5), .val (.int (1 : Int32)), .unset, .unset, .unset, .unset, .unset, .unset] [])) _
    refine XS.goto X8.here hx rfl (pc0 := 90) (pc' := 107) rfl (hb hby at_90) (by decide) (by decide) ?_
    show Steps p.tables e below (T8.setTop (mkF m 107 #[.val (.int p1), .val (.int p2), .val (.int p3), .val (.int p4), .val (.int (3 : Int32)), .val (.int (p1.toInt8.toInt32)), .val (.int (p2.toInt8.toInt32)), .val (.int (p3.toInt8.toInt32)), .val (.ref b5), .val (.int (1 : Int32)), .unset, .unset, .unset, .unset, .unset, .unset] [])) _
    refine XS.iload X8.here hx rfl (hb hby at_107) rfl ?_
    show Steps p.tables e below (T8.setTop (mkF m 109 #[.val (.int p1), .val (.int p2), .val (.int p3), .val (.int p4), .val (.int (3 : Int32)), .val (.int (p1.toInt8.toInt32)), .val (.int (p2.toInt8.toInt32)), .val (.int (p3.toInt8.toInt32)), .val (.ref b5), .val (.int (1 : Int32)), .unset, .unset, .unset, .unset, .unset, .unset] [(.int (p1.toInt8.toInt32))])) _
    refine XS.istore X8.here hx rfl (hb hby at_109) rfl (l' := #[.val (.int p1), .val (.int p2), .val (.int p3), .val (.int p4), .val (.int (3 : Int32)), .val (.int (p1.toInt8.toInt32)), .val (.int (p2.toInt8.toInt32)), .val (.int (p3.toInt8.toInt32)), .val (.ref b5), .val (.int (1 : Int32)), .val (.int (p1.toInt8.toInt32)), .unset, .unset, .unset, .unset, .unset]) rfl ?_
    show Steps p.tables e below (T8.setTop (mkF m 111 #[.val (.int p1), .val (.int p2), .val (.int p3), .val (.int p4), .val (.int (3 : Int32)), .val (.int (p1.toInt8.toInt32)), .val (.int (p2.toInt8.toInt32)), .val (.int (p3.toInt8.toInt32)), .val (.ref b5), .val (.int (1 : Int32)), .val (.int (p1.toInt8.toInt32)), .unset, .unset, .unset, .unset, .unset] [])) _
    refine XS.iload X8.here hx rfl (hb hby at_111) rfl ?_
    show Steps p.tables e below (T8.setTop (mkF m 113 #[.val (.int p1), .val (.int p2), .val (.int p3), .val (.int p4), .val (.int (3 : Int32)), .val (.int (p1.toInt8.toInt32)), .val (.int (p2.toInt8.toInt32)), .val (.int (p3.toInt8.toInt32)), .val (.ref b5), .val (.int (1 : Int32)), .val (.int (p1.toInt8.toInt32)), .unset, .unset, .unset, .unset, .unset] [(.int (p2.toInt8.toInt32))])) _
    refine XS.istore X8.here hx rfl (hb hby at_113) rfl (l' := #[.val (.int p1), .val (.int p2), .val (.int p3), .val (.int p4), .val (.int (3 : Int32)), .val (.int (p1.toInt8.toInt32)), .val (.int (p2.toInt8.toInt32)), .val (.int (p3.toInt8.toInt32)), .val (.ref b5), .val (.int (1 : Int32)), .val (.int (p1.toInt8.toInt32)), .val (.int (p2.toInt8.toInt32)), .unset, .unset, .unset, .unset]) rfl ?_
    show Steps p.tables e below (T8.setTop (mkF m 115 #[.val (.int p1), .val (.int p2), .val (.int p3), .val (.int p4), .val (.int (3 : Int32)), .val (.int (p1.toInt8.toInt32)), .val (.int (p2.toInt8.toInt32)), .val (.int (p3.toInt8.toInt32)), .val (.ref b5), .val (.int (1 : Int32)), .val (.int (p1.toInt8.toInt32)), .val (.int (p2.toInt8.toInt32)), .unset, .unset, .unset, .unset] [])) _
    refine XS.iload X8.here hx rfl (hb hby at_115) rfl ?_
    show Steps p.tables e below (T8.setTop (mkF m 117 #[.val (.int p1), .val (.int p2), .val (.int p3), .val (.int p4), .val (.int (3 : Int32)), .val (.int (p1.toInt8.toInt32)), .val (.int (p2.toInt8.toInt32)), .val (.int (p3.toInt8.toInt32)), .val (.ref b5), .val (.int (1 : Int32)), .val (.int (p1.toInt8.toInt32)), .val (.int (p2.toInt8.toInt32)), .unset, .unset, .unset, .unset] [(.int (p3.toInt8.toInt32))])) _
    refine XS.istore X8.here hx rfl (hb hby at_117) rfl (l' := #[.val (.int p1), .val (.int p2), .val (.int p3), .val (.int p4), .val (.int (3 : Int32)), .val (.int (p1.toInt8.toInt32)), .val (.int (p2.toInt8.toInt32)), .val (.int (p3.toInt8.toInt32)), .val (.ref b5), .val (.int (1 : Int32)), .val (.int (p1.toInt8.toInt32)), .val (.int (p2.toInt8.toInt32)), .val (.int (p3.toInt8.toInt32)), .unset, .unset, .unset]) rfl ?_
    show Steps p.tables e below (T8.setTop (mkF m 119 #[.val (.int p1), .val (.int p2), .val (.int p3), .val (.int p4), .val (.int (3 : Int32)), .val (.int (p1.toInt8.toInt32)), .val (.int (p2.toInt8.toInt32)), .val (.int (p3.toInt8.toInt32)), .val (.ref b5), .val (.int (1 : Int32)), .val (.int (p1.toInt8.toInt32)), .val (.int (p2.toInt8.toInt32)), .val (.int (p3.toInt8.toInt32)), .unset, .unset, .unset] [])) _
    refine XS.iload X8.here hx rfl (hb hby at_119) rfl ?_
    show Steps p.tables e below (T8.setTop (mkF m 121 #[.val (.int p1), .val (.int p2), .val (.int p3), .val (.int p4), .val (.int (3 : Int32)), .val (.int (p1.toInt8.toInt32)), .val (.int (p2.toInt8.toInt32)), .val (.int (p3.toInt8.toInt32)), .val (.ref b5), .val (.int (1 : Int32)), .val (.int (p1.toInt8.toInt32)), .val (.int (p2.toInt8.toInt32)), .val (.int (p3.toInt8.toInt32)), .unset, .unset, .unset] [(.int (1 : Int32))])) _
    refine XS.ifYes X8.here hx rfl (pc0 := 121) (pc' := 134) rfl (hb hby at_121) rfl ((if0 _ _).trans (feq (by decide)).2) (by decide) (by decide) ?_
    show Steps p.tables e below (T8.setTop (mkF m 134 #[.val (.int p1), .val (.int p2), .val (.int p3), .val (.int p4), .val (.int (3 : Int32)), .val (.int (p1.toInt8.toInt32)), .val (.int (p2.toInt8.toInt32)), .val (.int (p3.toInt8.toInt32)), .val (.ref b5), .val (.int (1 : Int32)), .val (.int (p1.toInt8.toInt32)), .val (.int (p2.toInt8.toInt32)), .val (.int (p3.toInt8.toInt32)), .unset, .unset, .unset] [])) _
    refine XS.iload X8.here hx rfl (hb hby at_134) rfl ?_
    show Steps p.tables e below (T8.setTop (mkF m 136 #[.val (.int p1), .val (.int p2), .val (.int p3), .val (.int p4), .val (.int (3 : Int32)), .val (.int (p1.toInt8.toInt32)), .val (.int (p2.toInt8.toInt32)), .val (.int (p3.toInt8.toInt32)), .val (.ref b5), .val (.int (1 : Int32)), .val (.int (p1.toInt8.toInt32)), .val (.int (p2.toInt8.toInt32)), .val (.int (p3.toInt8.toInt32)), .unset, .unset, .unset] [(.int (1 : Int32))])) _
    refine XS.iconst X8.here hx rfl (hb hby at_136) ?_
    show Steps p.tables e below (T8.setTop (mkF m 137 #[.val (.int p1), .val (.int p2), .val (.int p3), .val (.int p4), .val (.int (3 : Int32)), .val (.int (p1.toInt8.toInt32)), .val (.int (p2.toInt8.toInt32)), .val (.int (p3.toInt8.toInt32)), .val (.ref b5), .val (.int (1 : Int32)), .val (.int (p1.toInt8.toInt32)), .val (.int (p2.toInt8.toInt32)), .val (.int (p3.toInt8.toInt32)), .unset, .unset, .unset] [(.int (1 : Int32)), (.int (1 : Int32))])) _
    refine XS.icmpNo X8.here hx rfl (hb hby at_137) rfl (teq (rfl : (1 : Int32) = (1 : Int32))).2 ?_
    show Steps p.tables e below (T8.setTop (mkF m 140 #[.val (.int p1), .val (.int p2), .val (.int p3), .val (.int p4), .val (.int (3 : Int32)), .val (.int (p1.toInt8.toInt32)), .val (.int (p2.toInt8.toInt32)), .val (.int (p3.toInt8.toInt32)), .val (.ref b5), .val (.int (1 : Int32)), .val (.int (p1.toInt8.toInt32)), .val (.int (p2.toInt8.toInt32)), .val (.int (p3.toInt8.toInt32)), .unset, .unset, .unset] [])) _
    refine XS.iload X8.here hx rfl (hb hby at_140) rfl ?_
    show Steps p.tables e below (T8.setTop (mkF m 142 #[.val (.int p1), .val (.int p2), .val (.int p3), .val (.int p4), .val (.int (3 : Int32)), .val (.int (p1.toInt8.toInt32)), .val (.int (p2.toInt8.toInt32)), .val (.int (p3.toInt8.toInt32)), .val (.ref b5), .val (.int (1 : Int32)), .val (.int (p1.toInt8.toInt32)), .val (.int (p2.toInt8.toInt32)), .val (.int (p3.toInt8.toInt32)), .unset, .unset, .unset] [(.int (p2.toInt8.toInt32))])) _
    refine XS.iconst X8.here hx rfl (hb hby at_142) ?_
    show Steps p.tables e below (T8.setTop (mkF m 143 #[.val (.int p1), .val (.int p2), .val (.int p3), .val (.int p4), .val (.int (3 : Int32)), .val (.int (p1.toInt8.toInt32)), .val (.int (p2.toInt8.toInt32)), .val (.int (p3.toInt8.toInt32)), .val (.ref b5), .val (.int (1 : Int32)), .val (.int (p1.toInt8.toInt32)), .val (.int (p2.toInt8.toInt32)), .val (.int (p3.toInt8.toInt32)), .unset, .unset, .unset] [(.int (1 : Int32)), (.int (p2.toInt8.toInt32))])) _
    refine XS.iadd X8.here hx rfl (hb hby at_143) rfl ?_
    show Steps p.tables e below (T8.setTop (mkF m 144 #[.val (.int p1), .val (.int p2), .val (.int p3), .val (.int p4), .val (.int (3 : Int32)), .val (.int (p1.toInt8.toInt32)), .val (.int (p2.toInt8.toInt32)), .val (.int (p3.toInt8.toInt32)), .val (.ref b5), .val (.int (1 : Int32)), .val (.int (p1.toInt8.toInt32)), .val (.int (p2.toInt8.toInt32)), .val (.int (p3.toInt8.toInt32)), .unset, .unset, .unset] [(.int ((p2.toInt8.toInt32) + (1 : Int32)))])) _
    refine XS.i2b X8.here hx rfl (hb hby at_144) rfl ?_
    show Steps p.tables e below (T8.setTop (mkF m 145 #[.val (.int p1), .val (.int p2), .val (.int p3), .val (.int p4), .val (.int (3 : Int32)), .val (.int (p1.toInt8.toInt32)), .val (.int (p2.toInt8.toInt32)), .val (.int (p3.toInt8.toInt32)), .val (.ref b5), .val (.int (1 : Int32)), .val (.int (p1.toInt8.toInt32)), .val (.int (p2.toInt8.toInt32)), .val (.int (p3.toInt8.toInt32)), .unset, .unset, .unset] [(.int (((p2.toInt8.toInt32) + (1 : Int32)).toInt8.toInt32))])) _
    refine XS.istore X8.here hx rfl (hb hby at_145) rfl (l' := #[.val (.int p1), .val (.int p2), .val (.int p3), .val (.int p4), .val (.int (3 : Int32)), .val (.int (p1.toInt8.toInt32)), .val (.int (p2.toInt8.toInt32)), .val (.int (p3.toInt8.toInt32)), .val (.ref b5), .val (.int (1 : Int32)), .val (.int (p1.toInt8.toInt32)), .val (.int (((p2.toInt8.toInt32) + (1 : Int32)).toInt8.toInt32)), .val (.int (p3.toInt8.toInt32)), .unset, .unset, .unset]) rfl ?_
    show Steps p.tables e below (T8.setTop (mkF m 147 #[.val (.int p1), .val (.int p2), .val (.int p3), .val (.int p4), .val (.int (3 : Int32)), .val (.int (p1.toInt8.toInt32)), .val (.int (p2.toInt8.toInt32)), .val (.int (p3.toInt8.toInt32)), .val (.ref b5), .val (.int (1 : Int32)), .val (.int (p1.toInt8.toInt32)), .val (.int (((p2.toInt8.toInt32) + (1 : Int32)).toInt8.toInt32)), .val (.int (p3.toInt8.toInt32)), .unset, .unset, .unset] [])) _
    refine XS.goto X8.here hx rfl (pc0 := 147) (pc' := 157) rfl (hb hby at_147) (by decide) (by decide) ?_
    show Steps p.tables e below (T8.setTop (mkF m 157 #[.val (.int p1), .val (.int p2), .val (.int p3), .val (.int p4), .val (.int (3 : Int32)), .val (.int (p1.toInt8.toInt32)), .val (.int (p2.toInt8.toInt32)), .val (.int (p3.toInt8.toInt32)), .val (.ref b5), .val (.int (1 : Int32)), .val (.int (p1.toInt8.toInt32)), .val (.int (((p2.toInt8.toInt32) + (1 : Int32)).toInt8.toInt32)), .val (.int (p3.toInt8.toInt32)), .unset, .unset, .unset] [])) _
    refine XS.aload X8.here hx rfl (hb hby at_157) rfl rfl ?_
    show Steps p.tables e below (T8.setTop (mkF m 159 #[.val (.int p1), .val (.int p2), .val (.int p3), .val (.int p4), .val (.int (3 : Int32)), .val (.int (p1.toInt8.toInt32)), .val (.int (p2.toInt8.toInt32)), .val (.int (p3.toInt8.toInt32)), .val (.ref b5), .val (.int (1 : Int32)), .val (.int (p1.toInt8.toInt32)), .val (.int (((p2.toInt8.toInt32) + (1 : Int32)).toInt8.toInt32)), .val (.int (p3.toInt8.toInt32)), .unset, .unset, .unset] [(.ref b5)])) _
    refine st9 _ ?_
    show Steps p.tables e below (T9.setTop (mkF m 162 #[.val (.int p1), .val (.int p2), .val (.int p3), .val (.int p4), .val (.int (3 : Int32)), .val (.int (p1.toInt8.toInt32)), .val (.int (p2.toInt8.toInt32)), .val (.int (p3.toInt8.toInt32)), .val (.ref b5), .val (.int (1 : Int32)), .val (.int (p1.toInt8.toInt32)), .val (.int (((p2.toInt8.toInt32) + (1 : Int32)).toInt8.toInt32)), .val (.int (p3.toInt8.toInt32)), .unset, .unset, .unset] [(.ref r)])) _
    refine XS.astore X9.here hx rfl (hb hby at_162) rfl rfl (l' := #[.val (.int p1), .val (.int p2), .val (.int p3), .val (.int p4), .val (.int (3 : Int32)), .val (.int (p1.toInt8.toInt32)), .val (.int (p2.toInt8.toInt32)), .val (.int (p3.toInt8.toInt32)), .val (.ref b5), .val (.int (1 : Int32)), .val (.int (p1.toInt8.toInt32)), .val (.int (((p2.toInt8.toInt32) + (1 : Int32)).toInt8.toInt32)), .val (.int (p3.toInt8.toInt32)), .val (.ref r), .unset, .unset]) rfl ?_
    show Steps p.tables e below (T9.setTop (mkF m 164 #[.val (.int p1), .val (.int p2), .val (.int p3), .val (.int p4), .val (.int (3 : Int32)), .val (.int (p1.toInt8.toInt32)), .val (.int (p2.toInt8.toInt32)), .val (.int (p3.toInt8.toInt32)), .val (.ref b5), .val (.int (1 : Int32)), .val (.int (p1.toInt8.toInt32)), .val (.int (((p2.toInt8.toInt32) + (1 : Int32)).toInt8.toInt32)), .val (.int (p3.toInt8.toInt32)), .val (.ref r), .unset, .unset] [])) _
    refine XS.aload X9.here hx rfl (hb hby at_164) rfl rfl ?_
    show Steps p.tables e below (T9.setTop (mkF m 166 #[.val (.int p1), .val (.int p2), .val (.int p3), .val (.int p4), .val (.int (3 : Int32)), .val (.int (p1.toInt8.toInt32)), .val (.int (p2.toInt8.toInt32)), .val (.int (p3.toInt8.toInt32)), .val (.ref b5), .val (.int (1 : Int32)), .val (.int (p1.toInt8.toInt32)), .val (.int (((p2.toInt8.toInt32) + (1 : Int32)).toInt8.toInt32)), .val (.int (p3.toInt8.toInt32)), .val (.ref r), .unset, .unset] [(.ref r)])) _
    refine st10.trans ?_
    show Steps p.tables e below (T10.setTop (mkF m 169 #[.val (.int p1), .val (.int p2), .val (.int p3), .val (.int p4), .val (.int (3 : Int32)), .val (.int (p1.toInt8.toInt32)), .val (.int (p2.toInt8.toInt32)), .val (.int (p3.toInt8.toInt32)), .val (.ref b5), .val (.int (1 : Int32)), .val (.int (p1.toInt8.toInt32)), .val (.int (((p2.toInt8.toInt32) + (1 : Int32)).toInt8.toInt32)), .val (.int (p3.toInt8.toInt32)), .val (.ref r), .unset, .unset] [(.ref b5)])) _
    refine XS.astore X10.here hx rfl (hb hby at_169) rfl rfl (l' := #[.val (.int p1), .val (.int p2), .val (.int p3), .val (.int p4), .val (.int (3 : Int32)), .val (.int (p1.toInt8.toInt32)), .val (.int (p2.toInt8.toInt32)), .val (.int (p3.toInt8.toInt32)), .val (.ref b5), .val (.int (1 : Int32)), .val (.int (p1.toInt8.toInt32)), .val (.int (((p2.toInt8.toInt32) + (1 : Int32)).toInt8.toInt32)), .val (.int (p3.toInt8.toInt32)), .val (.ref r), .val (.ref b5), .unset]) rfl ?_
    show Steps p.tables e below (T10.setTop (mkF m 171 #[.val (.int p1), .val (.int p2), .val (.int p3), .val (.int p4), .val (.int (3 : Int32)), .val (.int (p1.toInt8.toInt32)), .val (.int (p2.toInt8.toInt32)), .val (.int (p3.toInt8.toInt32)), .val (.ref b5), .val (.int (1 : Int32)), .val (.int (p1.toInt8.toInt32)), .val (.int (((p2.toInt8.toInt32) + (1 : Int32)).toInt8.toInt32)), .val (.int (p3.toInt8.toInt32)), .val (.ref r), .val (.ref b5), .unset] [])) _
    refine XS.aload X10.here hx rfl (hb hby at_171) rfl rfl ?_
    show Steps p.tables e below (T10.setTop (mkF m 173 #[.val (.int p1), .val (.int p2), .val (.int p3), .val (.int p4), .val (.int (3 : Int32)), .val (.int (p1.toInt8.toInt32)), .val (.int (p2.toInt8.toInt32)), .val (.int (p3.toInt8.toInt32)), .val (.ref b5), .val (.int (1 : Int32)), .val (.int (p1.toInt8.toInt32)), .val (.int (((p2.toInt8.toInt32) + (1 : Int32)).toInt8.toInt32)), .val (.int (p3.toInt8.toInt32)), .val (.ref r), .val (.ref b5), .unset] [(.ref r)])) _
    refine st11.trans ?_
    show Steps p.tables e below (T11.setTop (mkF m 176 #[.val (.int p1), .val (.int p2), .val (.int p3), .val (.int p4), .val (.int (3 : Int32)), .val (.int (p1.toInt8.toInt32)), .val (.int (p2.toInt8.toInt32)), .val (.int (p3.toInt8.toInt32)), .val (.ref b5), .val (.int (1 : Int32)), .val (.int (p1.toInt8.toInt32)), .val (.int (((p2.toInt8.toInt32) + (1 : Int32)).toInt8.toInt32)), .val (.int (p3.toInt8.toInt32)), .val (.ref r), .val (.ref b5), .unset] [(.ref ub)])) _
    refine XS.astore X11.here hx rfl (hb hby at_176) rfl rfl (l' := #[.val (.int p1), .val (.int p2), .val (.int p3), .val (.int p4), .val (.int (3 : Int32)), .val (.int (p1.toInt8.toInt32)), .val (.int (p2.toInt8.toInt32)), .val (.int (p3.toInt8.toInt32)), .val (.ref b5), .val (.int (1 : Int32)), .val (.int (p1.toInt8.toInt32)), .val (.int (((p2.toInt8.toInt32) + (1 : Int32)).toInt8.toInt32)), .val (.int (p3.toInt8.toInt32)), .val (.ref r), .val (.ref b5), .val (.ref ub)]) rfl ?_
    show Steps p.tables e below (T11.setTop (mkF m 178 #[.val (.int p1), .val (.int p2), .val (.int p3), .val (.int p4), .val (.int (3 : Int32)), .val (.int (p1.toInt8.toInt32)), .val (.int (p2.toInt8.toInt32)), .val (.int (p3.toInt8.toInt32)), .val (.ref b5), .val (.int (1 : Int32)), .val (.int (p1.toInt8.toInt32)), .val (.int (((p2.toInt8.toInt32) + (1 : Int32)).toInt8.toInt32)), .val (.int (p3.toInt8.toInt32)), .val (.ref r), .val (.ref b5), .val (.ref ub)] [])) _
    refine XS.aload X11.here hx rfl (hb hby at_178) rfl rfl ?_
    show Steps p.tables e below (T11.setTop (mkF m 180 #[.val (.int p1), .val (.int p2), .val (.int p3), .val (.int p4), .val (.int (3 : Int32)), .val (.int (p1.toInt8.toInt32)), .val (.int (p2.toInt8.toInt32)), .val (.int (p3.toInt8.toInt32)), .val (.ref b5), .val (.int (1 : Int32)), .val (.int (p1.toInt8.toInt32)), .val (.int (((p2.toInt8.toInt32) + (1 : Int32)).toInt8.toInt32)), .val (.int (p3.toInt8.toInt32)), .val (.ref r), .val (.ref b5), .val (.ref ub)] [(.ref b5)])) _
    refine XS.iload X11.here hx rfl (hb hby at_180) rfl ?_
    show Steps p.tables e below (T11.setTop (mkF m 182 #[.val (.int p1), .val (.int p2), .val (.int p3), .val (.int p4), .val (.int (3 : Int32)), .val (.int (p1.toInt8.toInt32)), .val (.int (p2.toInt8.toInt32)), .val (.int (p3.toInt8.toInt32)), .val (.ref b5), .val (.int (1 : Int32)), .val (.int (p1.toInt8.toInt32)), .val (.int (((p2.toInt8.toInt32) + (1 : Int32)).toInt8.toInt32)), .val (.int (p3.toInt8.toInt32)), .val (.ref r), .val (.ref b5), .val (.ref ub)] [(.int (3 : Int32)), (.ref b5)])) _
    refine XS.iload X11.here hx rfl (hb hby at_182) rfl ?_
    show Steps p.tables e below (T11.setTop (mkF m 184 #[.val (.int p1), .val (.int p2), .val (.int p3), .val (.int p4), .val (.int (3 : Int32)), .val (.int (p1.toInt8.toInt32)), .val (.int (p2.toInt8.toInt32)), .val (.int (p3.toInt8.toInt32)), .val (.ref b5), .val (.int (1 : Int32)), .val (.int (p1.toInt8.toInt32)), .val (.int (((p2.toInt8.toInt32) + (1 : Int32)).toInt8.toInt32)), .val (.int (p3.toInt8.toInt32)), .val (.ref r), .val (.ref b5), .val (.ref ub)] [(.int (p1.toInt8.toInt32)), (.int (3 : Int32)), (.ref b5)])) _
    refine XS.iload X11.here hx rfl (hb hby at_184) rfl ?_
    show Steps p.tables e below (T11.setTop (mkF m 186 #[.val (.int p1), .val (.int p2), .val (.int p3), .val (.int p4), .val (.int (3 : Int32)), .val (.int (p1.toInt8.toInt32)), .val (.int (p2.toInt8.toInt32)), .val (.int (p3.toInt8.toInt32)), .val (.ref b5), .val (.int (1 : Int32)), .val (.int (p1.toInt8.toInt32)), .val (.int (((p2.toInt8.toInt32) + (1 : Int32)).toInt8.toInt32)), .val (.int (p3.toInt8.toInt32)), .val (.ref r), .val (.ref b5), .val (.ref ub)] [(.int (p2.toInt8.toInt32)), (.int (p1.toInt8.toInt32)), (.int (3 : Int32)), (.ref b5)])) _
    refine XS.iload X11.here hx rfl (hb hby at_186) rfl ?_
    show Steps p.tables e below (T11.setTop (mkF m 188 #[.val (.int p1), .val (.int p2), .val (.int p3), .val (.int p4), .val (.int (3 : Int32)), .val (.int (p1.toInt8.toInt32)), .val (.int (p2.toInt8.toInt32)), .val (.int (p3.toInt8.toInt32)), .val (.ref b5), .val (.int (1 : Int32)), .val (.int (p1.toInt8.toInt32)), .val (.int (((p2.toInt8.toInt32) + (1 : Int32)).toInt8.toInt32)), .val (.int (p3.toInt8.toInt32)), .val (.ref r), .val (.ref b5), .val (.ref ub)] [(.int (p3.toInt8.toInt32)), (.int (p2.toInt8.toInt32)), (.int (p1.toInt8.toInt32)), (.int (3 : Int32)), (.ref b5)])) _
    refine st12 _ ?_
    show Steps p.tables e below (T12.setTop (mkF m 191 #[.val (.int p1), .val (.int p2), .val (.int p3), .val (.int p4), .val (.int (3 : Int32)), .val (.int (p1.toInt8.toInt32)), .val (.int (p2.toInt8.toInt32)), .val (.int (p3.toInt8.toInt32)), .val (.ref b5), .val (.int (1 : Int32)), .val (.int (p1.toInt8.toInt32)), .val (.int (((p2.toInt8.toInt32) + (1 : Int32)).toInt8.toInt32)), .val (.int (p3.toInt8.toInt32)), .val (.ref r), .val (.ref b5), .val (.ref ub)] [(.int (1 : Int32))])) _
    refine XS.ifNo X12.here hx rfl (hb hby at_191) rfl ((if0 _ _).trans (feq (by decide : ¬ ((1 : Int32) = (0 : Int32)))).1) ?_
    show Steps p.tables e below (T12.setTop (mkF m 194 #[.val (.int p1), .val (.int p2), .val (.int p3), .val (.int p4), .val (.int (3 : Int32)), .val (.int (p1.toInt8.toInt32)), .val (.int (p2.toInt8.toInt32)), .val (.int (p3.toInt8.toInt32)), .val (.ref b5), .val (.int (1 : Int32)), .val (.int (p1.toInt8.toInt32)), .val (.int (((p2.toInt8.toInt32) + (1 : Int32)).toInt8.toInt32)), .val (.int (p3.toInt8.toInt32)), .val (.ref r), .val (.ref b5), .val (.ref ub)] [])) _
    refine XS.aload X12.here hx rfl (hb hby at_194) rfl rfl ?_
    show Steps p.tables e below (T12.setTop (mkF m 196 #[.val (.int p1), .val (.int p2), .val (.int p3), .val (.int p4), .val (.int (3 : Int32)), .val (.int (p1.toInt8.toInt32)), .val (.int (p2.toInt8.toInt32)), .val (.int (p3.toInt8.toInt32)), .val (.ref b5), .val (.int (1 : Int32)), .val (.int (p1.toInt8.toInt32)), .val (.int (((p2.toInt8.toInt32) + (1 : Int32)).toInt8.toInt32)), .val (.int (p3.toInt8.toInt32)), .val (.ref r), .val (.ref b5), .val (.ref ub)] [(.ref b5)])) _
    refine XS.iload X12.here hx rfl (hb hby at_196) rfl ?_
    show Steps p.tables e below (T12.setTop (mkF m 198 #[.val (.int p1), .val (.int p2), .val (.int p3), .val (.int p4), .val (.int (3 : Int32)), .val (.int (p1.toInt8.toInt32)), .val (.int (p2.toInt8.toInt32)), .val (.int (p3.toInt8.toInt32)), .val (.ref b5), .val (.int (1 : Int32)), .val (.int (p1.toInt8.toInt32)), .val (.int (((p2.toInt8.toInt32) + (1 : Int32)).toInt8.toInt32)), .val (.int (p3.toInt8.toInt32)), .val (.ref r), .val (.ref b5), .val (.ref ub)] [(.int (3 : Int32)), (.ref b5)])) _
    refine XS.iload X12.here hx rfl (hb hby at_198) rfl ?_
    show Steps p.tables e below (T12.setTop (mkF m 200 #[.val (.int p1), .val (.int p2), .val (.int p3), .val (.int p4), .val (.int (3 : Int32)), .val (.int (p1.toInt8.toInt32)), .val (.int (p2.toInt8.toInt32)), .val (.int (p3.toInt8.toInt32)), .val (.ref b5), .val (.int (1 : Int32)), .val (.int (p1.toInt8.toInt32)), .val (.int (((p2.toInt8.toInt32) + (1 : Int32)).toInt8.toInt32)), .val (.int (p3.toInt8.toInt32)), .val (.ref r), .val (.ref b5), .val (.ref ub)] [(.int (p1.toInt8.toInt32)), (.int (3 : Int32)), (.ref b5)])) _
    refine XS.iload X12.here hx rfl (hb hby at_200) rfl ?_
    show Steps p.tables e below (T12.setTop (mkF m 202 #[.val (.int p1), .val (.int p2), .val (.int p3), .val (.int p4), .val (.int (3 : Int32)), .val (.int (p1.toInt8.toInt32)), .val (.int (p2.toInt8.toInt32)), .val (.int (p3.toInt8.toInt32)), .val (.ref b5), .val (.int (1 : Int32)), .val (.int (p1.toInt8.toInt32)), .val (.int (((p2.toInt8.toInt32) + (1 : Int32)).toInt8.toInt32)), .val (.int (p3.toInt8.toInt32)), .val (.ref r), .val (.ref b5), .val (.ref ub)] [(.int (p2.toInt8.toInt32)), (.int (p1.toInt8.toInt32)), (.int (3 : Int32)), (.ref b5)])) _
    refine XS.iload X12.here hx rfl (hb hby at_202) rfl ?_
    show Steps p.tables e below (T12.setTop (mkF m 204 #[.val (.int p1), .val (.int p2), .val (.int p3), .val (.int p4), .val (.int (3 : Int32)), .val (.int (p1.toInt8.toInt32)), .val (.int (p2.toInt8.toInt32)), .val (.int (p3.toInt8.toInt32)), .val (.ref b5), .val (.int (1 : Int32)), .val (.int (p1.toInt8.toInt32)), .val (.int (((p2.toInt8.toInt32) + (1 : Int32)).toInt8.toInt32)), .val (.int (p3.toInt8.toInt32)), .val (.ref r), .val (.ref b5), .val (.ref ub)] [(.int (p3.toInt8.toInt32)), (.int (p2.toInt8.toInt32)), (.int (p1.toInt8.toInt32)), (.int (3 : Int32)), (.ref b5)])) _
    refine st13 _ ?_
    show Steps p.tables e below (T13.setTop (mkF m 207 #[.val (.int p1), .val (.int p2), .val (.int p3), .val (.int p4), .val (.int (3 : Int32)), .val (.int (p1.toInt8.toInt32)), .val (.int (p2.toInt8.toInt32)), .val (.int (p3.toInt8.toInt32)), .val (.ref b5), .val (.int (1 : Int32)), .val (.int (p1.toInt8.toInt32)), .val (.int (((p2.toInt8.toInt32) + (1 : Int32)).toInt8.toInt32)), .val (.int (p3.toInt8.toInt32)), .val (.ref r), .val (.ref b5), .val (.ref ub)] [(.int (1 : Int32))])) _
    refine XS.ifNo X13.here hx rfl (hb hby at_207) rfl ((if0 _ _).trans (feq (by decide : ¬ ((1 : Int32) = (0 : Int32)))).1) ?_
    show Steps p.tables e below (T13.setTop (mkF m 210 #[.val (.int p1), .val (.int p2), .val (.int p3), .val (.int p4), .val (.int (3 : Int32)), .val (.int (p1.toInt8.toInt32)), .val (.int (p2.toInt8.toInt32)), .val (.int (p3.toInt8.toInt32)), .val (.ref b5), .val (.int (1 : Int32)), .val (.int (p1.toInt8.toInt32)), .val (.int (((p2.toInt8.toInt32) + (1 : Int32)).toInt8.toInt32)), .val (.int (p3.toInt8.toInt32)), .val (.ref r), .val (.ref b5), .val (.ref ub)] [])) _
    refine XS.aload X13.here hx rfl (hb hby at_210) rfl rfl ?_
    show Steps p.tables e below (T13.setTop (mkF m 212 #[.val (.int p1), .val (.int p2), .val (.int p3), .val (.int p4), .val (.int (3 : Int32)), .val (.int (p1.toInt8.toInt32)), .val (.int (p2.toInt8.toInt32)), .val (.int (p3.toInt8.toInt32)), .val (.ref b5), .val (.int (1 : Int32)), .val (.int (p1.toInt8.toInt32)), .val (.int (((p2.toInt8.toInt32) + (1 : Int32)).toInt8.toInt32)), .val (.int (p3.toInt8.toInt32)), .val (.ref r), .val (.ref b5), .val (.ref ub)] [(.ref ub)])) _
    refine XS.iload X13.here hx rfl (hb hby at_212) rfl ?_
    show Steps p.tables e below (T13.setTop (mkF m 214 #[.val (.int p1), .val (.int p2), .val (.int p3), .val (.int p4), .val (.int (3 : Int32)), .val (.int (p1.toInt8.toInt32)), .val (.int (p2.toInt8.toInt32)), .val (.int (p3.toInt8.toInt32)), .val (.ref b5), .val (.int (1 : Int32)), .val (.int (p1.toInt8.toInt32)), .val (.int (((p2.toInt8.toInt32) + (1 : Int32)).toInt8.toInt32)), .val (.int (p3.toInt8.toInt32)), .val (.ref r), .val (.ref b5), .val (.ref ub)] [(.int (1 : Int32)), (.ref ub)])) _
    refine XS.iconst X13.here hx rfl (hb hby at_214) ?_
    show Steps p.tables e below (T13.setTop (mkF m 215 #[.val (.int p1), .val (.int p2), .val (.int p3), .val (.int p4), .val (.int (3 : Int32)), .val (.int (p1.toInt8.toInt32)), .val (.int (p2.toInt8.toInt32)), .val (.int (p3.toInt8.toInt32)), .val (.ref b5), .val (.int (1 : Int32)), .val (.int (p1.toInt8.toInt32)), .val (.int (((p2.toInt8.toInt32) + (1 : Int32)).toInt8.toInt32)), .val (.int (p3.toInt8.toInt32)), .val (.ref r), .val (.ref b5), .val (.ref ub)] [(.int (1 : Int32)), (.int (1 : Int32)), (.ref ub)])) _
    refine XS.iadd X13.here hx rfl (hb hby at_215) rfl ?_
    show Steps p.tables e below (T13.setTop (mkF m 216 #[.val (.int p1), .val (.int p2), .val (.int p3), .val (.int p4), .val (.int (3 : Int32)), .val (.int (p1.toInt8.toInt32)), .val (.int (p2.toInt8.toInt32)), .val (.int (p3.toInt8.toInt32)), .val (.ref b5), .val (.int (1 : Int32)), .val (.int (p1.toInt8.toInt32)), .val (.int (((p2.toInt8.toInt32) + (1 : Int32)).toInt8.toInt32)), .val (.int (p3.toInt8.toInt32)), .val (.ref r), .val (.ref b5), .val (.ref ub)] [(.int ((1 : Int32) + (1 : Int32))), (.ref ub)])) _
    refine XS.iload X13.here hx rfl (hb hby at_216) rfl ?_
    show Steps p.tables e below (T13.setTop (mkF m 218 #[.val (.int p1), .val (.int p2), .val (.int p3), .val (.int p4), .val (.int (3 : Int32)), .val (.int (p1.toInt8.toInt32)), .val (.int (p2.toInt8.toInt32)), .val (.int (p3.toInt8.toInt32)), .val (.ref b5), .val (.int (1 : Int32)), .val (.int (p1.toInt8.toInt32)), .val (.int (((p2.toInt8.toInt32) + (1 : Int32)).toInt8.toInt32)), .val (.int (p3.toInt8.toInt32)), .val (.ref r), .val (.ref b5), .val (.ref ub)] [(.int (p1.toInt8.toInt32)), (.int ((1 : Int32) + (1 : Int32))), (.ref ub)])) _
    refine XS.iload X13.here hx rfl (hb hby at_218) rfl ?_
    show Steps p.tables e below (T13.setTop (mkF m 220 #[.val (.int p1), .val (.int p2), .val (.int p3), .val (.int p4), .val (.int (3 : Int32)), .val (.int (p1.toInt8.toInt32)), .val (.int (p2.toInt8.toInt32)), .val (.int (p3.toInt8.toInt32)), .val (.ref b5), .val (.int (1 : Int32)), .val (.int (p1.toInt8.toInt32)), .val (.int (((p2.toInt8.toInt32) + (1 : Int32)).toInt8.toInt32)), .val (.int (p3.toInt8.toInt32)), .val (.ref r), .val (.ref b5), .val (.ref ub)] [(.int (((p2.toInt8.toInt32) + (1 : Int32)).toInt8.toInt32)), (.int (p1.toInt8.toInt32)), (.int ((1 : Int32) + (1 : Int32))), (.ref ub)])) _
    refine XS.iload X13.here hx rfl (hb hby at_220) rfl ?_
    show Steps p.tables e below (T13.setTop (mkF m 222 #[.val (.int p1), .val (.int p2), .val (.int p3), .val (.int p4), .val (.int (3 : Int32)), .val (.int (p1.toInt8.toInt32)), .val (.int (p2.toInt8.toInt32)), .val (.int (p3.toInt8.toInt32)), .val (.ref b5), .val (.int (1 : Int32)), .val (.int (p1.toInt8.toInt32)), .val (.int (((p2.toInt8.toInt32) + (1 : Int32)).toInt8.toInt32)), .val (.int (p3.toInt8.toInt32)), .val (.ref r), .val (.ref b5), .val (.ref ub)] [(.int (p3.toInt8.toInt32)), (.int (((p2.toInt8.toInt32) + (1 : Int32)).toInt8.toInt32)), (.int (p1.toInt8.toInt32)), (.int ((1 : Int32) + (1 : Int32))), (.ref ub)])) _
    refine st14 _ ?_
    show Steps p.tables e below (T14.setTop (mkF m 225 #[.val (.int p1), .val (.int p2), .val (.int p3), .val (.int p4), .val (.int (3 : Int32)), .val (.int (p1.toInt8.toInt32)), .val (.int (p2.toInt8.toInt32)), .val (.int (p3.toInt8.toInt32)), .val (.ref b5), .val (.int (1 : Int32)), .val (.int (p1.toInt8.toInt32)), .val (.int (((p2.toInt8.toInt32) + (1 : Int32)).toInt8.toInt32)), .val (.int (p3.toInt8.toInt32)), .val (.ref r), .val (.ref b5), .val (.ref ub)] [(.int (1 : Int32))])) _
    refine XS.ifNo X14.here hx rfl (hb hby at_225) rfl ((if0 _ _).trans (feq (by decide : ¬ ((1 : Int32) = (0 : Int32)))).1) ?_
    show Steps p.tables e below (T14.setTop (mkF m 228 #[.val (.int p1), .val (.int p2), .val (.int p3), .val (.int p4), .val (.int (3 : Int32)), .val (.int (p1.toInt8.toInt32)), .val (.int (p2.toInt8.toInt32)), .val (.int (p3.toInt8.toInt32)), .val (.ref b5), .val (.int (1 : Int32)), .val (.int (p1.toInt8.toInt32)), .val (.int (((p2.toInt8.toInt32) + (1 : Int32)).toInt8.toInt32)), .val (.int (p3.toInt8.toInt32)), .val (.ref r), .val (.ref b5), .val (.ref ub)] [])) _
    refine XS.iconst X14.here hx rfl (hb hby at_228) ?_
    show Steps p.tables e below (T14.setTop (mkF m 229 #[.val (.int p1), .val (.int p2), .val (.int p3), .val (.int p4), .val (.int (3 : Int32)), .val (.int (p1.toInt8.toInt32)), .val (.int (p2.toInt8.toInt32)), .val (.int (p3.toInt8.toInt32)), .val (.ref b5), .val (.int (1 : Int32)), .val (.int (p1.toInt8.toInt32)), .val (.int (((p2.toInt8.toInt32) + (1 : Int32)).toInt8.toInt32)), .val (.int (p3.toInt8.toInt32)), .val (.ref r), .val (.ref b5), .val (.ref ub)] [(.int (1 : Int32))])) _
    refine XS.goto X14.here hx rfl (pc0 := 229) (pc' := 233) rfl (hb hby at_229) (by decide) (by decide) ?_
    show Steps p.tables e below (T14.setTop (mkF m 233 #[.val (.int p1), .val (.int p2), .val (.int p3), .val (.int p4), .val (.int (3 : Int32)), .val (.int (p1.toInt8.toInt32)), .val (.int (p2.toInt8.toInt32)), .val (.int (p3.toInt8.toInt32)), .val (.ref b5), .val (.int (1 : Int32)), .val (.int (p1.toInt8.toInt32)), .val (.int (((p2.toInt8.toInt32) + (1 : Int32)).toInt8.toInt32)), .val (.int (p3.toInt8.toInt32)), .val (.ref r), .val (.ref b5), .val (.ref ub)] [(.int (1 : Int32))])) _
    exact retN X14 hx (t := .boolean) Bd.returns (by simp) (hb hby at_233) hr
  · show Q0 h0 n0 _ T14.heap _
    exact ⟨rfl, N14⟩

set_option maxRecDepth 65536 in
set_option maxHeartbeats 40000000 in
theorem rm0_30 (l : Launch) (Z : State) (a0 : Array Value) (hw : ∀ d ∈ tables_1, d.before a0 Z = true) (ws : List Jvm.Cond) (p1 : Int32) (p2 : Int32) (p3 : Int32) (p4 : Int32) (h0 : Heap) (n0 : Nat) (Z0 : n0 ≤ h0.size) (hlen : ((1 : Int32) + ((p4 &&& (3 : Int32)) % (3 : Int32))) = (3 : Int32)) (m2 : (p3.toInt8.toInt32) = (-1 : Int32)) (m1 : (p2.toInt8.toInt32) = (-1 : Int32)) (nk0 : ¬ ((p1.toInt8.toInt32) = (-1 : Int32))) :
    MetFree l x (head1 (Jvm.Cond.code x code maxLocals ret :: ws) room_1) (fun a U => a = #[(.int p1), (.int p2), (.int p3), (.int p4)] ∧ Z.Warmed39 U.vm ∧ U.heap = h0) (fun _ _ _ _ _ => True) (fun _ U o U' => ∃ v L, o = .returned v ∧ Q0 h0 n0 v U'.heap L ∧ FrameEnd U o U' L room_1.cells room_1.slots) := by
  refine MetFree.of_bodySF (plainFor_of_name pn_0) hisR ?_
  intro p e s m args below meth c s₁ Bd hml0 hP hK
  obtain ⟨rfl, hZ, hh⟩ := hP
  have hx := Bd.exec
  have hby := Bd.bytes
  have hml : c.maxLocals = 16 := hml0
  have hown : s.vm.findClass "com/example/coord2/coord2/KeyRangePrefixPinLaw" = some m.cls := findClass_of_methodNamed Bd.named
  have hnm := (name_of_methodNamed Bd.named Bd.method).1
  have X0 : Stand p l e room_1 s m #[(.int p1), (.int p2), (.int p3), (.int p4)] below meth c s₁ [] 0 0 := Stand.of_body Bd
  have e0 : s₁.heap = h0 := by rw [← hh, Bd.state]; rfl
  have N0 := Fr.nil n0
  have pre0 : ∀ t, Steps p.tables e below (s₁.setTop (mkF m 0 #[.val (.int p1), .val (.int p2), .val (.int p3), .val (.int p4), .unset, .unset, .unset, .unset, .unset, .unset, .unset, .unset, .unset, .unset, .unset, .unset] [])) t → Steps p.tables e below (s₁.setTop (entryFrame m #[(.int p1), (.int p2), (.int p3), (.int p4)] maxLocals)) t := fun t k => castTop (ef_0 m p1 p2 p3 p4) k
  obtain ⟨T5, h5, k5, X5, e5, E5, A5, EA5, st5⟩ := newPE X0 hx hZ (hw _ (List.mem_of_getElem? (i := 0) rfl)) e0 (g := (mkF m 23 #[.val (.int p1), .val (.int p2), .val (.int p3), .val (.int p4), .val (.int (3 : Int32)), .val (.int (p1.toInt8.toInt32)), .val (.int (p2.toInt8.toInt32)), .val (.int (p3.toInt8.toInt32)), .unset, .unset, .unset, .unset, .unset, .unset, .unset, .unset] [(.int (3 : Int32))])) rfl (hb hby at_23) rfl (by decide) (cap := 3) (by decide) (by decide) (by decide) (by decide) (ad := "[B") rfl
  obtain ⟨b5, g5⟩ : ∃ z, z = h0.size := ⟨_, rfl⟩
  rw [← g5] at A5 EA5 st5
  have V_b5 : Arv Z h5 b5 k5 .byte (3 : Int32) [(.int (0 : Int32)), (.int (0 : Int32)), (.int (0 : Int32))] (.int (0 : Int32)) := (Arv.new A5 (by decide)).pad (pad_rep [] (.int (0 : Int32)) 3)
  have g_b5 : n0 ≤ b5 := Nat.le_trans Z0 (Nat.le_of_eq g5.symm)
  have sz_b5 : h0.size ≤ b5 := (Nat.le_trans (Keep.refl h0 []).1 (Nat.le_of_eq g5.symm))
  have K5 : Keep h0 h5 [] := (Keep.refl h0 []).ext E5
  obtain ⟨cl_b5_32, Ar_b5, q_b5, S_b5, N_b5, H_b5, G_b5⟩ := V_b5
  have hin32 : ¬ ((0 : Int32) < 0 ∨ cl_b5_32.slots.size ≤ ((0 : Int32)).toNatClampNeg) := inb_of S_b5 ⟨by decide, by decide⟩
  obtain ⟨T6, h6, X6, e6, W6, st6⟩ := stB X5 hx hZ e5 Ar_b5 (j := (0 : Int32)) hin32 (g := (mkF m 32 #[.val (.int p1), .val (.int p2), .val (.int p3), .val (.int p4), .val (.int (3 : Int32)), .val (.int (p1.toInt8.toInt32)), .val (.int (p2.toInt8.toInt32)), .val (.int (p3.toInt8.toInt32)), .val (.ref b5), .unset, .unset, .unset, .unset, .unset, .unset, .unset] [(.int (p1.toInt8.toInt32)), (.int (0 : Int32)), (.ref b5)])) rfl rfl (hb hby at_32)
  have V_b5_6 := Arv.set Ar_b5 q_b5 S_b5 N_b5 H_b5 G_b5 (fits_nar_byte _) W6 0 rfl (Nat.le_of_ble_eq_true rfl)
  have K6 : Keep h0 h6 [] := K5.wr W6 (Or.inr sz_b5)
  have N6 := Fr.snoc X6 N0 g_b5
  obtain ⟨cl_b5_44, Ar_b5, q_b5, S_b5, N_b5, H_b5, G_b5⟩ := V_b5_6
  have hin44 : ¬ ((1 : Int32) < 0 ∨ cl_b5_44.slots.size ≤ ((1 : Int32)).toNatClampNeg) := inb_of S_b5 ⟨by decide, by decide⟩
  obtain ⟨T7, h7, X7, e7, W7, st7⟩ := stB X6 hx hZ e6 Ar_b5 (j := (1 : Int32)) hin44 (g := (mkF m 44 #[.val (.int p1), .val (.int p2), .val (.int p3), .val (.int p4), .val (.int (3 : Int32)), .val (.int (p1.toInt8.toInt32)), .val (.int (p2.toInt8.toInt32)), .val (.int (p3.toInt8.toInt32)), .val (.ref b5), .unset, .unset, .unset, .unset, .unset, .unset, .unset] [(.int (p2.toInt8.toInt32)), (.int (1 : Int32)), (.ref b5)])) rfl rfl (hb hby at_44)
  have V_b5_7 := Arv.set Ar_b5 q_b5 S_b5 N_b5 H_b5 G_b5 (fits_nar_byte _) W7 1 rfl (Nat.le_of_ble_eq_true rfl)
  have K7 : Keep h0 h7 [] := K6.wr W7 (Or.inr sz_b5)
  have N7 := Fr.snoc X7 N6 g_b5
  obtain ⟨cl_b5_56, Ar_b5, q_b5, S_b5, N_b5, H_b5, G_b5⟩ := V_b5_7
  have hin56 : ¬ ((2 : Int32) < 0 ∨ cl_b5_56.slots.size ≤ ((2 : Int32)).toNatClampNeg) := inb_of S_b5 ⟨by decide, by decide⟩
  obtain ⟨T8, h8, X8, e8, W8, st8⟩ := stB X7 hx hZ e7 Ar_b5 (j := (2 : Int32)) hin56 (g := (mkF m 56 #[.val (.int p1), .val (.int p2), .val (.int p3), .val (.int p4), .val (.int (3 : Int32)), .val (.int (p1.toInt8.toInt32)), .val (.int (p2.toInt8.toInt32)), .val (.int (p3.toInt8.toInt32)), .val (.ref b5), .unset, .unset, .unset, .unset, .unset, .unset, .unset] [(.int (p3.toInt8.toInt32)), (.int (2 : Int32)), (.ref b5)])) rfl rfl (hb hby at_56)
  have V_b5_8 := Arv.set Ar_b5 q_b5 S_b5 N_b5 H_b5 G_b5 (fits_nar_byte _) W8 2 rfl (Nat.le_of_ble_eq_true rfl)
  have K8 : Keep h0 h8 [] := K7.wr W8 (Or.inr sz_b5)
  have N8 := Fr.snoc X8 N7 g_b5
  obtain ⟨cl, ArP, -, SP, -, HP, GP⟩ := V_b5_8
  have TyP : ∀ (i : Nat) (v : Value), cl.slots[i]? = some v → fits .byte v = true := fun i v hv => by
    obtain ⟨hi, -⟩ := Array.getElem?_eq_some_iff.mp hv
    rw [HP i hi] at hv; cases hv; exact GP i hi
  have c0 : cl.slots[0]? = some (.int (p1.toInt8.toInt32)) := (HP 0 (by rw [SP]; decide)).trans (congrArg (fun q => some (Value.int q)) (own_nar _))
  have c1 : cl.slots[1]? = some (.int (p2.toInt8.toInt32)) := (HP 1 (by rw [SP]; decide)).trans (congrArg (fun q => some (Value.int q)) (own_nar _))
  have c2 : cl.slots[2]? = some (.int (p3.toInt8.toInt32)) := (HP 2 (by rw [SP]; decide)).trans (congrArg (fun q => some (Value.int q)) (own_nar _))
  have hlat : ∀ j : Nat, 0 < j → j < cl.slots.size → cl.slots[j]? = some (.int (-1 : Int32)) := fun j h1 h2 => by
      rw [SP] at h2
      have h2 : j < 3 := h2
      rcases (by omega : j = 1 ∨ j = 2) with rfl | rfl
      · rw [← m1]; exact c1
      · rw [← m2]; exact c2
  have ExP : Exa Z h8 b5 "[B" := (((EA5.wr W6).wr W7).wr W8)
  obtain ⟨r, gr⟩ : ∃ q, q = h8.size := ⟨_, rfl⟩
  obtain ⟨_, _, ⟨T9, L9, k9, n9⟩, -, X9, ⟨Lc9, hQ9, l9, y9, z9⟩, st9⟩ := Jvm.LawKit.callS X8 hx (y := (⟨"com/example/coord2/coord2/KeyRange", "prefix", "([B)Lcom/example/coord2/coord2/KeyRange;"⟩ : MethodName)) hown (mvT hZ (hw _ (List.mem_of_getElem? (i := 1) rfl))) (mvT hZ (hw _ (List.mem_of_getElem? (i := 2) rfl))) (mvT hZ (hw _ (List.mem_of_getElem? (i := 3) rfl))) (mvT hZ (hw _ (List.mem_of_getElem? (i := 4) rfl))) (by decide) (backOf (W := 0) (rm1 l Z a0 hw [] b5 cl (3 : Int32) 0 (p1.toInt8.toInt32) r h8 n0 (Nat.le_trans Z0 K8.1) gr ArP ExP SP TyP (Or.inr (Or.inr (Or.inr (Or.inr (Or.inr ⟨rfl, rfl⟩))))) c0 nk0 hlat) hZ (hw _ (List.mem_of_getElem? (i := 4) rfl)) (hw _ (List.mem_of_getElem? (i := 3) rfl)) (by decide) (by decide)) (g := (mkF m 159 #[.val (.int p1), .val (.int p2), .val (.int p3), .val (.int p4), .val (.int (3 : Int32)), .val (.int (p1.toInt8.toInt32)), .val (.int (p2.toInt8.toInt32)), .val (.int (p3.toInt8.toInt32)), .val (.ref b5), .val (.int (0 : Int32)), .val (.int (((p1.toInt8.toInt32) + (1 : Int32)).toInt8.toInt32)), .val (.int (p2.toInt8.toInt32)), .val (.int (p3.toInt8.toInt32)), .unset, .unset, .unset] [(.ref b5)])) rfl (by rw [hml]; rfl) (argsL := [(.ref b5)]) (rest := []) (lenOf pd_0_0 rfl) rfl (by show 2 * 0 + _ ≤ _; exact Nat.le_of_eq rfl) (hb hby at_159) (fun _ _ => ⟨rfl, e8, (Nat.le_of_ble_eq_true rfl), (Nat.le_of_ble_eq_true rfl)⟩)
  dsimp only [Pt.U, Pt.locs, Pt.cells, Pt.slots] at X9 l9 y9 z9 st9 hQ9
  subst l9 y9 z9
  obtain ⟨rfl, N9q, KC, EX, FL, ub, B, FU, ArU, SU, HU, UK⟩ := hQ9
  have ArP' : Arr Z T9.heap b5 cl .byte := own_arr ArP KC List.not_mem_nil
  have ZT : n0 ≤ T9.heap.size := Nat.le_trans (Nat.le_trans Z0 K8.1) KC.1
  have eq9 : T9.heap = T9.heap := rfl
  have N9 := Fr.app N8 N9q
  obtain ⟨cq10, kq10, q10a, q10b, q10c⟩ := isOf hZ rfl (by rw [eq9]; exact EX : Exa Z T9.heap r "com/example/coord2/coord2/KeyRange")
  obtain ⟨_, _, ⟨T10, L10, k10, n10⟩, -, X10, ⟨Lc10, hQ10, l10, y10, z10⟩, st10⟩ := X9.virtualBack hx (y := (⟨"com/example/coord2/coord2/KeyRange", "lower", "()[B"⟩ : MethodName)) (z := (⟨"com/example/coord2/coord2/KeyRange", "lower", "()[B"⟩ : MethodName)) hown (mvT hZ (hw _ (List.mem_of_getElem? (i := 38) rfl))) (mvT hZ (hw _ (List.mem_of_getElem? (i := 39) rfl))) (notFace_of_selects (args := #[]) (mvT hZ (hw _ (List.mem_of_getElem? (i := 41) rfl)))) (mvT hZ (hw _ (List.mem_of_getElem? (i := 41) rfl))) (mvT hZ (hw _ (List.mem_of_getElem? (i := 40) rfl))) (by decide) (backOf (W := 0) (rm7 l Z a0 hw [] r b5 T9.heap n0 ZT FL) hZ (hw _ (List.mem_of_getElem? (i := 42) rfl)) (hw _ (List.mem_of_getElem? (i := 3) rfl)) (by decide) (by decide)) q10a q10c (g := (mkF m 166 #[.val (.int p1), .val (.int p2), .val (.int p3), .val (.int p4), .val (.int (3 : Int32)), .val (.int (p1.toInt8.toInt32)), .val (.int (p2.toInt8.toInt32)), .val (.int (p3.toInt8.toInt32)), .val (.ref b5), .val (.int (0 : Int32)), .val (.int (((p1.toInt8.toInt32) + (1 : Int32)).toInt8.toInt32)), .val (.int (p2.toInt8.toInt32)), .val (.int (p3.toInt8.toInt32)), .val (.ref r), .unset, .unset] [(.ref r)])) rfl (by rw [hml]; rfl) (Steps.refl _) (argsL := []) (rest := []) (lenOf pd_0_6 rfl) rfl (by show 2 * 0 + _ ≤ _; exact Nat.le_of_eq rfl) (hb hby at_166) (fun _ _ => ⟨rfl, rfl, (Nat.le_of_ble_eq_true rfl), (Nat.le_of_ble_eq_true rfl)⟩)
  dsimp only [Pt.U, Pt.locs, Pt.cells, Pt.slots] at X10 l10 y10 z10 st10 hQ10
  subst l10 y10 z10
  obtain ⟨rfl, N10q, hq10⟩ := hQ10
  have eq10 : T10.heap = T9.heap := hq10.trans eq9
  have N10 := Fr.app N9 N10q
  obtain ⟨cq11, kq11, q11a, q11b, q11c⟩ := isOf hZ rfl (by rw [eq10]; exact EX : Exa Z T10.heap r "com/example/coord2/coord2/KeyRange")
  obtain ⟨_, _, ⟨T11, L11, k11, n11⟩, -, X11, ⟨Lc11, hQ11, l11, y11, z11⟩, st11⟩ := X10.virtualBack hx (y := (⟨"com/example/coord2/coord2/KeyRange", "upper", "()[B"⟩ : MethodName)) (z := (⟨"com/example/coord2/coord2/KeyRange", "upper", "()[B"⟩ : MethodName)) hown (mvT hZ (hw _ (List.mem_of_getElem? (i := 43) rfl))) (mvT hZ (hw _ (List.mem_of_getElem? (i := 44) rfl))) (notFace_of_selects (args := #[]) (mvT hZ (hw _ (List.mem_of_getElem? (i := 46) rfl)))) (mvT hZ (hw _ (List.mem_of_getElem? (i := 46) rfl))) (mvT hZ (hw _ (List.mem_of_getElem? (i := 45) rfl))) (by decide) (backOf (W := 0) (rm8 l Z a0 hw [] r ub T10.heap n0 (by rw [eq10]; exact ZT) (by rw [eq10]; exact FU)) hZ (hw _ (List.mem_of_getElem? (i := 47) rfl)) (hw _ (List.mem_of_getElem? (i := 3) rfl)) (by decide) (by decide)) q11a q11c (g := (mkF m 173 #[.val (.int p1), .val (.int p2), .val (.int p3), .val (.int p4), .val (.int (3 : Int32)), .val (.int (p1.toInt8.toInt32)), .val (.int (p2.toInt8.toInt32)), .val (.int (p3.toInt8.toInt32)), .val (.ref b5), .val (.int (0 : Int32)), .val (.int (((p1.toInt8.toInt32) + (1 : Int32)).toInt8.toInt32)), .val (.int (p2.toInt8.toInt32)), .val (.int (p3.toInt8.toInt32)), .val (.ref r), .val (.ref b5), .unset] [(.ref r)])) rfl (by rw [hml]; rfl) (Steps.refl _) (argsL := []) (rest := []) (lenOf pd_0_6 rfl) rfl (by show 2 * 0 + _ ≤ _; exact Nat.le_of_eq rfl) (hb hby at_173) (fun _ _ => ⟨rfl, rfl, (Nat.le_of_ble_eq_true rfl), (Nat.le_of_ble_eq_true rfl)⟩)
  dsimp only [Pt.U, Pt.locs, Pt.cells, Pt.slots] at X11 l11 y11 z11 st11 hQ11
  subst l11 y11 z11
  obtain ⟨rfl, N11q, hq11⟩ := hQ11
  have eq11 : T11.heap = T9.heap := hq11.trans eq10
  have N11 := Fr.app N10 N11q
  obtain ⟨_, _, ⟨T12, L12, k12, n12⟩, -, X12, ⟨Lc12, hQ12, l12, y12, z12⟩, st12⟩ := Jvm.LawKit.callS X11 hx (y := (⟨"com/example/coord2/coord2/KeyRangePrefixPinLaw", "same", "([BIBBB)Z"⟩ : MethodName)) hown (mvT hZ (hw _ (List.mem_of_getElem? (i := 48) rfl))) (mvT hZ (hw _ (List.mem_of_getElem? (i := 49) rfl))) (mvT hZ (hw _ (List.mem_of_getElem? (i := 50) rfl))) (mvT hZ (hw _ (List.mem_of_getElem? (i := 51) rfl))) (by decide) (backOf (W := 0) (rm9 l Z a0 hw [] b5 (3 : Int32) (p1.toInt8.toInt32) (p2.toInt8.toInt32) (p3.toInt8.toInt32) cl T11.heap n0 (by rw [eq11]; exact ZT) (by rw [eq11]; exact ArP') SP (Or.inr (Or.inr rfl)) c0 (Or.inr c1) (Or.inr (Or.inr c2))) hZ (hw _ (List.mem_of_getElem? (i := 51) rfl)) (hw _ (List.mem_of_getElem? (i := 50) rfl)) (by decide) (by decide)) (g := (mkF m 188 #[.val (.int p1), .val (.int p2), .val (.int p3), .val (.int p4), .val (.int (3 : Int32)), .val (.int (p1.toInt8.toInt32)), .val (.int (p2.toInt8.toInt32)), .val (.int (p3.toInt8.toInt32)), .val (.ref b5), .val (.int (0 : Int32)), .val (.int (((p1.toInt8.toInt32) + (1 : Int32)).toInt8.toInt32)), .val (.int (p2.toInt8.toInt32)), .val (.int (p3.toInt8.toInt32)), .val (.ref r), .val (.ref b5), .val (.ref ub)] [(.int (p3.toInt8.toInt32)), (.int (p2.toInt8.toInt32)), (.int (p1.toInt8.toInt32)), (.int (3 : Int32)), (.ref b5)])) rfl (by rw [hml]; rfl) (argsL := [(.ref b5), (.int (3 : Int32)), (.int (p1.toInt8.toInt32)), (.int (p2.toInt8.toInt32)), (.int (p3.toInt8.toInt32))]) (rest := []) (lenOf pd_0_7 rfl) rfl (by show 2 * 0 + _ ≤ _; exact Nat.le_of_eq rfl) (hb hby at_188) (fun _ _ => ⟨rfl, rfl, (Nat.le_of_ble_eq_true rfl), (Nat.le_of_ble_eq_true rfl)⟩)
  dsimp only [Pt.U, Pt.locs, Pt.cells, Pt.slots] at X12 l12 y12 z12 st12 hQ12
  subst l12 y12 z12
  obtain ⟨rfl, N12q, hq12⟩ := hQ12
  have eq12 : T12.heap = T9.heap := hq12.trans eq11
  have N12 := Fr.app N11 N12q
  obtain ⟨_, _, ⟨T13, L13, k13, n13⟩, -, X13, ⟨Lc13, hQ13, l13, y13, z13⟩, st13⟩ := Jvm.LawKit.callS X12 hx (y := (⟨"com/example/coord2/coord2/KeyRangePrefixPinLaw", "same", "([BIBBB)Z"⟩ : MethodName)) hown (mvT hZ (hw _ (List.mem_of_getElem? (i := 48) rfl))) (mvT hZ (hw _ (List.mem_of_getElem? (i := 49) rfl))) (mvT hZ (hw _ (List.mem_of_getElem? (i := 50) rfl))) (mvT hZ (hw _ (List.mem_of_getElem? (i := 51) rfl))) (by decide) (backOf (W := 0) (rm9 l Z a0 hw [] b5 (3 : Int32) (p1.toInt8.toInt32) (p2.toInt8.toInt32) (p3.toInt8.toInt32) cl T12.heap n0 (by rw [eq12]; exact ZT) (by rw [eq12]; exact ArP') SP (Or.inr (Or.inr rfl)) c0 (Or.inr c1) (Or.inr (Or.inr c2))) hZ (hw _ (List.mem_of_getElem? (i := 51) rfl)) (hw _ (List.mem_of_getElem? (i := 50) rfl)) (by decide) (by decide)) (g := (mkF m 204 #[.val (.int p1), .val (.int p2), .val (.int p3), .val (.int p4), .val (.int (3 : Int32)), .val (.int (p1.toInt8.toInt32)), .val (.int (p2.toInt8.toInt32)), .val (.int (p3.toInt8.toInt32)), .val (.ref b5), .val (.int (0 : Int32)), .val (.int (((p1.toInt8.toInt32) + (1 : Int32)).toInt8.toInt32)), .val (.int (p2.toInt8.toInt32)), .val (.int (p3.toInt8.toInt32)), .val (.ref r), .val (.ref b5), .val (.ref ub)] [(.int (p3.toInt8.toInt32)), (.int (p2.toInt8.toInt32)), (.int (p1.toInt8.toInt32)), (.int (3 : Int32)), (.ref b5)])) rfl (by rw [hml]; rfl) (argsL := [(.ref b5), (.int (3 : Int32)), (.int (p1.toInt8.toInt32)), (.int (p2.toInt8.toInt32)), (.int (p3.toInt8.toInt32))]) (rest := []) (lenOf pd_0_7 rfl) rfl (by show 2 * 0 + _ ≤ _; exact Nat.le_of_eq rfl) (hb hby at_204) (fun _ _ => ⟨rfl, rfl, (Nat.le_of_ble_eq_true rfl), (Nat.le_of_ble_eq_true rfl)⟩)
  dsimp only [Pt.U, Pt.locs, Pt.cells, Pt.slots] at X13 l13 y13 z13 st13 hQ13
  subst l13 y13 z13
  obtain ⟨rfl, N13q, hq13⟩ := hQ13
  have eq13 : T13.heap = T9.heap := hq13.trans eq12
  have N13 := Fr.app N12 N13q
  obtain ⟨_, _, ⟨T14, L14, k14, n14⟩, -, X14, ⟨Lc14, hQ14, l14, y14, z14⟩, st14⟩ := Jvm.LawKit.callS X13 hx (y := (⟨"com/example/coord2/coord2/KeyRangePrefixPinLaw", "same", "([BIBBB)Z"⟩ : MethodName)) hown (mvT hZ (hw _ (List.mem_of_getElem? (i := 48) rfl))) (mvT hZ (hw _ (List.mem_of_getElem? (i := 49) rfl))) (mvT hZ (hw _ (List.mem_of_getElem? (i := 50) rfl))) (mvT hZ (hw _ (List.mem_of_getElem? (i := 51) rfl))) (by decide) (backOf (W := 0) (rm9 l Z a0 hw [] ub ((0 : Int32) + (1 : Int32)) (((p1.toInt8.toInt32) + (1 : Int32)).toInt8.toInt32) (p2.toInt8.toInt32) (p3.toInt8.toInt32) B T13.heap n0 (by rw [eq13]; exact ZT) (by rw [eq13]; exact ArU) (by rw [SU]; decide) (Or.inl (by decide)) UK (Or.inl (by decide)) (Or.inl (by decide))) hZ (hw _ (List.mem_of_getElem? (i := 51) rfl)) (hw _ (List.mem_of_getElem? (i := 50) rfl)) (by decide) (by decide)) (g := (mkF m 222 #[.val (.int p1), .val (.int p2), .val (.int p3), .val (.int p4), .val (.int (3 : Int32)), .val (.int (p1.toInt8.toInt32)), .val (.int (p2.toInt8.toInt32)), .val (.int (p3.toInt8.toInt32)), .val (.ref b5), .val (.int (0 : Int32)), .val (.int (((p1.toInt8.toInt32) + (1 : Int32)).toInt8.toInt32)), .val (.int (p2.toInt8.toInt32)), .val (.int (p3.toInt8.toInt32)), .val (.ref r), .val (.ref b5), .val (.ref ub)] [(.int (p3.toInt8.toInt32)), (.int (p2.toInt8.toInt32)), (.int (((p1.toInt8.toInt32) + (1 : Int32)).toInt8.toInt32)), (.int ((0 : Int32) + (1 : Int32))), (.ref ub)])) rfl (by rw [hml]; rfl) (argsL := [(.ref ub), (.int ((0 : Int32) + (1 : Int32))), (.int (((p1.toInt8.toInt32) + (1 : Int32)).toInt8.toInt32)), (.int (p2.toInt8.toInt32)), (.int (p3.toInt8.toInt32))]) (rest := []) (lenOf pd_0_7 rfl) rfl (by show 2 * 0 + _ ≤ _; exact Nat.le_of_eq rfl) (hb hby at_222) (fun _ _ => ⟨rfl, rfl, (Nat.le_of_ble_eq_true rfl), (Nat.le_of_ble_eq_true rfl)⟩)
  dsimp only [Pt.U, Pt.locs, Pt.cells, Pt.slots] at X14 l14 y14 z14 st14 hQ14
  subst l14 y14 z14
  obtain ⟨rfl, N14q, hq14⟩ := hQ14
  have eq14 : T14.heap = T9.heap := hq14.trans eq13
  have N14 := Fr.app N13 N14q
  obtain ⟨fs, hr, hrun, hended, hW, hsame⟩ := X14.leave (v := some (.int (1 : Int32))) (fun h => by rw [Bd.returns] at h; cases h)
  refine ⟨_, _, pre0 _ ?_, hrun, hended, _, _, rfl, ?_, ⟨_, rfl⟩, hW, hsame.mono (by decide) (by decide)⟩
  · show Steps p.tables e below (s₁.setTop (mkF m 0 #[.val (.int p1), .val (.int p2), .val (.int p3), .val (.int p4), .unset, .unset, .unset, .unset, .unset, .unset, .unset, .unset, .unset, .unset, .unset, .unset] [])) _
    refine XS.iconst X0.here hx rfl (hb hby at_0) ?_
    show Steps p.tables e below (s₁.setTop (mkF m 1 #[.val (.int p1), .val (.int p2), .val (.int p3), .val (.int p4), .unset, .unset, .unset, .unset, .unset, .unset, .unset, .unset, .unset, .unset, .unset, .unset] [(.int (1 : Int32))])) _
    refine XS.iloadN X0.here hx rfl (hb hby at_1) rfl ?_
    show Steps p.tables e below (s₁.setTop (mkF m 2 #[.val (.int p1), .val (.int p2), .val (.int p3), .val (.int p4), .unset, .unset, .unset, .unset, .unset, .unset, .unset, .unset, .unset, .unset, .unset, .unset] [(.int p4), (.int (1 : Int32))])) _
    refine XS.iconst X0.here hx rfl (hb hby at_2) ?_
    show Steps p.tables e below (s₁.setTop (mkF m 3 #[.val (.int p1), .val (.int p2), .val (.int p3), .val (.int p4), .unset, .unset, .unset, .unset, .unset, .unset, .unset, .unset, .unset, .unset, .unset, .unset] [(.int (3 : Int32)), (.int p4), (.int (1 : Int32))])) _
    refine XS.iand X0.here hx rfl (hb hby at_3) rfl ?_
    show Steps p.tables e below (s₁.setTop (mkF m 4 #[.val (.int p1), .val (.int p2), .val (.int p3), .val (.int p4), .unset, .unset, .unset, .unset, .unset, .unset, .unset, .unset, .unset, .unset, .unset, .unset] [(.int (p4 &&& (3 : Int32))), (.int (1 : Int32))])) _
    refine XS.iconst X0.here hx rfl (hb hby at_4) ?_
    show Steps p.tables e below (s₁.setTop (mkF m 5 #[.val (.int p1), .val (.int p2), .val (.int p3), .val (.int p4), .unset, .unset, .unset, .unset, .unset, .unset, .unset, .unset, .unset, .unset, .unset, .unset] [(.int (3 : Int32)), (.int (p4 &&& (3 : Int32))), (.int (1 : Int32))])) _
    refine iremM X0 hx rfl (hb hby at_5) rfl (by decide) ?_
    show Steps p.tables e below (s₁.setTop (mkF m 6 #[.val (.int p1), .val (.int p2), .val (.int p3), .val (.int p4), .unset, .unset, .unset, .unset, .unset, .unset, .unset, .unset, .unset, .unset, .unset, .unset] [(.int ((p4 &&& (3 : Int32)) % (3 : Int32))), (.int (1 : Int32))])) _
    refine XS.iadd X0.here hx rfl (hb hby at_6) rfl ?_
    show Steps p.tables e below (s₁.setTop (mkF m 7 #[.val (.int p1), .val (.int p2), .val (.int p3), .val (.int p4), .unset, .unset, .unset, .unset, .unset, .unset, .unset, .unset, .unset, .unset, .unset, .unset] [(.int ((1 : Int32) + ((p4 &&& (3 : Int32)) % (3 : Int32))))])) _
    rw [hlen]
    refine XS.istore X0.here hx rfl (hb hby at_7) rfl (l' := #[.val (.int p1), .val (.int p2), .val (.int p3), .val (.int p4), .val (.int (3 : Int32)), .unset, .unset, .unset, .unset, .unset, .unset, .unset, .unset, .unset, .unset, .unset]) rfl ?_
    show Steps p.tables e below (s₁.setTop (mkF m 9 #[.val (.int p1), .val (.int p2), .val (.int p3), .val (.int p4), .val (.int (3 : Int32)), .unset, .unset, .unset, .unset, .unset, .unset, .unset, .unset, .unset, .unset, .unset] [])) _
    refine XS.iloadN X0.here hx rfl (hb hby at_9) rfl ?_
    show Steps p.tables e below (s₁.setTop (mkF m 10 #[.val (.int p1), .val (.int p2), .val (.int p3), .val (.int p4), .val (.int (3 : Int32)), .unset, .unset, .unset, .unset, .unset, .unset, .unset, .unset, .unset, .unset, .unset] [(.int p1)])) _
    refine XS.i2b X0.here hx rfl (hb hby at_10) rfl ?_
    show Steps p.tables e below (s₁.setTop (mkF m 11 #[.val (.int p1), .val (.int p2), .val (.int p3), .val (.int p4), .val (.int (3 : Int32)), .unset, .unset, .unset, .unset, .unset, .unset, .unset, .unset, .unset, .unset, .unset] [(.int (p1.toInt8.toInt32))])) _
    refine XS.istore X0.here hx rfl (hb hby at_11) rfl (l' := #[.val (.int p1), .val (.int p2), .val (.int p3), .val (.int p4), .val (.int (3 : Int32)), .val (.int (p1.toInt8.toInt32)), .unset, .unset, .unset, .unset, .unset, .unset, .unset, .unset, .unset, .unset]) rfl ?_
    show Steps p.tables e below (s₁.setTop (mkF m 13 #[.val (.int p1), .val (.int p2), .val (.int p3), .val (.int p4), .val (.int (3 : Int32)), .val (.int (p1.toInt8.toInt32)), .unset, .unset, .unset, .unset, .unset, .unset, .unset, .unset, .unset, .unset] [])) _
    refine XS.iloadN X0.here hx rfl (hb hby at_13) rfl ?_
    show Steps p.tables e below (s₁.setTop (mkF m 14 #[.val (.int p1), .val (.int p2), .val (.int p3), .val (.int p4), .val (.int (3 : Int32)), .val (.int (p1.toInt8.toInt32)), .unset, .unset, .unset, .unset, .unset, .unset, .unset, .unset, .unset, .unset] [(.int p2)])) _
    refine XS.i2b X0.here hx rfl (hb hby at_14) rfl ?_
    show Steps p.tables e below (s₁.setTop (mkF m 15 #[.val (.int p1), .val (.int p2), .val (.int p3), .val (.int p4), .val (.int (3 : Int32)), .val (.int (p1.toInt8.toInt32)), .unset, .unset, .unset, .unset, .unset, .unset, .unset, .unset, .unset, .unset] [(.int (p2.toInt8.toInt32))])) _
    refine XS.istore X0.here hx rfl (hb hby at_15) rfl (l' := #[.val (.int p1), .val (.int p2), .val (.int p3), .val (.int p4), .val (.int (3 : Int32)), .val (.int (p1.toInt8.toInt32)), .val (.int (p2.toInt8.toInt32)), .unset, .unset, .unset, .unset, .unset, .unset, .unset, .unset, .unset]) rfl ?_
    show Steps p.tables e below (s₁.setTop (mkF m 17 #[.val (.int p1), .val (.int p2), .val (.int p3), .val (.int p4), .val (.int (3 : Int32)), .val (.int (p1.toInt8.toInt32)), .val (.int (p2.toInt8.toInt32)), .unset, .unset, .unset, .unset, .unset, .unset, .unset, .unset, .unset] [])) _
    refine XS.iloadN X0.here hx rfl (hb hby at_17) rfl ?_
    show Steps p.tables e below (s₁.setTop (mkF m 18 #[.val (.int p1), .val (.int p2), .val (.int p3), .val (.int p4), .val (.int (3 : Int32)), .val (.int (p1.toInt8.toInt32)), .val (.int (p2.toInt8.toInt32)), .unset, .unset, .unset, .unset, .unset, .unset, .unset, .unset, .unset] [(.int p3)])) _
    refine XS.i2b X0.here hx rfl (hb hby at_18) rfl ?_
    show Steps p.tables e below (s₁.setTop (mkF m 19 #[.val (.int p1), .val (.int p2), .val (.int p3), .val (.int p4), .val (.int (3 : Int32)), .val (.int (p1.toInt8.toInt32)), .val (.int (p2.toInt8.toInt32)), .unset, .unset, .unset, .unset, .unset, .unset, .unset, .unset, .unset] [(.int (p3.toInt8.toInt32))])) _
    refine XS.istore X0.here hx rfl (hb hby at_19) rfl (l' := #[.val (.int p1), .val (.int p2), .val (.int p3), .val (.int p4), .val (.int (3 : Int32)), .val (.int (p1.toInt8.toInt32)), .val (.int (p2.toInt8.toInt32)), .val (.int (p3.toInt8.toInt32)), .unset, .unset, .unset, .unset, .unset, .unset, .unset, .unset]) rfl ?_
    show Steps p.tables e below (s₁.setTop (mkF m 21 #[.val (.int p1), .val (.int p2), .val (.int p3), .val (.int p4), .val (.int (3 : Int32)), .val (.int (p1.toInt8.toInt32)), .val (.int (p2.toInt8.toInt32)), .val (.int (p3.toInt8.toInt32)), .unset, .unset, .unset, .unset, .unset, .unset, .unset, .unset] [])) _
    refine XS.iload X0.here hx rfl (hb hby at_21) rfl ?_
    show Steps p.tables e below (s₁.setTop (mkF m 23 #[.val (.int p1), .val (.int p2), .val (.int p3), .val (.int p4), .val (.int (3 : Int32)), .val (.int (p1.toInt8.toInt32)), .val (.int (p2.toInt8.toInt32)), .val (.int (p3.toInt8.toInt32)), .unset, .unset, .unset, .unset, .unset, .unset, .unset, .unset] [(.int (3 : Int32))])) _
    refine st5 _ ?_
    show Steps p.tables e below (T5.setTop (mkF m 25 #[.val (.int p1), .val (.int p2), .val (.int p3), .val (.int p4), .val (.int (3 : Int32)), .val (.int (p1.toInt8.toInt32)), .val (.int (p2.toInt8.toInt32)), .val (.int (p3.toInt8.toInt32)), .unset, .unset, .unset, .unset, .unset, .unset, .unset, .unset] [(.ref b5)])) _
    refine XS.astore X5.here hx rfl (hb hby at_25) rfl rfl (l' := #[.val (.int p1), .val (.int p2), .val (.int p3), .val (.int p4), .val (.int (3 : Int32)), .val (.int (p1.toInt8.toInt32)), .val (.int (p2.toInt8.toInt32)), .val (.int (p3.toInt8.toInt32)), .val (.ref b5), .unset, .unset, .unset, .unset, .unset, .unset, .unset]) rfl ?_
    show Steps p.tables e below (T5.setTop (mkF m 27 #[.val (.int p1), .val (.int p2), .val (.int p3), .val (.int p4), .val (.int (3 : Int32)), .val (.int (p1.toInt8.toInt32)), .val (.int (p2.toInt8.toInt32)), .val (.int (p3.toInt8.toInt32)), .val (.ref b5), .unset, .unset, .unset, .unset, .unset, .unset, .unset] [])) _
    refine XS.aload X5.here hx rfl (hb hby at_27) rfl rfl ?_
    show Steps p.tables e below (T5.setTop (mkF m 29 #[.val (.int p1), .val (.int p2), .val (.int p3), .val (.int p4), .val (.int (3 : Int32)), .val (.int (p1.toInt8.toInt32)), .val (.int (p2.toInt8.toInt32)), .val (.int (p3.toInt8.toInt32)), .val (.ref b5), .unset, .unset, .unset, .unset, .unset, .unset, .unset] [(.ref b5)])) _
    refine XS.iconst X5.here hx rfl (hb hby at_29) ?_
    show Steps p.tables e below (T5.setTop (mkF m 30 #[.val (.int p1), .val (.int p2), .val (.int p3), .val (.int p4), .val (.int (3 : Int32)), .val (.int (p1.toInt8.toInt32)), .val (.int (p2.toInt8.toInt32)), .val (.int (p3.toInt8.toInt32)), .val (.ref b5), .unset, .unset, .unset, .unset, .unset, .unset, .unset] [(.int (0 : Int32)), (.ref b5)])) _
    refine XS.iload X5.here hx rfl (hb hby at_30) rfl ?_
    show Steps p.tables e below (T5.setTop (mkF m 32 #[.val (.int p1), .val (.int p2), .val (.int p3), .val (.int p4), .val (.int (3 : Int32)), .val (.int (p1.toInt8.toInt32)), .val (.int (p2.toInt8.toInt32)), .val (.int (p3.toInt8.toInt32)), .val (.ref b5), .unset, .unset, .unset, .unset, .unset, .unset, .unset] [(.int (p1.toInt8.toInt32)), (.int (0 : Int32)), (.ref b5)])) _
    refine st6 _ ?_
    show Steps p.tables e below (T6.setTop (mkF m 33 #[.val (.int p1), .val (.int p2), .val (.int p3), .val (.int p4), .val (.int (3 : Int32)), .val (.int (p1.toInt8.toInt32)), .val (.int (p2.toInt8.toInt32)), .val (.int (p3.toInt8.toInt32)), .val (.ref b5), .unset, .unset, .unset, .unset, .unset, .unset, .unset] [])) _
    refine XS.iload X6.here hx rfl (hb hby at_33) rfl ?_
    show Steps p.tables e below (T6.setTop (mkF m 35 #[.val (.int p1), .val (.int p2), .val (.int p3), .val (.int p4), .val (.int (3 : Int32)), .val (.int (p1.toInt8.toInt32)), .val (.int (p2.toInt8.toInt32)), .val (.int (p3.toInt8.toInt32)), .val (.ref b5), .unset, .unset, .unset, .unset, .unset, .unset, .unset] [(.int (3 : Int32))])) _
    refine XS.iconst X6.here hx rfl (hb hby at_35) ?_
    show Steps p.tables e below (T6.setTop (mkF m 36 #[.val (.int p1), .val (.int p2), .val (.int p3), .val (.int p4), .val (.int (3 : Int32)), .val (.int (p1.toInt8.toInt32)), .val (.int (p2.toInt8.toInt32)), .val (.int (p3.toInt8.toInt32)), .val (.ref b5), .unset, .unset, .unset, .unset, .unset, .unset, .unset] [(.int (1 : Int32)), (.int (3 : Int32))])) _
    refine XS.icmpNo X6.here hx rfl (hb hby at_36) rfl (tlt (by decide)).2.2.2 ?_
    show Steps p.tables e below (T6.setTop (mkF m 39 #[.val (.int p1), .val (.int p2), .val (.int p3), .val (.int p4), .val (.int (3 : Int32)), .val (.int (p1.toInt8.toInt32)), .val (.int (p2.toInt8.toInt32)), .val (.int (p3.toInt8.toInt32)), .val (.ref b5), .unset, .unset, .unset, .unset, .unset, .unset, .unset] [])) _
    refine XS.aload X6.here hx rfl (hb hby at_39) rfl rfl ?_
    show Steps p.tables e below (T6.setTop (mkF m 41 #[.val (.int p1), .val (.int p2), .val (.int p3), .val (.int p4), .val (.int (3 : Int32)), .val (.int (p1.toInt8.toInt32)), .val (.int (p2.toInt8.toInt32)), .val (.int (p3.toInt8.toInt32)), .val (.ref b5), .unset, .unset, .unset, .unset, .unset, .unset, .unset] [(.ref b5)])) _
    refine XS.iconst X6.here hx rfl (hb hby at_41) ?_
    show Steps p.tables e below (T6.setTop (mkF m 42 #[.val (.int p1), .val (.int p2), .val (.int p3), .val (.int p4), .val (.int (3 : Int32)), .val (.int (p1.toInt8.toInt32)), .val (.int (p2.toInt8.toInt32)), .val (.int (p3.toInt8.toInt32)), .val (.ref b5), .unset, .unset, .unset, .unset, .unset, .unset, .unset] [(.int (1 : Int32)), (.ref b5)])) _
    refine XS.iload X6.here hx rfl (hb hby at_42) rfl ?_
    show Steps p.tables e below (T6.setTop (mkF m 44 #[.val (.int p1), .val (.int p2), .val (.int p3), .val (.int p4), .val (.int (3 : Int32)), .val (.int (p1.toInt8.toInt32)), .val (.int (p2.toInt8.toInt32)), .val (.int (p3.toInt8.toInt32)), .val (.ref b5), .unset, .unset, .unset, .unset, .unset, .unset, .unset] [(.int (p2.toInt8.toInt32)), (.int (1 : Int32)), (.ref b5)])) _
    refine st7 _ ?_
    show Steps p.tables e below (T7.setTop (mkF m 45 #[.val (.int p1), .val (.int p2), .val (.int p3), .val (.int p4), .val (.int (3 : Int32)), .val (.int (p1.toInt8.toInt32)), .val (.int (p2.toInt8.toInt32)), .val (.int (p3.toInt8.toInt32)), .val (.ref b5), .unset, .unset, .unset, .unset, .unset, .unset, .unset] [])) _
    refine XS.iload X7.here hx rfl (hb hby at_45) rfl ?_
    show Steps p.tables e below (T7.setTop (mkF m 47 #[.val (.int p1), .val (.int p2), .val (.int p3), .val (.int p4), .val (.int (3 : Int32)), .val (.int (p1.toInt8.toInt32)), .val (.int (p2.toInt8.toInt32)), .val (.int (p3.toInt8.toInt32)), .val (.ref b5), .unset, .unset, .unset, .unset, .unset, .unset, .unset] [(.int (3 : Int32))])) _
    refine XS.iconst X7.here hx rfl (hb hby at_47) ?_
    show Steps p.tables e below (T7.setTop (mkF m 48 #[.val (.int p1), .val (.int p2), .val (.int p3), .val (.int p4), .val (.int (3 : Int32)), .val (.int (p1.toInt8.toInt32)), .val (.int (p2.toInt8.toInt32)), .val (.int (p3.toInt8.toInt32)), .val (.ref b5), .unset, .unset, .unset, .unset, .unset, .unset, .unset] [(.int (2 : Int32)), (.int (3 : Int32))])) _
    refine XS.icmpNo X7.here hx rfl (hb hby at_48) rfl (tlt (by decide)).2.2.2 ?_
    show Steps p.tables e below (T7.setTop (mkF m 51 #[.val (.int p1), .val (.int p2), .val (.int p3), .val (.int p4), .val (.int (3 : Int32)), .val (.int (p1.toInt8.toInt32)), .val (.int (p2.toInt8.toInt32)), .val (.int (p3.toInt8.toInt32)), .val (.ref b5), .unset, .unset, .unset, .unset, .unset, .unset, .unset] [])) _
    refine XS.aload X7.here hx rfl (hb hby at_51) rfl rfl ?_
    show Steps p.tables e below (T7.setTop (mkF m 53 #[.val (.int p1), .val (.int p2), .val (.int p3), .val (.int p4), .val (.int (3 : Int32)), .val (.int (p1.toInt8.toInt32)), .val (.int (p2.toInt8.toInt32)), .val (.int (p3.toInt8.toInt32)), .val (.ref b5), .unset, .unset, .unset, .unset, .unset, .unset, .unset] [(.ref b5)])) _
    refine XS.iconst X7.here hx rfl (hb hby at_53) ?_
    show Steps p.tables e below (T7.setTop (mkF m 54 #[.val (.int p1), .val (.int p2), .val (.int p3), .val (.int p4), .val (.int (3 : Int32)), .val (.int (p1.toInt8.toInt32)), .val (.int (p2.toInt8.toInt32)), .val (.int (p3.toInt8.toInt32)), .val (.ref b5), .unset, .unset, .unset, .unset, .unset, .unset, .unset] [(.int (2 : Int32)), (.ref b5)])) _
    refine XS.iload X7.here hx rfl (hb hby at_54) rfl ?_
    show Steps p.tables e below (T7.setTop (mkF m 56 #[.val (.int p1), .val (.int p2), .val (.int p3), .val (.int p4), .val (.int (3 : Int32)), .val (.int (p1.toInt8.toInt32)), .val (.int (p2.toInt8.toInt32)), .val (.int (p3.toInt8.toInt32)), .val (.ref b5), .unset, .unset, .unset, .unset, .unset, .unset, .unset] [(.int (p3.toInt8.toInt32)), (.int (2 : Int32)), (.ref b5)])) _
    refine st8 _ ?_
    show Steps p.tables e below (T8.setTop (mkF m 57 #[.val (.int p1), .val (.int p2), .val (.int p3), .val (.int p4), .val (.int (3 : Int32)), .val (.int (p1.toInt8.toInt32)), .val (.int (p2.toInt8.toInt32)), .val (.int (p3.toInt8.toInt32)), .val (.ref b5), .unset, .unset, .unset, .unset, .unset, .unset, .unset] [])) _
    refine XS.iload X8.here hx rfl (hb hby at_57) rfl ?_
    show Steps p.tables e below (T8.setTop (mkF m 59 #[.val (.int p1), .val (.int p2), .val (.int p3), .val (.int p4), .val (.int (3 : Int32)), .val (.int (p1.toInt8.toInt32)), .val (.int (p2.toInt8.toInt32)), .val (.int (p3.toInt8.toInt32)), .val (.ref b5), .unset, .unset, .unset, .unset, .unset, .unset, .unset] [(.int (3 : Int32))])) _
    refine XS.iconst X8.here hx rfl (hb hby at_59) ?_
    show Steps p.tables e below (T8.setTop (mkF m 60 #[.val (.int p1), .val (.int p2), .val (.int p3), .val (.int p4), .val (.int (3 : Int32)), .val (.int (p1.toInt8.toInt32)), .val (.int (p2.toInt8.toInt32)), .val (.int (p3.toInt8.toInt32)), .val (.ref b5), .unset, .unset, .unset, .unset, .unset, .unset, .unset] [(.int (3 : Int32)), (.int (3 : Int32))])) _
    refine XS.icmpNo X8.here hx rfl (hb hby at_60) rfl (teq (by decide)).2 ?_
    show Steps p.tables e below (T8.setTop (mkF m 63 #[.val (.int p1), .val (.int p2), .val (.int p3), .val (.int p4), .val (.int (3 : Int32)), .val (.int (p1.toInt8.toInt32)), .val (.int (p2.toInt8.toInt32)), .val (.int (p3.toInt8.toInt32)), .val (.ref b5), .unset, .unset, .unset, .unset, .unset, .unset, .unset] [])) _
    refine XS.iload X8.here hx rfl (hb hby at_63) rfl ?_
    show Steps p.tables e below (T8.setTop (mkF m 65 #[.val (.int p1), .val (.int p2), .val (.int p3), .val (.int p4), .val (.int (3 : Int32)), .val (.int (p1.toInt8.toInt32)), .val (.int (p2.toInt8.toInt32)), .val (.int (p3.toInt8.toInt32)), .val (.ref b5), .unset, .unset, .unset, .unset, .unset, .unset, .unset] [(.int (p3.toInt8.toInt32))])) _
    refine XS.iconst X8.here hx rfl (hb hby at_65) ?_
    show Steps p.tables e below (T8.setTop (mkF m 66 #[.val (.int p1), .val (.int p2), .val (.int p3), .val (.int p4), .val (.int (3 : Int32)), .val (.int (p1.toInt8.toInt32)), .val (.int (p2.toInt8.toInt32)), .val (.int (p3.toInt8.toInt32)), .val (.ref b5), .unset, .unset, .unset, .unset, .unset, .unset, .unset] [(.int (-1 : Int32)), (.int (p3.toInt8.toInt32))])) _
    refine XS.icmpYes X8.here hx rfl (pc0 := 66) (pc' := 75) rfl (hb hby at_66) rfl (teq m2).1 (by decide) (by decide) ?_
    show Steps p.tables e below (T8.setTop (mkF m 75 #[.val (.int p1), .val (.int p2), .val (.int p3), .val (.int p4), .val (.int (3 : Int32)), .val (.int (p1.toInt8.toInt32)), .val (.int (p2.toInt8.toInt32)), .val (.int (p3.toInt8.toInt32)), .val (.ref b5), .unset, .unset, .unset, .unset, .unset, .unset, .unset] [])) _
    refine XS.iload X8.here hx rfl (hb hby at_75) rfl ?_
    show Steps p.tables e below (T8.setTop (mkF m 77 #[.val (.int p1), .val (.int p2), .val (.int p3), .val (.int p4), .val (.int (3 : Int32)), .val (.int (p1.toInt8.toInt32)), .val (.int (p2.toInt8.toInt32)), .val (.int (p3.toInt8.toInt32)), .val (.ref b5), .unset, .unset, .unset, .unset, .unset, .unset, .unset] [(.int (3 : Int32))])) _
    refine XS.iconst X8.here hx rfl (hb hby at_77) ?_
    show Steps p.tables e below (T8.setTop (mkF m 78 #[.val (.int p1), .val (.int p2), .val (.int p3), .val (.int p4), .val (.int (3 : Int32)), .val (.int (p1.toInt8.toInt32)), .val (.int (p2.toInt8.toInt32)), .val (.int (p3.toInt8.toInt32)), .val (.ref b5), .unset, .unset, .unset, .unset, .unset, .unset, .unset] [(.int (2 : Int32)), (.int (3 : Int32))])) _
    refine XS.icmpNo X8.here hx rfl (hb hby at_78) rfl (flt (by decide)).1 ?_
    show Steps p.tables e below (T8.setTop (mkF m 81 #[.val (.int p1), .val (.int p2), .val (.int p3), .val (.int p4), .val (.int (3 : Int32)), .val (.int (p1.toInt8.toInt32)), .val (.int (p2.toInt8.toInt32)), .val (.int (p3.toInt8.toInt32)), .val (.ref b5), .unset, .unset, .unset, .unset, .unset, .unset, .unset] [])) _
    refine XS.iload X8.here hx rfl (hb hby at_81) rfl ?_
    show Steps p.tables e below (T8.setTop (mkF m 83 #[.val (.int p1), .val (.int p2), .val (.int p3), .val (.int p4), .val (.int (3 : Int32)), .val (.int (p1.toInt8.toInt32)), .val (.int (p2.toInt8.toInt32)), .val (.int (p3.toInt8.toInt32)), .val (.ref b5), .unset, .unset, .unset, .unset, .unset, .unset, .unset] [(.int (p2.toInt8.toInt32))])) _
    refine XS.iconst X8.here hx rfl (hb hby at_83) ?_
    show Steps p.tables e below (T8.setTop (mkF m 84 #[.val (.int p1), .val (.int p2), .val (.int p3), .val (.int p4), .val (.int (3 : Int32)), .val (.int (p1.toInt8.toInt32)), .val (.int (p2.toInt8.toInt32)), .val (.int (p3.toInt8.toInt32)), .val (.ref b5), .unset, .unset, .unset, .unset, .unset, .unset, .unset] [(.int (-1 : Int32)), (.int (p2.toInt8.toInt32))])) _
    refine XS.icmpYes X8.here hx rfl (pc0 := 84) (pc' := 93) rfl (hb hby at_84) rfl (teq m1).1 (by decide) (by decide) ?_
    show Steps p.tables e below (T8.setTop (mkF m 93 #[.val (.int p1), .val (.int p2), .val (.int p3), .val (.int p4), .val (.int (3 : Int32)), .val (.int (p1.toInt8.toInt32)), .val (.int (p2.toInt8.toInt32)), .val (.int (p3.toInt8.toInt32)), .val (.ref b5), .unset, .unset, .unset, .unset, .unset, .unset, .unset] [])) _
    refine XS.iload X8.here hx rfl (hb hby at_93) rfl ?_
    show Steps p.tables e below (T8.setTop (mkF m 95 #[.val (.int p1), .val (.int p2), .val (.int p3), .val (.int p4), .val (.int (3 : Int32)), .val (.int (p1.toInt8.toInt32)), .val (.int (p2.toInt8.toInt32)), .val (.int (p3.toInt8.toInt32)), .val (.ref b5), .unset, .unset, .unset, .unset, .unset, .unset, .unset] [(.int (p1.toInt8.toInt32))])) _
    refine XS.iconst X8.here hx rfl (hb hby at_95) ?_
    show Steps p.tables e below (T8.setTop (mkF m 96 #[.val (.int p1), .val (.int p2), .val (.int p3), .val (.int p4), .val (.int (3 : Int32)), .val (.int (p1.toInt8.toInt32)), .val (.int (p2.toInt8.toInt32)), .val (.int (p3.toInt8.toInt32)), .val (.ref b5), .unset, .unset, .unset, .unset, .unset, .unset, .unset] [(.int (-1 : Int32)), (.int (p1.toInt8.toInt32))])) _
    refine XS.icmpNo X8.here hx rfl (hb hby at_96) rfl (feq nk0).1 ?_
    show Steps p.tables e below (T8.setTop (mkF m 99 #[.val (.int p1), .val (.int p2), .val (.int p3), .val (.int p4), .val (.int (3 : Int32)), .val (.int (p1.toInt8.toInt32)), .val (.int (p2.toInt8.toInt32)), .val (.int (p3.toInt8.toInt32)), .val (.ref b5), .unset, .unset, .unset, .unset, .unset, .unset, .unset] [])) _
    refine XS.iconst X8.here hx rfl (hb hby at_99) ?_
    show Steps p.tables e below (T8.setTop (mkF m 100 #[.val (.int p1), .val (.int p2), .val (.int p3), .val (.int p4), .val (.int (3 : Int32)), .val (.int (p1.toInt8.toInt32)), .val (.int (p2.toInt8.toInt32)), .val (.int (p3.toInt8.toInt32)), .val (.ref b5), .unset, .unset, .unset, .unset, .unset, .unset, .unset] [(.int (0 : Int32))])) _
    refine XS.istore X8.here hx rfl (hb hby at_100) rfl (l' := #[.val (.int p1), .val (.int p2), .val (.int p3), .val (.int p4), .val (.int (3 : Int32)), .val (.int (p1.toInt8.toInt32)), .val (.int (p2.toInt8.toInt32)), .val (.int (p3.toInt8.toInt32)), .val (.ref b5), .val (.int (0 : Int32)), .unset, .unset, .unset, .unset, .unset, .unset]) rfl ?_
    show Steps p.tables e below (T8.setTop (mkF m 102 #[.val (.int p1), .val (.int p2), .val (.int p3), .val (.int p4), .val (.int (3 : Int32)), .val (.int (p1.toInt8.toInt32)), .val (.int (p2.toInt8.toInt32)), .val (.int (p3.toInt8.toInt32)), .val (.ref b5), .val (.int (0 : Int32)), .unset, .unset, .unset, .unset, .unset, .unset] [])) _
    refine XS.goto X8.here hx rfl (pc0 := 102) (pc' := 107) rfl (hb hby at_102) (by decide) (by decide) ?_
    show Steps p.tables e below (T8.setTop (mkF m 107 #[.val (.int p1), .val (.int p2), .val (.int p3), .val (.int p4), .val (.int (3 : Int32)), .val (.int (p1.toInt8.toInt32)), .val (.int (p2.toInt8.toInt32)), .val (.int (p3.toInt8.toInt32)), .val (.ref b5), .val (.int (0 : Int32)), .unset, .unset, .unset, .unset, .unset, .unset] [])) _
    refine XS.iload X8.here hx rfl (hb hby at_107) rfl ?_
    show Steps p.tables e below (T8.setTop (mkF m 109 #[.val (.int p1), .val (.int p2), .val (.int p3), .val (.int p4), .val (.int (3 : Int32)), .val (.int (p1.toInt8.toInt32)), .val (.int (p2.toInt8.toInt32)), .val (.int (p3.toInt8.toInt32)), .val (.ref b5), .val (.int (0 : Int32)), .unset, .unset, .unset, .unset, .unset, .unset] [(.int (p1.toInt8.toInt32))])) _
    refine XS.istore X8.here hx rfl (hb hby at_109) rfl (l' := #[.val (.int p1), .val (.int p2), .val (.int p3), .val (.int p4), .val (.int (3 : Int32)), .val (.int (p1.toInt8.toInt32)), .val (.int (p2.toInt8.toInt32)), .val (.int (p3.toInt8.toInt32)), .val (.ref b5), .val (.int (0 : Int32)), .val (.int (p1.toInt8.toInt32)), .unset, .unset, .unset, .unset, .unset]) rfl ?_
    show Steps p.tables e below (T8.setTop (mkF m 111 #[.val (.int p1), .val (.int p2), .val (.int p3), .val (.int p4), .val (.int (3 : Int32)), .val (.int (p1.toInt8.toInt32)), .val (.int (p2.toInt8.toInt32)), .val (.int (p3.toInt8.toInt32)), .val (.ref b5), .val (.int (0 : Int32)), .val (.int (p1.toInt8.toInt32)), .unset, .unset, .unset, .unset, .unset] [])) _
    refine XS.iload X8.here hx rfl (hb hby at_111) rfl ?_
    show Steps p.tables e below (T8.setTop (mkF m 113 #[.val (.int p1), .val (.int p2), .val (.int p3), .val (.int p4), .val (.int (3 : Int32)), .val (.int (p1.toInt8.toInt32)), .val (.int (p2.toInt8.toInt32)), .val (.int (p3.toInt8.toInt32)), .val (.ref b5), .val (.int (0 : Int32)), .val (.int (p1.toInt8.toInt32)), .unset, .unset, .unset, .unset, .unset] [(.int (p2.toInt8.toInt32))])) _
    refine XS.istore X8.here hx rfl (hb hby at_113) rfl (l' := #[.val (.int p1), .val (.int p2), .val (.int p3), .val (.int p4), .val (.int (3 : Int32)), .val (.int (p1.toInt8.toInt32)), .val (.int (p2.toInt8.toInt32)), .val (.int (p3.toInt8.toInt32)), .val (.ref b5), .val (.int (0 : Int32)), .val (.int (p1.toInt8.toInt32)), .val (.int (p2.toInt8.toInt32)), .unset, .unset, .unset, .unset]) rfl ?_
    show Steps p.tables e below (T8.setTop (mkF m 115 #[.val (.int p1), .val (.int p2), .val (.int p3), .val (.int p4), .val (.int (3 : Int32)), .val (.int (p1.toInt8.toInt32)), .val (.int (p2.toInt8.toInt32)), .val (.int (p3.toInt8.toInt32)), .val (.ref b5), .val (.int (0 : Int32)), .val (.int (p1.toInt8.toInt32)), .val (.int (p2.toInt8.toInt32)), .unset, .unset, .unset, .unset] [])) _
    refine XS.iload X8.here hx rfl (hb hby at_115) rfl ?_
    show Steps p.tables e below (T8.setTop (mkF m 117 #[.val (.int p1), .val (.int p2), .val (.int p3), .val (.int p4), .val (.int (3 : Int32)), .val (.int (p1.toInt8.toInt32)), .val (.int (p2.toInt8.toInt32)), .val (.int (p3.toInt8.toInt32)), .val (.ref b5), .val (.int (0 : Int32)), .val (.int (p1.toInt8.toInt32)), .val (.int (p2.toInt8.toInt32)), .unset, .unset, .unset, .unset] [(.int (p3.toInt8.toInt32))])) _
    refine XS.istore X8.here hx rfl (hb hby at_117) rfl (l' := #[.val (.int p1), .val (.int p2), .val (.int p3), .val (.int p4), .val (.int (3 : Int32)), .val (.int (p1.toInt8.toInt32)), .val (.int (p2.toInt8.toInt32)), .val (.int (p3.toInt8.toInt32)), .val (.ref b5), .val (.int (0 : Int32)), .val (.int (p1.toInt8.toInt32)), .val (.int (p2.toInt8.toInt32)), .val (.int (p3.toInt8.toInt32)), .unset, .unset, .unset]) rfl ?_
    show Steps p.tables e below (T8.setTop (mkF m 119 #[.val (.int p1), .val (.int p2), .val (.int p3), .val (.int p4), .val (.int (3 : Int32)), .val (.int (p1.toInt8.toInt32)), .val (.int (p2.toInt8.toInt32)), .val (.int (p3.toInt8.toInt32)), .val (.ref b5), .val (.int (0 : Int32)), .val (.int (p1.toInt8.toInt32)), .val (.int (p2.toInt8.toInt32)), .val (.int (p3.toInt8.toInt32)), .unset, .unset, .unset] [])) _
    refine XS.iload X8.here hx rfl (hb hby at_119) rfl ?_
    show Steps p.tables e below (T8.setTop (mkF m 121 #[.val (.int p1), .val (.int p2), .val (.int p3), .val (.int p4), .val (.int (3 : Int32)), .val (.int (p1.toInt8.toInt32)), .val (.int (p2.toInt8.toInt32)), .val (.int (p3.toInt8.toInt32)), .val (.ref b5), .val (.int (0 : Int32)), .val (.int (p1.toInt8.toInt32)), .val (.int (p2.toInt8.toInt32)), .val (.int (p3.toInt8.toInt32)), .unset, .unset, .unset] [(.int (0 : Int32))])) _
    refine XS.ifNo X8.here hx rfl (hb hby at_121) rfl ((if0 _ _).trans (teq (rfl : (0 : Int32) = (0 : Int32))).2) ?_
    show Steps p.tables e below (T8.setTop (mkF m 124 #[.val (.int p1), .val (.int p2), .val (.int p3), .val (.int p4), .val (.int (3 : Int32)), .val (.int (p1.toInt8.toInt32)), .val (.int (p2.toInt8.toInt32)), .val (.int (p3.toInt8.toInt32)), .val (.ref b5), .val (.int (0 : Int32)), .val (.int (p1.toInt8.toInt32)), .val (.int (p2.toInt8.toInt32)), .val (.int (p3.toInt8.toInt32)), .unset, .unset, .unset] [])) _
    refine XS.iload X8.here hx rfl (hb hby at_124) rfl ?_
    show Steps p.tables e below (T8.setTop (mkF m 126 #[.val (.int p1), .val (.int p2), .val (.int p3), .val (.int p4), .val (.int (3 : Int32)), .val (.int (p1.toInt8.toInt32)), .val (.int (p2.toInt8.toInt32)), .val (.int (p3.toInt8.toInt32)), .val (.ref b5), .val (.int (0 : Int32)), .val (.int (p1.toInt8.toInt32)), .val (.int (p2.toInt8.toInt32)), .val (.int (p3.toInt8.toInt32)), .unset, .unset, .unset] [(.int (p1.toInt8.toInt32))])) _
    refine XS.iconst X8.here hx rfl (hb hby at_126) ?_
    show Steps p.tables e below (T8.setTop (mkF m 127 #[.val (.int p1), .val (.int p2), .val (.int p3), .val (.int p4), .val (.int (3 : Int32)), .val (.int (p1.toInt8.toInt32)), .val (.int (p2.toInt8.toInt32)), .val (.int (p3.toInt8.toInt32)), .val (.ref b5), .val (.int (0 : Int32)), .val (.int (p1.toInt8.toInt32)), .val (.int (p2.toInt8.toInt32)), .val (.int (p3.toInt8.toInt32)), .unset, .unset, .unset] [(.int (1 : Int32)), (.int (p1.toInt8.toInt32))])) _
    refine XS.iadd X8.here hx rfl (hb hby at_127) rfl ?_
    show Steps p.tables e below (T8.setTop (mkF m 128 #[.val (.int p1), .val (.int p2), .val (.int p3), .val (.int p4), .val (.int (3 : Int32)), .val (.int (p1.toInt8.toInt32)), .val (.int (p2.toInt8.toInt32)), .val (.int (p3.toInt8.toInt32)), .val (.ref b5), .val (.int (0 : Int32)), .val (.int (p1.toInt8.toInt32)), .val (.int (p2.toInt8.toInt32)), .val (.int (p3.toInt8.toInt32)), .unset, .unset, .unset] [(.int ((p1.toInt8.toInt32) + (1 : Int32)))])) _
    refine XS.i2b X8.here hx rfl (hb hby at_128) rfl ?_
    show Steps p.tables e below (T8.setTop (mkF m 129 #[.val (.int p1), .val (.int p2), .val (.int p3), .val (.int p4), .val (.int (3 : Int32)), .val (.int (p1.toInt8.toInt32)), .val (.int (p2.toInt8.toInt32)), .val (.int (p3.toInt8.toInt32)), .val (.ref b5), .val (.int (0 : Int32)), .val (.int (p1.toInt8.toInt32)), .val (.int (p2.toInt8.toInt32)), .val (.int (p3.toInt8.toInt32)), .unset, .unset, .unset] [(.int (((p1.toInt8.toInt32) + (1 : Int32)).toInt8.toInt32))])) _
    refine XS.istore X8.here hx rfl (hb hby at_129) rfl (l' := #[.val (.int p1), .val (.int p2), .val (.int p3), .val (.int p4), .val (.int (3 : Int32)), .val (.int (p1.toInt8.toInt32)), .val (.int (p2.toInt8.toInt32)), .val (.int (p3.toInt8.toInt32)), .val (.ref b5), .val (.int (0 : Int32)), .val (.int (((p1.toInt8.toInt32) + (1 : Int32)).toInt8.toInt32)), .val (.int (p2.toInt8.toInt32)), .val (.int (p3.toInt8.toInt32)), .unset, .unset, .unset]) rfl ?_
    show Steps p.tables e below (T8.setTop (mkF m 131 #[.val (.int p1), .val (.int p2), .val (.int p3), .val (.int p4), .val (.int (3 : Int32)), .val (.int (p1.toInt8.toInt32)), .val (.int (p2.toInt8.toInt32)), .val (.int (p3.toInt8.toInt32)), .val (.ref b5), .val (.int (0 : Int32)), .val (.int (((p1.toInt8.toInt32) + (1 : Int32)).toInt8.toInt32)), .val (.int (p2.toInt8.toInt32)), .val (.int (p3.toInt8.toInt32)), .unset, .unset, .unset] [])) _
    refine XS.goto X8.here hx rfl (pc0 := 131) (pc' := 157) rfl (hb hby at_131) (by decide) (by decide) ?_
    show Steps p.tables e below (T8.setTop (mkF m 157 #[.val (.int p1), .val (.int p2), .val (.int p3), .val (.int p4), .val (.int (3 : Int32)), .val (.int (p1.toInt8.toInt32)), .val (.int (p2.toInt8.toInt32)), .val (.int (p3.toInt8.toInt32)), .val (.ref b5), .val (.int (0 : Int32)), .val (.int (((p1.toInt8.toInt32) + (1 : Int32)).toInt8.toInt32)), .val (.int (p2.toInt8.toInt32)), .val (.int (p3.toInt8.toInt32)), .unset, .unset, .unset] [])) _
    refine XS.aload X8.here hx rfl (hb hby at_157) rfl rfl ?_
    show Steps p.tables e below (T8.setTop (mkF m 159 #[.val (.int p1), .val (.int p2), .val (.int p3), .val (.int p4), .val (.int (3 : Int32)), .val (.int (p1.toInt8.toInt32)), .val (.int (p2.toInt8.toInt32)), .val (.int (p3.toInt8.toInt32)), .val (.ref b5), .val (.int (0 : Int32)), .val (.int (((p1.toInt8.toInt32) + (1 : Int32)).toInt8.toInt32)), .val (.int (p2.toInt8.toInt32)), .val (.int (p3.toInt8.toInt32)), .unset, .unset, .unset] [(.ref b5)])) _
    refine st9 _ ?_
    show Steps p.tables e below (T9.setTop (mkF m 162 #[.val (.int p1), .val (.int p2), .val (.int p3), .val (.int p4), .val (.int (3 : Int32)), .val (.int (p1.toInt8.toInt32)), .val (.int (p2.toInt8.toInt32)), .val (.int (p3.toInt8.toInt32)), .val (.ref b5), .val (.int (0 : Int32)), .val (.int (((p1.toInt8.toInt32) + (1 : Int32)).toInt8.toInt32)), .val (.int (p2.toInt8.toInt32)), .val (.int (p3.toInt8.toInt32)), .unset, .unset, .unset] [(.ref r)])) _
    refine XS.astore X9.here hx rfl (hb hby at_162) rfl rfl (l' := #[.val (.int p1), .val (.int p2), .val (.int p3), .val (.int p4), .val (.int (3 : Int32)), .val (.int (p1.toInt8.toInt32)), .val (.int (p2.toInt8.toInt32)), .val (.int (p3.toInt8.toInt32)), .val (.ref b5), .val (.int (0 : Int32)), .val (.int (((p1.toInt8.toInt32) + (1 : Int32)).toInt8.toInt32)), .val (.int (p2.toInt8.toInt32)), .val (.int (p3.toInt8.toInt32)), .val (.ref r), .unset, .unset]) rfl ?_
    show Steps p.tables e below (T9.setTop (mkF m 164 #[.val (.int p1), .val (.int p2), .val (.int p3), .val (.int p4), .val (.int (3 : Int32)), .val (.int (p1.toInt8.toInt32)), .val (.int (p2.toInt8.toInt32)), .val (.int (p3.toInt8.toInt32)), .val (.ref b5), .val (.int (0 : Int32)), .val (.int (((p1.toInt8.toInt32) + (1 : Int32)).toInt8.toInt32)), .val (.int (p2.toInt8.toInt32)), .val (.int (p3.toInt8.toInt32)), .val (.ref r), .unset, .unset] [])) _
    refine XS.aload X9.here hx rfl (hb hby at_164) rfl rfl ?_
    show Steps p.tables e below (T9.setTop (mkF m 166 #[.val (.int p1), .val (.int p2), .val (.int p3), .val (.int p4), .val (.int (3 : Int32)), .val (.int (p1.toInt8.toInt32)), .val (.int (p2.toInt8.toInt32)), .val (.int (p3.toInt8.toInt32)), .val (.ref b5), .val (.int (0 : Int32)), .val (.int (((p1.toInt8.toInt32) + (1 : Int32)).toInt8.toInt32)), .val (.int (p2.toInt8.toInt32)), .val (.int (p3.toInt8.toInt32)), .val (.ref r), .unset, .unset] [(.ref r)])) _
    refine st10.trans ?_
    show Steps p.tables e below (T10.setTop (mkF m 169 #[.val (.int p1), .val (.int p2), .val (.int p3), .val (.int p4), .val (.int (3 : Int32)), .val (.int (p1.toInt8.toInt32)), .val (.int (p2.toInt8.toInt32)), .val (.int (p3.toInt8.toInt32)), .val (.ref b5), .val (.int (0 : Int32)), .val (.int (((p1.toInt8.toInt32) + (1 : Int32)).toInt8.toInt32)), .val (.int (p2.toInt8.toInt32)), .val (.int (p3.toInt8.toInt32)), .val (.ref r), .unset, .unset] [(.ref b5)])) _
    refine XS.astore X10.here hx rfl (hb hby at_169) rfl rfl (l' := #[.val (.int p1), .val (.int p2), .val (.int p3), .val (.int p4), .val (.int (3 : Int32)), .val (.int (p1.toInt8.toInt32)), .val (.int (p2.toInt8.toInt32)), .val (.int (p3.toInt8.toInt32)), .val (.ref b5), .val (.int (0 : Int32)), .val (.int (((p1.toInt8.toInt32) + (1 : Int32)).toInt8.toInt32)), .val (.int (p2.toInt8.toInt32)), .val (.int (p3.toInt8.toInt32)), .val (.ref r), .val (.ref b5), .unset]) rfl ?_
    show Steps p.tables e below (T10.setTop (mkF m 171 #[.val (.int p1), .val (.int p2), .val (.int p3), .val (.int p4), .val (.int (3 : Int32)), .val (.int (p1.toInt8.toInt32)), .val (.int (p2.toInt8.toInt32)), .val (.int (p3.toInt8.toInt32)), .val (.ref b5), .val (.int (0 : Int32)), .val (.int (((p1.toInt8.toInt32) + (1 : Int32)).toInt8.toInt32)), .val (.int (p2.toInt8.toInt32)), .val (.int (p3.toInt8.toInt32)), .val (.ref r), .val (.ref b5), .unset] [])) _
    refine XS.aload X10.here hx rfl (hb hby at_171) rfl rfl ?_
    show Steps p.tables e below (T10.setTop (mkF m 173 #[.val (.int p1), .val (.int p2), .val (.int p3), .val (.int p4), .val (.int (3 : Int32)), .val (.int (p1.toInt8.toInt32)), .val (.int (p2.toInt8.toInt32)), .val (.int (p3.toInt8.toInt32)), .val (.ref b5), .val (.int (0 : Int32)), .val (.int (((p1.toInt8.toInt32) + (1 : Int32)).toInt8.toInt32)), .val (.int (p2.toInt8.toInt32)), .val (.int (p3.toInt8.toInt32)), .val (.ref r), .val (.ref b5), .unset] [(.ref r)])) _
    refine st11.trans ?_
    show Steps p.tables e below (T11.setTop (mkF m 176 #[.val (.int p1), .val (.int p2), .val (.int p3), .val (.int p4), .val (.int (3 : Int32)), .val (.int (p1.toInt8.toInt32)), .val (.int (p2.toInt8.toInt32)), .val (.int (p3.toInt8.toInt32)), .val (.ref b5), .val (.int (0 : Int32)), .val (.int (((p1.toInt8.toInt32) + (1 : Int32)).toInt8.toInt32)), .val (.int (p2.toInt8.toInt32)), .val (.int (p3.toInt8.toInt32)), .val (.ref r), .val (.ref b5), .unset] [(.ref ub)])) _
    refine XS.astore X11.here hx rfl (hb hby at_176) rfl rfl (l' := #[.val (.int p1), .val (.int p2), .val (.int p3), .val (.int p4), .val (.int (3 : Int32)), .val (.int (p1.toInt8.toInt32)), .val (.int (p2.toInt8.toInt32)), .val (.int (p3.toInt8.toInt32)), .val (.ref b5), .val (.int (0 : Int32)), .val (.int (((p1.toInt8.toInt32) + (1 : Int32)).toInt8.toInt32)), .val (.int (p2.toInt8.toInt32)), .val (.int (p3.toInt8.toInt32)), .val (.ref r), .val (.ref b5), .val (.ref ub)]) rfl ?_
    show Steps p.tables e below (T11.setTop (mkF m 178 #[.val (.int p1), .val (.int p2), .val (.int p3), .val (.int p4), .val (.int (3 : Int32)), .val (.int (p1.toInt8.toInt32)), .val (.int (p2.toInt8.toInt32)), .val (.int (p3.toInt8.toInt32)), .val (.ref b5), .val (.int (0 : Int32)), .val (.int (((p1.toInt8.toInt32) + (1 : Int32)).toInt8.toInt32)), .val (.int (p2.toInt8.toInt32)), .val (.int (p3.toInt8.toInt32)), .val (.ref r), .val (.ref b5), .val (.ref ub)] [])) _
    refine XS.aload X11.here hx rfl (hb hby at_178) rfl rfl ?_
    show Steps p.tables e below (T11.setTop (mkF m 180 #[.val (.int p1), .val (.int p2), .val (.int p3), .val (.int p4), .val (.int (3 : Int32)), .val (.int (p1.toInt8.toInt32)), .val (.int (p2.toInt8.toInt32)), .val (.int (p3.toInt8.toInt32)), .val (.ref b5), .val (.int (0 : Int32)), .val (.int (((p1.toInt8.toInt32) + (1 : Int32)).toInt8.toInt32)), .val (.int (p2.toInt8.toInt32)), .val (.int (p3.toInt8.toInt32)), .val (.ref r), .val (.ref b5), .val (.ref ub)] [(.ref b5)])) _
    refine XS.iload X11.here hx rfl (hb hby at_180) rfl ?_
    show Steps p.tables e below (T11.setTop (mkF m 182 #[.val (.int p1), .val (.int p2), .val (.int p3), .val (.int p4), .val (.int (3 : Int32)), .val (.int (p1.toInt8.toInt32)), .val (.int (p2.toInt8.toInt32)), .val (.int (p3.toInt8.toInt32)), .val (.ref b5), .val (.int (0 : Int32)), .val (.int (((p1.toInt8.toInt32) + (1 : Int32)).toInt8.toInt32)), .val (.int (p2.toInt8.toInt32)), .val (.int (p3.toInt8.toInt32)), .val (.ref r), .val (.ref b5), .val (.ref ub)] [(.int (3 : Int32)), (.ref b5)])) _
    refine XS.iload X11.here hx rfl (hb hby at_182) rfl ?_
    show Steps p.tables e below (T11.setTop (mkF m 184 #[.val (.int p1), .val (.int p2), .val (.int p3), .val (.int p4), .val (.int (3 : Int32)), .val (.int (p1.toInt8.toInt32)), .val (.int (p2.toInt8.toInt32)), .val (.int (p3.toInt8.toInt32)), .val (.ref b5), .val (.int (0 : Int32)), .val (.int (((p1.toInt8.toInt32) + (1 : Int32)).toInt8.toInt32)), .val (.int (p2.toInt8.toInt32)), .val (.int (p3.toInt8.toInt32)), .val (.ref r), .val (.ref b5), .val (.ref ub)] [(.int (p1.toInt8.toInt32)), (.int (3 : Int32)), (.ref b5)])) _
    refine XS.iload X11.here hx rfl (hb hby at_184) rfl ?_
    show Steps p.tables e below (T11.setTop (mkF m 186 #[.val (.int p1), .val (.int p2), .val (.int p3), .val (.int p4), .val (.int (3 : Int32)), .val (.int (p1.toInt8.toInt32)), .val (.int (p2.toInt8.toInt32)), .val (.int (p3.toInt8.toInt32)), .val (.ref b5), .val (.int (0 : Int32)), .val (.int (((p1.toInt8.toInt32) + (1 : Int32)).toInt8.toInt32)), .val (.int (p2.toInt8.toInt32)), .val (.int (p3.toInt8.toInt32)), .val (.ref r), .val (.ref b5), .val (.ref ub)] [(.int (p2.toInt8.toInt32)), (.int (p1.toInt8.toInt32)), (.int (3 : Int32)), (.ref b5)])) _
    refine XS.iload X11.here hx rfl (hb hby at_186) rfl ?_
    show Steps p.tables e below (T11.setTop (mkF m 188 #[.val (.int p1), .val (.int p2), .val (.int p3), .val (.int p4), .val (.int (3 : Int32)), .val (.int (p1.toInt8.toInt32)), .val (.int (p2.toInt8.toInt32)), .val (.int (p3.toInt8.toInt32)), .val (.ref b5), .val (.int (0 : Int32)), .val (.int (((p1.toInt8.toInt32) + (1 : Int32)).toInt8.toInt32)), .val (.int (p2.toInt8.toInt32)), .val (.int (p3.toInt8.toInt32)), .val (.ref r), .val (.ref b5), .val (.ref ub)] [(.int (p3.toInt8.toInt32)), (.int (p2.toInt8.toInt32)), (.int (p1.toInt8.toInt32)), (.int (3 : Int32)), (.ref b5)])) _
    refine st12 _ ?_
    show Steps p.tables e below (T12.setTop (mkF m 191 #[.val (.int p1), .val (.int p2), .val (.int p3), .val (.int p4), .val (.int (3 : Int32)), .val (.int (p1.toInt8.toInt32)), .val (.int (p2.toInt8.toInt32)), .val (.int (p3.toInt8.toInt32)), .val (.ref b5), .val (.int (0 : Int32)), .val (.int (((p1.toInt8.toInt32) + (1 : Int32)).toInt8.toInt32)), .val (.int (p2.toInt8.toInt32)), .val (.int (p3.toInt8.toInt32)), .val (.ref r), .val (.ref b5), .val (.ref ub)] [(.int (1 : Int32))])) _
    refine XS.ifNo X12.here hx rfl (hb hby at_191) rfl ((if0 _ _).trans (feq (by decide : ¬ ((1 : Int32) = (0 : Int32)))).1) ?_
    show Steps p.tables e below (T12.setTop (mkF m 194 #[.val (.int p1), .val (.int p2), .val (.int p3), .val (.int p4), .val (.int (3 : Int32)), .val (.int (p1.toInt8.toInt32)), .val (.int (p2.toInt8.toInt32)), .val (.int (p3.toInt8.toInt32)), .val (.ref b5), .val (.int (0 : Int32)), .val (.int (((p1.toInt8.toInt32) + (1 : Int32)).toInt8.toInt32)), .val (.int (p2.toInt8.toInt32)), .val (.int (p3.toInt8.toInt32)), .val (.ref r), .val (.ref b5), .val (.ref ub)] [])) _
    refine XS.aload X12.here hx rfl (hb hby at_194) rfl rfl ?_
    show Steps p.tables e below (T12.setTop (mkF m 196 #[.val (.int p1), .val (.int p2), .val (.int p3), .val (.int p4), .val (.int (3 : Int32)), .val (.int (p1.toInt8.toInt32)), .val (.int (p2.toInt8.toInt32)), .val (.int (p3.toInt8.toInt32)), .val (.ref b5), .val (.int (0 : Int32)), .val (.int (((p1.toInt8.toInt32) + (1 : Int32)).toInt8.toInt32)), .val (.int (p2.toInt8.toInt32)), .val (.int (p3.toInt8.toInt32)), .val (.ref r), .val (.ref b5), .val (.ref ub)] [(.ref b5)])) _
    refine XS.iload X12.here hx rfl (hb hby at_196) rfl ?_
    show Steps p.tables e below (T12.setTop (mkF m 198 #[.val (.int p1), .val (.int p2), .val (.int p3), .val (.int p4), .val (.int (3 : Int32)), .val (.int (p1.toInt8.toInt32)), .val (.int (p2.toInt8.toInt32)), .val (.int (p3.toInt8.toInt32)), .val (.ref b5), .val (.int (0 : Int32)), .val (.int (((p1.toInt8.toInt32) + (1 : Int32)).toInt8.toInt32)), .val (.int (p2.toInt8.toInt32)), .val (.int (p3.toInt8.toInt32)), .val (.ref r), .val (.ref b5), .val (.ref ub)] [(.int (3 : Int32)), (.ref b5)])) _
    refine XS.iload X12.here hx rfl (hb hby at_198) rfl ?_
    show Steps p.tables e below (T12.setTop (mkF m 200 #[.val (.int p1), .val (.int p2), .val (.int p3), .val (.int p4), .val (.int (3 : Int32)), .val (.int (p1.toInt8.toInt32)), .val (.int (p2.toInt8.toInt32)), .val (.int (p3.toInt8.toInt32)), .val (.ref b5), .val (.int (0 : Int32)), .val (.int (((p1.toInt8.toInt32) + (1 : Int32)).toInt8.toInt32)), .val (.int (p2.toInt8.toInt32)), .val (.int (p3.toInt8.toInt32)), .val (.ref r), .val (.ref b5), .val (.ref ub)] [(.int (p1.toInt8.toInt32)), (.int (3 : Int32)), (.ref b5)])) _
    refine XS.iload X12.here hx rfl (hb hby at_200) rfl ?_
    show Steps p.tables e below (T12.setTop (mkF m 202 #[.val (.int p1), .val (.int p2), .val (.int p3), .val (.int p4), .val (.int (3 : Int32)), .val (.int (p1.toInt8.toInt32)), .val (.int (p2.toInt8.toInt32)), .val (.int (p3.toInt8.toInt32)), .val (.ref b5), .val (.int (0 : Int32)), .val (.int (((p1.toInt8.toInt32) + (1 : Int32)).toInt8.toInt32)), .val (.int (p2.toInt8.toInt32)), .val (.int (p3.toInt8.toInt32)), .val (.ref r), .val (.ref b5), .val (.ref ub)] [(.int (p2.toInt8.toInt32)), (.int (p1.toInt8.toInt32)), (.int (3 : Int32)), (.ref b5)])) _
    refine XS.iload X12.here hx rfl (hb hby at_202) rfl ?_
    show Steps p.tables e below (T12.setTop (mkF m 204 #[.val (.int p1), .val (.int p2), .val (.int p3), .val (.int p4), .val (.int (3 : Int32)), .val (.int (p1.toInt8.toInt32)), .val (.int (p2.toInt8.toInt32)), .val (.int (p3.toInt8.toInt32)), .val (.ref b5), .val (.int (0 : Int32)), .val (.int (((p1.toInt8.toInt32) + (1 : Int32)).toInt8.toInt32)), .val (.int (p2.toInt8.toInt32)), .val (.int (p3.toInt8.toInt32)), .val (.ref r), .val (.ref b5), .val (.ref ub)] [(.int (p3.toInt8.toInt32)), (.int (p2.toInt8.toInt32)), (.int (p1.toInt8.toInt32)), (.int (3 : Int32)), (.ref b5)])) _
    refine st13 _ ?_
    show Steps p.tables e below (T13.setTop (mkF m 207 #[.val (.int p1), .val (.int p2), .val (.int p3), .val (.int p4), .val (.int (3 : Int32)), .val (.int (p1.toInt8.toInt32)), .val (.int (p2.toInt8.toInt32)), .val (.int (p3.toInt8.toInt32)), .val (.ref b5), .val (.int (0 : Int32)), .val (.int (((p1.toInt8.toInt32) + (1 : Int32)).toInt8.toInt32)), .val (.int (p2.toInt8.toInt32)), .val (.int (p3.toInt8.toInt32)), .val (.ref r), .val (.ref b5), .val (.ref ub)] [(.int (1 : Int32))])) _
    refine XS.ifNo X13.here hx rfl (hb hby at_207) rfl ((if0 _ _).trans (feq (by decide : ¬ ((1 : Int32) = (0 : Int32)))).1) ?_
    show Steps p.tables e below (T13.setTop (mkF m 210 #[.val (.int p1), .val (.int p2), .val (.int p3), .val (.int p4), .val (.int (3 : Int32)), .val (.int (p1.toInt8.toInt32)), .val (.int (p2.toInt8.toInt32)), .val (.int (p3.toInt8.toInt32)), .val (.ref b5), .val (.int (0 : Int32)), .val (.int (((p1.toInt8.toInt32) + (1 : Int32)).toInt8.toInt32)), .val (.int (p2.toInt8.toInt32)), .val (.int (p3.toInt8.toInt32)), .val (.ref r), .val (.ref b5), .val (.ref ub)] [])) _
    refine XS.aload X13.here hx rfl (hb hby at_210) rfl rfl ?_
    show Steps p.tables e below (T13.setTop (mkF m 212 #[.val (.int p1), .val (.int p2), .val (.int p3), .val (.int p4), .val (.int (3 : Int32)), .val (.int (p1.toInt8.toInt32)), .val (.int (p2.toInt8.toInt32)), .val (.int (p3.toInt8.toInt32)), .val (.ref b5), .val (.int (0 : Int32)), .val (.int (((p1.toInt8.toInt32) + (1 : Int32)).toInt8.toInt32)), .val (.int (p2.toInt8.toInt32)), .val (.int (p3.toInt8.toInt32)), .val (.ref r), .val (.ref b5), .val (.ref ub)] [(.ref ub)])) _
    refine XS.iload X13.here hx rfl (hb hby at_212) rfl ?_
    show Steps p.tables e below (T13.setTop (mkF m 214 #[.val (.int p1), .val (.int p2), .val (.int p3), .val (.int p4), .val (.int (3 : Int32)), .val (.int (p1.toInt8.toInt32)), .val (.int (p2.toInt8.toInt32)), .val (.int (p3.toInt8.toInt32)), .val (.ref b5), .val (.int (0 : Int32)), .val (.int (((p1.toInt8.toInt32) + (1 : Int32)).toInt8.toInt32)), .val (.int (p2.toInt8.toInt32)), .val (.int (p3.toInt8.toInt32)), .val (.ref r), .val (.ref b5), .val (.ref ub)] [(.int (0 : Int32)), (.ref ub)])) _
    refine XS.iconst X13.here hx rfl (hb hby at_214) ?_
    show Steps p.tables e below (T13.setTop (mkF m 215 #[.val (.int p1), .val (.int p2), .val (.int p3), .val (.int p4), .val (.int (3 : Int32)), .val (.int (p1.toInt8.toInt32)), .val (.int (p2.toInt8.toInt32)), .val (.int (p3.toInt8.toInt32)), .val (.ref b5), .val (.int (0 : Int32)), .val (.int (((p1.toInt8.toInt32) + (1 : Int32)).toInt8.toInt32)), .val (.int (p2.toInt8.toInt32)), .val (.int (p3.toInt8.toInt32)), .val (.ref r), .val (.ref b5), .val (.ref ub)] [(.int (1 : Int32)), (.int (0 : Int32)), (.ref ub)])) _
    refine XS.iadd X13.here hx rfl (hb hby at_215) rfl ?_
    show Steps p.tables e below (T13.setTop (mkF m 216 #[.val (.int p1), .val (.int p2), .val (.int p3), .val (.int p4), .val (.int (3 : Int32)), .val (.int (p1.toInt8.toInt32)), .val (.int (p2.toInt8.toInt32)), .val (.int (p3.toInt8.toInt32)), .val (.ref b5), .val (.int (0 : Int32)), .val (.int (((p1.toInt8.toInt32) + (1 : Int32)).toInt8.toInt32)), .val (.int (p2.toInt8.toInt32)), .val (.int (p3.toInt8.toInt32)), .val (.ref r), .val (.ref b5), .val (.ref ub)] [(.int ((0 : Int32) + (1 : Int32))), (.ref ub)])) _
    refine XS.iload X13.here hx rfl (hb hby at_216) rfl ?_
    show Steps p.tables e below (T13.setTop (mkF m 218 #[.val (.int p1), .val (.int p2), .val (.int p3), .val (.int p4), .val (.int (3 : Int32)), .val (.int (p1.toInt8.toInt32)), .val (.int (p2.toInt8.toInt32)), .val (.int (p3.toInt8.toInt32)), .val (.ref b5), .val (.int (0 : Int32)), .val (.int (((p1.toInt8.toInt32) + (1 : Int32)).toInt8.toInt32)), .val (.int (p2.toInt8.toInt32)), .val (.int (p3.toInt8.toInt32)), .val (.ref r), .val (.ref b5), .val (.ref ub)] [(.int (((p1.toInt8.toInt32) + (1 : Int32)).toInt8.toInt32)), (.int ((0 : Int32) + (1 : Int32))), (.ref ub)])) _
    refine XS.iload X13.here hx rfl (hb hby at_218) rfl ?_
    show Steps p.tables e below (T13.setTop (mkF m 220 #[.val (.int p1), .val (.int p2), .val (.int p3), .val (.int p4), .val (.int (3 : Int32)), .val (.int (p1.toInt8.toInt32)), .val (.int (p2.toInt8.toInt32)), .val (.int (p3.toInt8.toInt32)), .val (.ref b5), .val (.int (0 : Int32)), .val (.int (((p1.toInt8.toInt32) + (1 : Int32)).toInt8.toInt32)), .val (.int (p2.toInt8.toInt32)), .val (.int (p3.toInt8.toInt32)), .val (.ref r), .val (.ref b5), .val (.ref ub)] [(.int (p2.toInt8.toInt32)), (.int (((p1.toInt8.toInt32) + (1 : Int32)).toInt8.toInt32)), (.int ((0 : Int32) + (1 : Int32))), (.ref ub)])) _
    refine XS.iload X13.here hx rfl (hb hby at_220) rfl ?_
    show Steps p.tables e below (T13.setTop (mkF m 222 #[.val (.int p1), .val (.int p2), .val (.int p3), .val (.int p4), .val (.int (3 : Int32)), .val (.int (p1.toInt8.toInt32)), .val (.int (p2.toInt8.toInt32)), .val (.int (p3.toInt8.toInt32)), .val (.ref b5), .val (.int (0 : Int32)), .val (.int (((p1.toInt8.toInt32) + (1 : Int32)).toInt8.toInt32)), .val (.int (p2.toInt8.toInt32)), .val (.int (p3.toInt8.toInt32)), .val (.ref r), .val (.ref b5), .val (.ref ub)] [(.int (p3.toInt8.toInt32)), (.int (p2.toInt8.toInt32)), (.int (((p1.toInt8.toInt32) + (1 : Int32)).toInt8.toInt32)), (.int ((0 : Int32) + (1 : Int32))), (.ref ub)])) _
    refine st14 _ ?_
    show Steps p.tables e below (T14.setTop (mkF m 225 #[.val (.int p1), .val (.int p2), .val (.int p3), .val (.int p4), .val (.int (3 : Int32)), .val (.int (p1.toInt8.toInt32)), .val (.int (p2.toInt8.toInt32)), .val (.int (p3.toInt8.toInt32)), .val (.ref b5), .val (.int (0 : Int32)), .val (.int (((p1.toInt8.toInt32) + (1 : Int32)).toInt8.toInt32)), .val (.int (p2.toInt8.toInt32)), .val (.int (p3.toInt8.toInt32)), .val (.ref r), .val (.ref b5), .val (.ref ub)] [(.int (1 : Int32))])) _
    refine XS.ifNo X14.here hx rfl (hb hby at_225) rfl ((if0 _ _).trans (feq (by decide : ¬ ((1 : Int32) = (0 : Int32)))).1) ?_
    show Steps p.tables e below (T14.setTop (mkF m 228 #[.val (.int p1), .val (.int p2), .val (.int p3), .val (.int p4), .val (.int (3 : Int32)), .val (.int (p1.toInt8.toInt32)), .val (.int (p2.toInt8.toInt32)), .val (.int (p3.toInt8.toInt32)), .val (.ref b5), .val (.int (0 : Int32)), .val (.int (((p1.toInt8.toInt32) + (1 : Int32)).toInt8.toInt32)), .val (.int (p2.toInt8.toInt32)), .val (.int (p3.toInt8.toInt32)), .val (.ref r), .val (.ref b5), .val (.ref ub)] [])) _
    refine XS.iconst X14.here hx rfl (hb hby at_228) ?_
    show Steps p.tables e below (T14.setTop (mkF m 229 #[.val (.int p1), .val (.int p2), .val (.int p3), .val (.int p4), .val (.int (3 : Int32)), .val (.int (p1.toInt8.toInt32)), .val (.int (p2.toInt8.toInt32)), .val (.int (p3.toInt8.toInt32)), .val (.ref b5), .val (.int (0 : Int32)), .val (.int (((p1.toInt8.toInt32) + (1 : Int32)).toInt8.toInt32)), .val (.int (p2.toInt8.toInt32)), .val (.int (p3.toInt8.toInt32)), .val (.ref r), .val (.ref b5), .val (.ref ub)] [(.int (1 : Int32))])) _
    refine XS.goto X14.here hx rfl (pc0 := 229) (pc' := 233) rfl (hb hby at_229) (by decide) (by decide) ?_
    show Steps p.tables e below (T14.setTop (mkF m 233 #[.val (.int p1), .val (.int p2), .val (.int p3), .val (.int p4), .val (.int (3 : Int32)), .val (.int (p1.toInt8.toInt32)), .val (.int (p2.toInt8.toInt32)), .val (.int (p3.toInt8.toInt32)), .val (.ref b5), .val (.int (0 : Int32)), .val (.int (((p1.toInt8.toInt32) + (1 : Int32)).toInt8.toInt32)), .val (.int (p2.toInt8.toInt32)), .val (.int (p3.toInt8.toInt32)), .val (.ref r), .val (.ref b5), .val (.ref ub)] [(.int (1 : Int32))])) _
    exact retN X14 hx (t := .boolean) Bd.returns (by simp) (hb hby at_233) hr
  · show Q0 h0 n0 _ T14.heap _
    exact ⟨rfl, N14⟩

set_option maxRecDepth 65536 in
set_option maxHeartbeats 40000000 in
theorem rm0_1r (l : Launch) (Z : State) (a0 : Array Value) (hw : ∀ d ∈ tables_1, d.before a0 Z = true) (ws : List Jvm.Cond) (p1 : Int32) (p2 : Int32) (p3 : Int32) (p4 : Int32) (h0 : Heap) (n0 : Nat) (Z0 : n0 ≤ h0.size) (hlen : ((1 : Int32) + ((p4 &&& (3 : Int32)) % (3 : Int32))) = (1 : Int32)) (m0 : (p1.toInt8.toInt32) = (-1 : Int32)) :
    MetFree l x (head1 (Jvm.Cond.code x code maxLocals ret :: ws) room_1) (fun a U => a = #[(.int p1), (.int p2), (.int p3), (.int p4)] ∧ Z.Warmed39 U.vm ∧ U.heap = h0) (fun _ _ _ _ _ => True) (fun _ U o U' => ∃ v L, o = .returned v ∧ Q0 h0 n0 v U'.heap L ∧ FrameEnd U o U' L room_1.cells room_1.slots) := by
  refine MetFree.of_bodySF (plainFor_of_name pn_0) hisR ?_
  intro p e s m args below meth c s₁ Bd hml0 hP hK
  obtain ⟨rfl, hZ, hh⟩ := hP
  have hx := Bd.exec
  have hby := Bd.bytes
  have hml : c.maxLocals = 16 := hml0
  have hown : s.vm.findClass "com/example/coord2/coord2/KeyRangePrefixPinLaw" = some m.cls := findClass_of_methodNamed Bd.named
  have hnm := (name_of_methodNamed Bd.named Bd.method).1
  have X0 : Stand p l e room_1 s m #[(.int p1), (.int p2), (.int p3), (.int p4)] below meth c s₁ [] 0 0 := Stand.of_body Bd
  have e0 : s₁.heap = h0 := by rw [← hh, Bd.state]; rfl
  have N0 := Fr.nil n0
  have pre0 : ∀ t, Steps p.tables e below (s₁.setTop (mkF m 0 #[.val (.int p1), .val (.int p2), .val (.int p3), .val (.int p4), .unset, .unset, .unset, .unset, .unset, .unset, .unset, .unset, .unset, .unset, .unset, .unset] [])) t → Steps p.tables e below (s₁.setTop (entryFrame m #[(.int p1), (.int p2), (.int p3), (.int p4)] maxLocals)) t := fun t k => castTop (ef_0 m p1 p2 p3 p4) k
  obtain ⟨T5, h5, k5, X5, e5, E5, A5, EA5, st5⟩ := newPE X0 hx hZ (hw _ (List.mem_of_getElem? (i := 0) rfl)) e0 (g := (mkF m 23 #[.val (.int p1), .val (.int p2), .val (.int p3), .val (.int p4), .val (.int (1 : Int32)), .val (.int (p1.toInt8.toInt32)), .val (.int (p2.toInt8.toInt32)), .val (.int (p3.toInt8.toInt32)), .unset, .unset, .unset, .unset, .unset, .unset, .unset, .unset] [(.int (1 : Int32))])) rfl (hb hby at_23) rfl (by decide) (cap := 3) (by decide) (by decide) (by decide) (by decide) (ad := "[B") rfl
  obtain ⟨b5, g5⟩ : ∃ z, z = h0.size := ⟨_, rfl⟩
  rw [← g5] at A5 EA5 st5
  have V_b5 : Arv Z h5 b5 k5 .byte (1 : Int32) [(.int (0 : Int32))] (.int (0 : Int32)) := (Arv.new A5 (by decide)).pad (pad_rep [] (.int (0 : Int32)) 1)
  have g_b5 : n0 ≤ b5 := Nat.le_trans Z0 (Nat.le_of_eq g5.symm)
  have sz_b5 : h0.size ≤ b5 := (Nat.le_trans (Keep.refl h0 []).1 (Nat.le_of_eq g5.symm))
  have K5 : Keep h0 h5 [] := (Keep.refl h0 []).ext E5
  obtain ⟨cl_b5_32, Ar_b5, q_b5, S_b5, N_b5, H_b5, G_b5⟩ := V_b5
  have hin32 : ¬ ((0 : Int32) < 0 ∨ cl_b5_32.slots.size ≤ ((0 : Int32)).toNatClampNeg) := inb_of S_b5 ⟨by decide, by decide⟩
  obtain ⟨T6, h6, X6, e6, W6, st6⟩ := stB X5 hx hZ e5 Ar_b5 (j := (0 : Int32)) hin32 (g := (mkF m 32 #[.val (.int p1), .val (.int p2), .val (.int p3), .val (.int p4), .val (.int (1 : Int32)), .val (.int (p1.toInt8.toInt32)), .val (.int (p2.toInt8.toInt32)), .val (.int (p3.toInt8.toInt32)), .val (.ref b5), .unset, .unset, .unset, .unset, .unset, .unset, .unset] [(.int (p1.toInt8.toInt32)), (.int (0 : Int32)), (.ref b5)])) rfl rfl (hb hby at_32)
  have V_b5_6 := Arv.set Ar_b5 q_b5 S_b5 N_b5 H_b5 G_b5 (fits_nar_byte _) W6 0 rfl (Nat.le_of_ble_eq_true rfl)
  have K6 : Keep h0 h6 [] := K5.wr W6 (Or.inr sz_b5)
  have N6 := Fr.snoc X6 N0 g_b5
  obtain ⟨fs, hr, hrun, hended, hW, hsame⟩ := X6.leave (v := some (.int (1 : Int32))) (fun h => by rw [Bd.returns] at h; cases h)
  refine ⟨_, _, pre0 _ ?_, hrun, hended, _, _, rfl, ?_, ⟨_, rfl⟩, hW, hsame.mono (by decide) (by decide)⟩
  · show Steps p.tables e below (s₁.setTop (mkF m 0 #[.val (.int p1), .val (.int p2), .val (.int p3), .val (.int p4), .unset, .unset, .unset, .unset, .unset, .unset, .unset, .unset, .unset, .unset, .unset, .unset] [])) _
    refine XS.iconst X0.here hx rfl (hb hby at_0) ?_
    show Steps p.tables e below (s₁.setTop (mkF m 1 #[.val (.int p1), .val (.int p2), .val (.int p3), .val (.int p4), .unset, .unset, .unset, .unset, .unset, .unset, .unset, .unset, .unset, .unset, .unset, .unset] [(.int (1 : Int32))])) _
    refine XS.iloadN X0.here hx rfl (hb hby at_1) rfl ?_
    show Steps p.tables e below (s₁.setTop (mkF m 2 #[.val (.int p1), .val (.int p2), .val (.int p3), .val (.int p4), .unset, .unset, .unset, .unset, .unset, .unset, .unset, .unset, .unset, .unset, .unset, .unset] [(.int p4), (.int (1 : Int32))])) _
    refine XS.iconst X0.here hx rfl (hb hby at_2) ?_
    show Steps p.tables e below (s₁.setTop (mkF m 3 #[.val (.int p1), .val (.int p2), .val (.int p3), .val (.int p4), .unset, .unset, .unset, .unset, .unset, .unset, .unset, .unset, .unset, .unset, .unset, .unset] [(.int (3 : Int32)), (.int p4), (.int (1 : Int32))])) _
    refine XS.iand X0.here hx rfl (hb hby at_3) rfl ?_
    show Steps p.tables e below (s₁.setTop (mkF m 4 #[.val (.int p1), .val (.int p2), .val (.int p3), .val (.int p4), .unset, .unset, .unset, .unset, .unset, .unset, .unset, .unset, .unset, .unset, .unset, .unset] [(.int (p4 &&& (3 : Int32))), (.int (1 : Int32))])) _
    refine XS.iconst X0.here hx rfl (hb hby at_4) ?_
    show Steps p.tables e below (s₁.setTop (mkF m 5 #[.val (.int p1), .val (.int p2), .val (.int p3), .val (.int p4), .unset, .unset, .unset, .unset, .unset, .unset, .unset, .unset, .unset, .unset, .unset, .unset] [(.int (3 : Int32)), (.int (p4 &&& (3 : Int32))), (.int (1 : Int32))])) _
    refine iremM X0 hx rfl (hb hby at_5) rfl (by decide) ?_
    show Steps p.tables e below (s₁.setTop (mkF m 6 #[.val (.int p1), .val (.int p2), .val (.int p3), .val (.int p4), .unset, .unset, .unset, .unset, .unset, .unset, .unset, .unset, .unset, .unset, .unset, .unset] [(.int ((p4 &&& (3 : Int32)) % (3 : Int32))), (.int (1 : Int32))])) _
    refine XS.iadd X0.here hx rfl (hb hby at_6) rfl ?_
    show Steps p.tables e below (s₁.setTop (mkF m 7 #[.val (.int p1), .val (.int p2), .val (.int p3), .val (.int p4), .unset, .unset, .unset, .unset, .unset, .unset, .unset, .unset, .unset, .unset, .unset, .unset] [(.int ((1 : Int32) + ((p4 &&& (3 : Int32)) % (3 : Int32))))])) _
    rw [hlen]
    refine XS.istore X0.here hx rfl (hb hby at_7) rfl (l' := #[.val (.int p1), .val (.int p2), .val (.int p3), .val (.int p4), .val (.int (1 : Int32)), .unset, .unset, .unset, .unset, .unset, .unset, .unset, .unset, .unset, .unset, .unset]) rfl ?_
    show Steps p.tables e below (s₁.setTop (mkF m 9 #[.val (.int p1), .val (.int p2), .val (.int p3), .val (.int p4), .val (.int (1 : Int32)), .unset, .unset, .unset, .unset, .unset, .unset, .unset, .unset, .unset, .unset, .unset] [])) _
    refine XS.iloadN X0.here hx rfl (hb hby at_9) rfl ?_
    show Steps p.tables e below (s₁.setTop (mkF m 10 #[.val (.int p1), .val (.int p2), .val (.int p3), .val (.int p4), .val (.int (1 : Int32)), .unset, .unset, .unset, .unset, .unset, .unset, .unset, .unset, .unset, .unset, .unset] [(.int p1)])) _
    refine XS.i2b X0.here hx rfl (hb hby at_10) rfl ?_
    show Steps p.tables e below (s₁.setTop (mkF m 11 #[.val (.int p1), .val (.int p2), .val (.int p3), .val (.int p4), .val (.int (1 : Int32)), .unset, .unset, .unset, .unset, .unset, .unset, .unset, .unset, .unset, .unset, .unset] [(.int (p1.toInt8.toInt32))])) _
    refine XS.istore X0.here hx rfl (hb hby at_11) rfl (l' := #[.val (.int p1), .val (.int p2), .val (.int p3), .val (.int p4), .val (.int (1 : Int32)), .val (.int (p1.toInt8.toInt32)), .unset, .unset, .unset, .unset, .unset, .unset, .unset, .unset, .unset, .unset]) rfl ?_
    show Steps p.tables e below (s₁.setTop (mkF m 13 #[.val (.int p1), .val (.int p2), .val (.int p3), .val (.int p4), .val (.int (1 : Int32)), .val (.int (p1.toInt8.toInt32)), .unset, .unset, .unset, .unset, .unset, .unset, .unset, .unset, .unset, .unset] [])) _
    refine XS.iloadN X0.here hx rfl (hb hby at_13) rfl ?_
    show Steps p.tables e below (s₁.setTop (mkF m 14 #[.val (.int p1), .val (.int p2), .val (.int p3), .val (.int p4), .val (.int (1 : Int32)), .val (.int (p1.toInt8.toInt32)), .unset, .unset, .unset, .unset, .unset, .unset, .unset, .unset, .unset, .unset] [(.int p2)])) _
    refine XS.i2b X0.here hx rfl (hb hby at_14) rfl ?_
    show Steps p.tables e below (s₁.setTop (mkF m 15 #[.val (.int p1), .val (.int p2), .val (.int p3), .val (.int p4), .val (.int (1 : Int32)), .val (.int (p1.toInt8.toInt32)), .unset, .unset, .unset, .unset, .unset, .unset, .unset, .unset, .unset, .unset] [(.int (p2.toInt8.toInt32))])) _
    refine XS.istore X0.here hx rfl (hb hby at_15) rfl (l' := #[.val (.int p1), .val (.int p2), .val (.int p3), .val (.int p4), .val (.int (1 : Int32)), .val (.int (p1.toInt8.toInt32)), .val (.int (p2.toInt8.toInt32)), .unset, .unset, .unset, .unset, .unset, .unset, .unset, .unset, .unset]) rfl ?_
    show Steps p.tables e below (s₁.setTop (mkF m 17 #[.val (.int p1), .val (.int p2), .val (.int p3), .val (.int p4), .val (.int (1 : Int32)), .val (.int (p1.toInt8.toInt32)), .val (.int (p2.toInt8.toInt32)), .unset, .unset, .unset, .unset, .unset, .unset, .unset, .unset, .unset] [])) _
    refine XS.iloadN X0.here hx rfl (hb hby at_17) rfl ?_
    show Steps p.tables e below (s₁.setTop (mkF m 18 #[.val (.int p1), .val (.int p2), .val (.int p3), .val (.int p4), .val (.int (1 : Int32)), .val (.int (p1.toInt8.toInt32)), .val (.int (p2.toInt8.toInt32)), .unset, .unset, .unset, .unset, .unset, .unset, .unset, .unset, .unset] [(.int p3)])) _
    refine XS.i2b X0.here hx rfl (hb hby at_18) rfl ?_
    show Steps p.tables e below (s₁.setTop (mkF m 19 #[.val (.int p1), .val (.int p2), .val (.int p3), .val (.int p4), .val (.int (1 : Int32)), .val (.int (p1.toInt8.toInt32)), .val (.int (p2.toInt8.toInt32)), .unset, .unset, .unset, .unset, .unset, .unset, .unset, .unset, .unset] [(.int (p3.toInt8.toInt32))])) _
    refine XS.istore X0.here hx rfl (hb hby at_19) rfl (l' := #[.val (.int p1), .val (.int p2), .val (.int p3), .val (.int p4), .val (.int (1 : Int32)), .val (.int (p1.toInt8.toInt32)), .val (.int (p2.toInt8.toInt32)), .val (.int (p3.toInt8.toInt32)), .unset, .unset, .unset, .unset, .unset, .unset, .unset, .unset]) rfl ?_
    show Steps p.tables e below (s₁.setTop (mkF m 21 #[.val (.int p1), .val (.int p2), .val (.int p3), .val (.int p4), .val (.int (1 : Int32)), .val (.int (p1.toInt8.toInt32)), .val (.int (p2.toInt8.toInt32)), .val (.int (p3.toInt8.toInt32)), .unset, .unset, .unset, .unset, .unset, .unset, .unset, .unset] [])) _
    refine XS.iload X0.here hx rfl (hb hby at_21) rfl ?_
    show Steps p.tables e below (s₁.setTop (mkF m 23 #[.val (.int p1), .val (.int p2), .val (.int p3), .val (.int p4), .val (.int (1 : Int32)), .val (.int (p1.toInt8.toInt32)), .val (.int (p2.toInt8.toInt32)), .val (.int (p3.toInt8.toInt32)), .unset, .unset, .unset, .unset, .unset, .unset, .unset, .unset] [(.int (1 : Int32))])) _
    refine st5 _ ?_
    show Steps p.tables e below (T5.setTop (mkF m 25 #[.val (.int p1), .val (.int p2), .val (.int p3), .val (.int p4), .val (.int (1 : Int32)), .val (.int (p1.toInt8.toInt32)), .val (.int (p2.toInt8.toInt32)), .val (.int (p3.toInt8.toInt32)), .unset, .unset, .unset, .unset, .unset, .unset, .unset, .unset] [(.ref b5)])) _
    refine XS.astore X5.here hx rfl (hb hby at_25) rfl rfl (l' := #[.val (.int p1), .val (.int p2), .val (.int p3), .val (.int p4), .val (.int (1 : Int32)), .val (.int (p1.toInt8.toInt32)), .val (.int (p2.toInt8.toInt32)), .val (.int (p3.toInt8.toInt32)), .val (.ref b5), .unset, .unset, .unset, .unset, .unset, .unset, .unset]) rfl ?_
    show Steps p.tables e below (T5.setTop (mkF m 27 #[.val (.int p1), .val (.int p2), .val (.int p3), .val (.int p4), .val (.int (1 : Int32)), .val (.int (p1.toInt8.toInt32)), .val (.int (p2.toInt8.toInt32)), .val (.int (p3.toInt8.toInt32)), .val (.ref b5), .unset, .unset, .unset, .unset, .unset, .unset, .unset] [])) _
    refine XS.aload X5.here hx rfl (hb hby at_27) rfl rfl ?_
    show Steps p.tables e below (T5.setTop (mkF m 29 #[.val (.int p1), .val (.int p2), .val (.int p3), .val (.int p4), .val (.int (1 : Int32)), .val (.int (p1.toInt8.toInt32)), .val (.int (p2.toInt8.toInt32)), .val (.int (p3.toInt8.toInt32)), .val (.ref b5), .unset, .unset, .unset, .unset, .unset, .unset, .unset] [(.ref b5)])) _
    refine XS.iconst X5.here hx rfl (hb hby at_29) ?_
    show Steps p.tables e below (T5.setTop (mkF m 30 #[.val (.int p1), .val (.int p2), .val (.int p3), .val (.int p4), .val (.int (1 : Int32)), .val (.int (p1.toInt8.toInt32)), .val (.int (p2.toInt8.toInt32)), .val (.int (p3.toInt8.toInt32)), .val (.ref b5), .unset, .unset, .unset, .unset, .unset, .unset, .unset] [(.int (0 : Int32)), (.ref b5)])) _
    refine XS.iload X5.here hx rfl (hb hby at_30) rfl ?_
    show Steps p.tables e below (T5.setTop (mkF m 32 #[.val (.int p1), .val (.int p2), .val (.int p3), .val (.int p4), .val (.int (1 : Int32)), .val (.int (p1.toInt8.toInt32)), .val (.int (p2.toInt8.toInt32)), .val (.int (p3.toInt8.toInt32)), .val (.ref b5), .unset, .unset, .unset, .unset, .unset, .unset, .unset] [(.int (p1.toInt8.toInt32)), (.int (0 : Int32)), (.ref b5)])) _
    refine st6 _ ?_
    show Steps p.tables e below (T6.setTop (mkF m 33 #[.val (.int p1), .val (.int p2), .val (.int p3), .val (.int p4), .val (.int (1 : Int32)), .val (.int (p1.toInt8.toInt32)), .val (.int (p2.toInt8.toInt32)), .val (.int (p3.toInt8.toInt32)), .val (.ref b5), .unset, .unset, .unset, .unset, .unset, .unset, .unset] [])) _
    refine XS.iload X6.here hx rfl (hb hby at_33) rfl ?_
    show Steps p.tables e below (T6.setTop (mkF m 35 #[.val (.int p1), .val (.int p2), .val (.int p3), .val (.int p4), .val (.int (1 : Int32)), .val (.int (p1.toInt8.toInt32)), .val (.int (p2.toInt8.toInt32)), .val (.int (p3.toInt8.toInt32)), .val (.ref b5), .unset, .unset, .unset, .unset, .unset, .unset, .unset] [(.int (1 : Int32))])) _
    refine XS.iconst X6.here hx rfl (hb hby at_35) ?_
    show Steps p.tables e below (T6.setTop (mkF m 36 #[.val (.int p1), .val (.int p2), .val (.int p3), .val (.int p4), .val (.int (1 : Int32)), .val (.int (p1.toInt8.toInt32)), .val (.int (p2.toInt8.toInt32)), .val (.int (p3.toInt8.toInt32)), .val (.ref b5), .unset, .unset, .unset, .unset, .unset, .unset, .unset] [(.int (1 : Int32)), (.int (1 : Int32))])) _
    refine XS.icmpYes X6.here hx rfl (pc0 := 36) (pc' := 45) rfl (hb hby at_36) rfl (flt (by decide)).2.2.2 (by decide) (by decide) ?_
    show Steps p.tables e below (T6.setTop (mkF m 45 #[.val (.int p1), .val (.int p2), .val (.int p3), .val (.int p4), .val (.int (1 : Int32)), .val (.int (p1.toInt8.toInt32)), .val (.int (p2.toInt8.toInt32)), .val (.int (p3.toInt8.toInt32)), .val (.ref b5), .unset, .unset, .unset, .unset, .unset, .unset, .unset] [])) _
    refine XS.iload X6.here hx rfl (hb hby at_45) rfl ?_
    show Steps p.tables e below (T6.setTop (mkF m 47 #[.val (.int p1), .val (.int p2), .val (.int p3), .val (.int p4), .val (.int (1 : Int32)), .val (.int (p1.toInt8.toInt32)), .val (.int (p2.toInt8.toInt32)), .val (.int (p3.toInt8.toInt32)), .val (.ref b5), .unset, .unset, .unset, .unset, .unset, .unset, .unset] [(.int (1 : Int32))])) _
    refine XS.iconst X6.here hx rfl (hb hby at_47) ?_
    show Steps p.tables e below (T6.setTop (mkF m 48 #[.val (.int p1), .val (.int p2), .val (.int p3), .val (.int p4), .val (.int (1 : Int32)), .val (.int (p1.toInt8.toInt32)), .val (.int (p2.toInt8.toInt32)), .val (.int (p3.toInt8.toInt32)), .val (.ref b5), .unset, .unset, .unset, .unset, .unset, .unset, .unset] [(.int (2 : Int32)), (.int (1 : Int32))])) _
    refine XS.icmpYes X6.here hx rfl (pc0 := 48) (pc' := 57) rfl (hb hby at_48) rfl (flt (by decide)).2.2.2 (by decide) (by decide) ?_
    show Steps p.tables e below (T6.setTop (mkF m 57 #[.val (.int p1), .val (.int p2), .val (.int p3), .val (.int p4), .val (.int (1 : Int32)), .val (.int (p1.toInt8.toInt32)), .val (.int (p2.toInt8.toInt32)), .val (.int (p3.toInt8.toInt32)), .val (.ref b5), .unset, .unset, .unset, .unset, .unset, .unset, .unset] [])) _
    refine XS.iload X6.here hx rfl (hb hby at_57) rfl ?_
    show Steps p.tables e below (T6.setTop (mkF m 59 #[.val (.int p1), .val (.int p2), .val (.int p3), .val (.int p4), .val (.int (1 : Int32)), .val (.int (p1.toInt8.toInt32)), .val (.int (p2.toInt8.toInt32)), .val (.int (p3.toInt8.toInt32)), .val (.ref b5), .unset, .unset, .unset, .unset, .unset, .unset, .unset] [(.int (1 : Int32))])) _
    refine XS.iconst X6.here hx rfl (hb hby at_59) ?_
    show Steps p.tables e below (T6.setTop (mkF m 60 #[.val (.int p1), .val (.int p2), .val (.int p3), .val (.int p4), .val (.int (1 : Int32)), .val (.int (p1.toInt8.toInt32)), .val (.int (p2.toInt8.toInt32)), .val (.int (p3.toInt8.toInt32)), .val (.ref b5), .unset, .unset, .unset, .unset, .unset, .unset, .unset] [(.int (3 : Int32)), (.int (1 : Int32))])) _
    refine XS.icmpYes X6.here hx rfl (pc0 := 60) (pc' := 75) rfl (hb hby at_60) rfl (feq (by decide)).2 (by decide) (by decide) ?_
    show Steps p.tables e below (T6.setTop (mkF m 75 #[.val (.int p1), .val (.int p2), .val (.int p3), .val (.int p4), .val (.int (1 : Int32)), .val (.int (p1.toInt8.toInt32)), .val (.int (p2.toInt8.toInt32)), .val (.int (p3.toInt8.toInt32)), .val (.ref b5), .unset, .unset, .unset, .unset, .unset, .unset, .unset] [])) _
    refine XS.iload X6.here hx rfl (hb hby at_75) rfl ?_
    show Steps p.tables e below (T6.setTop (mkF m 77 #[.val (.int p1), .val (.int p2), .val (.int p3), .val (.int p4), .val (.int (1 : Int32)), .val (.int (p1.toInt8.toInt32)), .val (.int (p2.toInt8.toInt32)), .val (.int (p3.toInt8.toInt32)), .val (.ref b5), .unset, .unset, .unset, .unset, .unset, .unset, .unset] [(.int (1 : Int32))])) _
    refine XS.iconst X6.here hx rfl (hb hby at_77) ?_
    show Steps p.tables e below (T6.setTop (mkF m 78 #[.val (.int p1), .val (.int p2), .val (.int p3), .val (.int p4), .val (.int (1 : Int32)), .val (.int (p1.toInt8.toInt32)), .val (.int (p2.toInt8.toInt32)), .val (.int (p3.toInt8.toInt32)), .val (.ref b5), .unset, .unset, .unset, .unset, .unset, .unset, .unset] [(.int (2 : Int32)), (.int (1 : Int32))])) _
    refine XS.icmpYes X6.here hx rfl (pc0 := 78) (pc' := 93) rfl (hb hby at_78) rfl (tlt (by decide)).1 (by decide) (by decide) ?_
    show Steps p.tables e below (T6.setTop (mkF m 93 #[.val (.int p1), .val (.int p2), .val (.int p3), .val (.int p4), .val (.int (1 : Int32)), .val (.int (p1.toInt8.toInt32)), .val (.int (p2.toInt8.toInt32)), .val (.int (p3.toInt8.toInt32)), .val (.ref b5), .unset, .unset, .unset, .unset, .unset, .unset, .unset] [])) _
    refine XS.iload X6.here hx rfl (hb hby at_93) rfl ?_
    show Steps p.tables e below (T6.setTop (mkF m 95 #[.val (.int p1), .val (.int p2), .val (.int p3), .val (.int p4), .val (.int (1 : Int32)), .val (.int (p1.toInt8.toInt32)), .val (.int (p2.toInt8.toInt32)), .val (.int (p3.toInt8.toInt32)), .val (.ref b5), .unset, .unset, .unset, .unset, .unset, .unset, .unset] [(.int (p1.toInt8.toInt32))])) _
    refine XS.iconst X6.here hx rfl (hb hby at_95) ?_
    show Steps p.tables e below (T6.setTop (mkF m 96 #[.val (.int p1), .val (.int p2), .val (.int p3), .val (.int p4), .val (.int (1 : Int32)), .val (.int (p1.toInt8.toInt32)), .val (.int (p2.toInt8.toInt32)), .val (.int (p3.toInt8.toInt32)), .val (.ref b5), .unset, .unset, .unset, .unset, .unset, .unset, .unset] [(.int (-1 : Int32)), (.int (p1.toInt8.toInt32))])) _
    refine XS.icmpYes X6.here hx rfl (pc0 := 96) (pc' := 105) rfl (hb hby at_96) rfl (teq m0).1 (by decide) (by decide) ?_
    show Steps p.tables e below (T6.setTop (mkF m 105 #[.val (.int p1), .val (.int p2), .val (.int p3), .val (.int p4), .val (.int (1 : Int32)), .val (.int (p1.toInt8.toInt32)), .val (.int (p2.toInt8.toInt32)), .val (.int (p3.toInt8.toInt32)), .val (.ref b5), .unset, .unset, .unset, .unset, .unset, .unset, .unset] [])) _
    refine XS.iconst X6.here hx rfl (hb hby at_105) ?_
    show Steps p.tables e below (T6.setTop (mkF m 106 #[.val (.int p1), .val (.int p2), .val (.int p3), .val (.int p4), .val (.int (1 : Int32)), .val (.int (p1.toInt8.toInt32)), .val (.int (p2.toInt8.toInt32)), .val (.int (p3.toInt8.toInt32)), .val (.ref b5), .unset, .unset, .unset, .unset, .unset, .unset, .unset] [(.int (1 : Int32))])) _
    exact retN X6 hx (t := .boolean) Bd.returns (by simp) (hb hby at_106) hr
  · show Q0 h0 n0 _ T6.heap _
    rw [e6]
    exact ⟨rfl, N6⟩

set_option maxRecDepth 65536 in
set_option maxHeartbeats 40000000 in
theorem rm0_2r (l : Launch) (Z : State) (a0 : Array Value) (hw : ∀ d ∈ tables_1, d.before a0 Z = true) (ws : List Jvm.Cond) (p1 : Int32) (p2 : Int32) (p3 : Int32) (p4 : Int32) (h0 : Heap) (n0 : Nat) (Z0 : n0 ≤ h0.size) (hlen : ((1 : Int32) + ((p4 &&& (3 : Int32)) % (3 : Int32))) = (2 : Int32)) (m1 : (p2.toInt8.toInt32) = (-1 : Int32)) (m0 : (p1.toInt8.toInt32) = (-1 : Int32)) :
    MetFree l x (head1 (Jvm.Cond.code x code maxLocals ret :: ws) room_1) (fun a U => a = #[(.int p1), (.int p2), (.int p3), (.int p4)] ∧ Z.Warmed39 U.vm ∧ U.heap = h0) (fun _ _ _ _ _ => True) (fun _ U o U' => ∃ v L, o = .returned v ∧ Q0 h0 n0 v U'.heap L ∧ FrameEnd U o U' L room_1.cells room_1.slots) := by
  refine MetFree.of_bodySF (plainFor_of_name pn_0) hisR ?_
  intro p e s m args below meth c s₁ Bd hml0 hP hK
  obtain ⟨rfl, hZ, hh⟩ := hP
  have hx := Bd.exec
  have hby := Bd.bytes
  have hml : c.maxLocals = 16 := hml0
  have hown : s.vm.findClass "com/example/coord2/coord2/KeyRangePrefixPinLaw" = some m.cls := findClass_of_methodNamed Bd.named
  have hnm := (name_of_methodNamed Bd.named Bd.method).1
  have X0 : Stand p l e room_1 s m #[(.int p1), (.int p2), (.int p3), (.int p4)] below meth c s₁ [] 0 0 := Stand.of_body Bd
  have e0 : s₁.heap = h0 := by rw [← hh, Bd.state]; rfl
  have N0 := Fr.nil n0
  have pre0 : ∀ t, Steps p.tables e below (s₁.setTop (mkF m 0 #[.val (.int p1), .val (.int p2), .val (.int p3), .val (.int p4), .unset, .unset, .unset, .unset, .unset, .unset, .unset, .unset, .unset, .unset, .unset, .unset] [])) t → Steps p.tables e below (s₁.setTop (entryFrame m #[(.int p1), (.int p2), (.int p3), (.int p4)] maxLocals)) t := fun t k => castTop (ef_0 m p1 p2 p3 p4) k
  obtain ⟨T5, h5, k5, X5, e5, E5, A5, EA5, st5⟩ := newPE X0 hx hZ (hw _ (List.mem_of_getElem? (i := 0) rfl)) e0 (g := (mkF m 23 #[.val (.int p1), .val (.int p2), .val (.int p3), .val (.int p4), .val (.int (2 : Int32)), .val (.int (p1.toInt8.toInt32)), .val (.int (p2.toInt8.toInt32)), .val (.int (p3.toInt8.toInt32)), .unset, .unset, .unset, .unset, .unset, .unset, .unset, .unset] [(.int (2 : Int32))])) rfl (hb hby at_23) rfl (by decide) (cap := 3) (by decide) (by decide) (by decide) (by decide) (ad := "[B") rfl
  obtain ⟨b5, g5⟩ : ∃ z, z = h0.size := ⟨_, rfl⟩
  rw [← g5] at A5 EA5 st5
  have V_b5 : Arv Z h5 b5 k5 .byte (2 : Int32) [(.int (0 : Int32)), (.int (0 : Int32))] (.int (0 : Int32)) := (Arv.new A5 (by decide)).pad (pad_rep [] (.int (0 : Int32)) 2)
  have g_b5 : n0 ≤ b5 := Nat.le_trans Z0 (Nat.le_of_eq g5.symm)
  have sz_b5 : h0.size ≤ b5 := (Nat.le_trans (Keep.refl h0 []).1 (Nat.le_of_eq g5.symm))
  have K5 : Keep h0 h5 [] := (Keep.refl h0 []).ext E5
  obtain ⟨cl_b5_32, Ar_b5, q_b5, S_b5, N_b5, H_b5, G_b5⟩ := V_b5
  have hin32 : ¬ ((0 : Int32) < 0 ∨ cl_b5_32.slots.size ≤ ((0 : Int32)).toNatClampNeg) := inb_of S_b5 ⟨by decide, by decide⟩
  obtain ⟨T6, h6, X6, e6, W6, st6⟩ := stB X5 hx hZ e5 Ar_b5 (j := (0 : Int32)) hin32 (g := (mkF m 32 #[.val (.int p1), .val (.int p2), .val (.int p3), .val (.int p4), .val (.int (2 : Int32)), .val (.int (p1.toInt8.toInt32)), .val (.int (p2.toInt8.toInt32)), .val (.int (p3.toInt8.toInt32)), .val (.ref b5), .unset, .unset, .unset, .unset, .unset, .unset, .unset] [(.int (p1.toInt8.toInt32)), (.int (0 : Int32)), (.ref b5)])) rfl rfl (hb hby at_32)
  have V_b5_6 := Arv.set Ar_b5 q_b5 S_b5 N_b5 H_b5 G_b5 (fits_nar_byte _) W6 0 rfl (Nat.le_of_ble_eq_true rfl)
  have K6 : Keep h0 h6 [] := K5.wr W6 (Or.inr sz_b5)
  have N6 := Fr.snoc X6 N0 g_b5
  obtain ⟨cl_b5_44, Ar_b5, q_b5, S_b5, N_b5, H_b5, G_b5⟩ := V_b5_6
  have hin44 : ¬ ((1 : Int32) < 0 ∨ cl_b5_44.slots.size ≤ ((1 : Int32)).toNatClampNeg) := inb_of S_b5 ⟨by decide, by decide⟩
  obtain ⟨T7, h7, X7, e7, W7, st7⟩ := stB X6 hx hZ e6 Ar_b5 (j := (1 : Int32)) hin44 (g := (mkF m 44 #[.val (.int p1), .val (.int p2), .val (.int p3), .val (.int p4), .val (.int (2 : Int32)), .val (.int (p1.toInt8.toInt32)), .val (.int (p2.toInt8.toInt32)), .val (.int (p3.toInt8.toInt32)), .val (.ref b5), .unset, .unset, .unset, .unset, .unset, .unset, .unset] [(.int (p2.toInt8.toInt32)), (.int (1 : Int32)), (.ref b5)])) rfl rfl (hb hby at_44)
  have V_b5_7 := Arv.set Ar_b5 q_b5 S_b5 N_b5 H_b5 G_b5 (fits_nar_byte _) W7 1 rfl (Nat.le_of_ble_eq_true rfl)
  have K7 : Keep h0 h7 [] := K6.wr W7 (Or.inr sz_b5)
  have N7 := Fr.snoc X7 N6 g_b5
  obtain ⟨fs, hr, hrun, hended, hW, hsame⟩ := X7.leave (v := some (.int (1 : Int32))) (fun h => by rw [Bd.returns] at h; cases h)
  refine ⟨_, _, pre0 _ ?_, hrun, hended, _, _, rfl, ?_, ⟨_, rfl⟩, hW, hsame.mono (by decide) (by decide)⟩
  · show Steps p.tables e below (s₁.setTop (mkF m 0 #[.val (.int p1), .val (.int p2), .val (.int p3), .val (.int p4), .unset, .unset, .unset, .unset, .unset, .unset, .unset, .unset, .unset, .unset, .unset, .unset] [])) _
    refine XS.iconst X0.here hx rfl (hb hby at_0) ?_
    show Steps p.tables e below (s₁.setTop (mkF m 1 #[.val (.int p1), .val (.int p2), .val (.int p3), .val (.int p4), .unset, .unset, .unset, .unset, .unset, .unset, .unset, .unset, .unset, .unset, .unset, .unset] [(.int (1 : Int32))])) _
    refine XS.iloadN X0.here hx rfl (hb hby at_1) rfl ?_
    show Steps p.tables e below (s₁.setTop (mkF m 2 #[.val (.int p1), .val (.int p2), .val (.int p3), .val (.int p4), .unset, .unset, .unset, .unset, .unset, .unset, .unset, .unset, .unset, .unset, .unset, .unset] [(.int p4), (.int (1 : Int32))])) _
    refine XS.iconst X0.here hx rfl (hb hby at_2) ?_
    show Steps p.tables e below (s₁.setTop (mkF m 3 #[.val (.int p1), .val (.int p2), .val (.int p3), .val (.int p4), .unset, .unset, .unset, .unset, .unset, .unset, .unset, .unset, .unset, .unset, .unset, .unset] [(.int (3 : Int32)), (.int p4), (.int (1 : Int32))])) _
    refine XS.iand X0.here hx rfl (hb hby at_3) rfl ?_
    show Steps p.tables e below (s₁.setTop (mkF m 4 #[.val (.int p1), .val (.int p2), .val (.int p3), .val (.int p4), .unset, .unset, .unset, .unset, .unset, .unset, .unset, .unset, .unset, .unset, .unset, .unset] [(.int (p4 &&& (3 : Int32))), (.int (1 : Int32))])) _
    refine XS.iconst X0.here hx rfl (hb hby at_4) ?_
    show Steps p.tables e below (s₁.setTop (mkF m 5 #[.val (.int p1), .val (.int p2), .val (.int p3), .val (.int p4), .unset, .unset, .unset, .unset, .unset, .unset, .unset, .unset, .unset, .unset, .unset, .unset] [(.int (3 : Int32)), (.int (p4 &&& (3 : Int32))), (.int (1 : Int32))])) _
    refine iremM X0 hx rfl (hb hby at_5) rfl (by decide) ?_
    show Steps p.tables e below (s₁.setTop (mkF m 6 #[.val (.int p1), .val (.int p2), .val (.int p3), .val (.int p4), .unset, .unset, .unset, .unset, .unset, .unset, .unset, .unset, .unset, .unset, .unset, .unset] [(.int ((p4 &&& (3 : Int32)) % (3 : Int32))), (.int (1 : Int32))])) _
    refine XS.iadd X0.here hx rfl (hb hby at_6) rfl ?_
    show Steps p.tables e below (s₁.setTop (mkF m 7 #[.val (.int p1), .val (.int p2), .val (.int p3), .val (.int p4), .unset, .unset, .unset, .unset, .unset, .unset, .unset, .unset, .unset, .unset, .unset, .unset] [(.int ((1 : Int32) + ((p4 &&& (3 : Int32)) % (3 : Int32))))])) _
    rw [hlen]
    refine XS.istore X0.here hx rfl (hb hby at_7) rfl (l' := #[.val (.int p1), .val (.int p2), .val (.int p3), .val (.int p4), .val (.int (2 : Int32)), .unset, .unset, .unset, .unset, .unset, .unset, .unset, .unset, .unset, .unset, .unset]) rfl ?_
    show Steps p.tables e below (s₁.setTop (mkF m 9 #[.val (.int p1), .val (.int p2), .val (.int p3), .val (.int p4), .val (.int (2 : Int32)), .unset, .unset, .unset, .unset, .unset, .unset, .unset, .unset, .unset, .unset, .unset] [])) _
    refine XS.iloadN X0.here hx rfl (hb hby at_9) rfl ?_
    show Steps p.tables e below (s₁.setTop (mkF m 10 #[.val (.int p1), .val (.int p2), .val (.int p3), .val (.int p4), .val (.int (2 : Int32)), .unset, .unset, .unset, .unset, .unset, .unset, .unset, .unset, .unset, .unset, .unset] [(.int p1)])) _
    refine XS.i2b X0.here hx rfl (hb hby at_10) rfl ?_
    show Steps p.tables e below (s₁.setTop (mkF m 11 #[.val (.int p1), .val (.int p2), .val (.int p3), .val (.int p4), .val (.int (2 : Int32)), .unset, .unset, .unset, .unset, .unset, .unset, .unset, .unset, .unset, .unset, .unset] [(.int (p1.toInt8.toInt32))])) _
    refine XS.istore X0.here hx rfl (hb hby at_11) rfl (l' := #[.val (.int p1), .val (.int p2), .val (.int p3), .val (.int p4), .val (.int (2 : Int32)), .val (.int (p1.toInt8.toInt32)), .unset, .unset, .unset, .unset, .unset, .unset, .unset, .unset, .unset, .unset]) rfl ?_
    show Steps p.tables e below (s₁.setTop (mkF m 13 #[.val (.int p1), .val (.int p2), .val (.int p3), .val (.int p4), .val (.int (2 : Int32)), .val (.int (p1.toInt8.toInt32)), .unset, .unset, .unset, .unset, .unset, .unset, .unset, .unset, .unset, .unset] [])) _
    refine XS.iloadN X0.here hx rfl (hb hby at_13) rfl ?_
    show Steps p.tables e below (s₁.setTop (mkF m 14 #[.val (.int p1), .val (.int p2), .val (.int p3), .val (.int p4), .val (.int (2 : Int32)), .val (.int (p1.toInt8.toInt32)), .unset, .unset, .unset, .unset, .unset, .unset, .unset, .unset, .unset, .unset] [(.int p2)])) _
    refine XS.i2b X0.here hx rfl (hb hby at_14) rfl ?_
    show Steps p.tables e below (s₁.setTop (mkF m 15 #[.val (.int p1), .val (.int p2), .val (.int p3), .val (.int p4), .val (.int (2 : Int32)), .val (.int (p1.toInt8.toInt32)), .unset, .unset, .unset, .unset, .unset, .unset, .unset, .unset, .unset, .unset] [(.int (p2.toInt8.toInt32))])) _
    refine XS.istore X0.here hx rfl (hb hby at_15) rfl (l' := #[.val (.int p1), .val (.int p2), .val (.int p3), .val (.int p4), .val (.int (2 : Int32)), .val (.int (p1.toInt8.toInt32)), .val (.int (p2.toInt8.toInt32)), .unset, .unset, .unset, .unset, .unset, .unset, .unset, .unset, .unset]) rfl ?_
    show Steps p.tables e below (s₁.setTop (mkF m 17 #[.val (.int p1), .val (.int p2), .val (.int p3), .val (.int p4), .val (.int (2 : Int32)), .val (.int (p1.toInt8.toInt32)), .val (.int (p2.toInt8.toInt32)), .unset, .unset, .unset, .unset, .unset, .unset, .unset, .unset, .unset] [])) _
    refine XS.iloadN X0.here hx rfl (hb hby at_17) rfl ?_
    show Steps p.tables e below (s₁.setTop (mkF m 18 #[.val (.int p1), .val (.int p2), .val (.int p3), .val (.int p4), .val (.int (2 : Int32)), .val (.int (p1.toInt8.toInt32)), .val (.int (p2.toInt8.toInt32)), .unset, .unset, .unset, .unset, .unset, .unset, .unset, .unset, .unset] [(.int p3)])) _
    refine XS.i2b X0.here hx rfl (hb hby at_18) rfl ?_
    show Steps p.tables e below (s₁.setTop (mkF m 19 #[.val (.int p1), .val (.int p2), .val (.int p3), .val (.int p4), .val (.int (2 : Int32)), .val (.int (p1.toInt8.toInt32)), .val (.int (p2.toInt8.toInt32)), .unset, .unset, .unset, .unset, .unset, .unset, .unset, .unset, .unset] [(.int (p3.toInt8.toInt32))])) _
    refine XS.istore X0.here hx rfl (hb hby at_19) rfl (l' := #[.val (.int p1), .val (.int p2), .val (.int p3), .val (.int p4), .val (.int (2 : Int32)), .val (.int (p1.toInt8.toInt32)), .val (.int (p2.toInt8.toInt32)), .val (.int (p3.toInt8.toInt32)), .unset, .unset, .unset, .unset, .unset, .unset, .unset, .unset]) rfl ?_
    show Steps p.tables e below (s₁.setTop (mkF m 21 #[.val (.int p1), .val (.int p2), .val (.int p3), .val (.int p4), .val (.int (2 : Int32)), .val (.int (p1.toInt8.toInt32)), .val (.int (p2.toInt8.toInt32)), .val (.int (p3.toInt8.toInt32)), .unset, .unset, .unset, .unset, .unset, .unset, .unset, .unset] [])) _
    refine XS.iload X0.here hx rfl (hb hby at_21) rfl ?_
    show Steps p.tables e below (s₁.setTop (mkF m 23 #[.val (.int p1), .val (.int p2), .val (.int p3), .val (.int p4), .val (.int (2 : Int32)), .val (.int (p1.toInt8.toInt32)), .val (.int (p2.toInt8.toInt32)), .val (.int (p3.toInt8.toInt32)), .unset, .unset, .unset, .unset, .unset, .unset, .unset, .unset] [(.int (2 : Int32))])) _
    refine st5 _ ?_
    show Steps p.tables e below (T5.setTop (mkF m 25 #[.val (.int p1), .val (.int p2), .val (.int p3), .val (.int p4), .val (.int (2 : Int32)), .val (.int (p1.toInt8.toInt32)), .val (.int (p2.toInt8.toInt32)), .val (.int (p3.toInt8.toInt32)), .unset, .unset, .unset, .unset, .unset, .unset, .unset, .unset] [(.ref b5)])) _
    refine XS.astore X5.here hx rfl (hb hby at_25) rfl rfl (l' := #[.val (.int p1), .val (.int p2), .val (.int p3), .val (.int p4), .val (.int (2 : Int32)), .val (.int (p1.toInt8.toInt32)), .val (.int (p2.toInt8.toInt32)), .val (.int (p3.toInt8.toInt32)), .val (.ref b5), .unset, .unset, .unset, .unset, .unset, .unset, .unset]) rfl ?_
    show Steps p.tables e below (T5.setTop (mkF m 27 #[.val (.int p1), .val (.int p2), .val (.int p3), .val (.int p4), .val (.int (2 : Int32)), .val (.int (p1.toInt8.toInt32)), .val (.int (p2.toInt8.toInt32)), .val (.int (p3.toInt8.toInt32)), .val (.ref b5), .unset, .unset, .unset, .unset, .unset, .unset, .unset] [])) _
    refine XS.aload X5.here hx rfl (hb hby at_27) rfl rfl ?_
    show Steps p.tables e below (T5.setTop (mkF m 29 #[.val (.int p1), .val (.int p2), .val (.int p3), .val (.int p4), .val (.int (2 : Int32)), .val (.int (p1.toInt8.toInt32)), .val (.int (p2.toInt8.toInt32)), .val (.int (p3.toInt8.toInt32)), .val (.ref b5), .unset, .unset, .unset, .unset, .unset, .unset, .unset] [(.ref b5)])) _
    refine XS.iconst X5.here hx rfl (hb hby at_29) ?_
    show Steps p.tables e below (T5.setTop (mkF m 30 #[.val (.int p1), .val (.int p2), .val (.int p3), .val (.int p4), .val (.int (2 : Int32)), .val (.int (p1.toInt8.toInt32)), .val (.int (p2.toInt8.toInt32)), .val (.int (p3.toInt8.toInt32)), .val (.ref b5), .unset, .unset, .unset, .unset, .unset, .unset, .unset] [(.int (0 : Int32)), (.ref b5)])) _
    refine XS.iload X5.here hx rfl (hb hby at_30) rfl ?_
    show Steps p.tables e below (T5.setTop (mkF m 32 #[.val (.int p1), .val (.int p2), .val (.int p3), .val (.int p4), .val (.int (2 : Int32)), .val (.int (p1.toInt8.toInt32)), .val (.int (p2.toInt8.toInt32)), .val (.int (p3.toInt8.toInt32)), .val (.ref b5), .unset, .unset, .unset, .unset, .unset, .unset, .unset] [(.int (p1.toInt8.toInt32)), (.int (0 : Int32)), (.ref b5)])) _
    refine st6 _ ?_
    show Steps p.tables e below (T6.setTop (mkF m 33 #[.val (.int p1), .val (.int p2), .val (.int p3), .val (.int p4), .val (.int (2 : Int32)), .val (.int (p1.toInt8.toInt32)), .val (.int (p2.toInt8.toInt32)), .val (.int (p3.toInt8.toInt32)), .val (.ref b5), .unset, .unset, .unset, .unset, .unset, .unset, .unset] [])) _
    refine XS.iload X6.here hx rfl (hb hby at_33) rfl ?_
    show Steps p.tables e below (T6.setTop (mkF m 35 #[.val (.int p1), .val (.int p2), .val (.int p3), .val (.int p4), .val (.int (2 : Int32)), .val (.int (p1.toInt8.toInt32)), .val (.int (p2.toInt8.toInt32)), .val (.int (p3.toInt8.toInt32)), .val (.ref b5), .unset, .unset, .unset, .unset, .unset, .unset, .unset] [(.int (2 : Int32))])) _
    refine XS.iconst X6.here hx rfl (hb hby at_35) ?_
    show Steps p.tables e below (T6.setTop (mkF m 36 #[.val (.int p1), .val (.int p2), .val (.int p3), .val (.int p4), .val (.int (2 : Int32)), .val (.int (p1.toInt8.toInt32)), .val (.int (p2.toInt8.toInt32)), .val (.int (p3.toInt8.toInt32)), .val (.ref b5), .unset, .unset, .unset, .unset, .unset, .unset, .unset] [(.int (1 : Int32)), (.int (2 : Int32))])) _
    refine XS.icmpNo X6.here hx rfl (hb hby at_36) rfl (tlt (by decide)).2.2.2 ?_
    show Steps p.tables e below (T6.setTop (mkF m 39 #[.val (.int p1), .val (.int p2), .val (.int p3), .val (.int p4), .val (.int (2 : Int32)), .val (.int (p1.toInt8.toInt32)), .val (.int (p2.toInt8.toInt32)), .val (.int (p3.toInt8.toInt32)), .val (.ref b5), .unset, .unset, .unset, .unset, .unset, .unset, .unset] [])) _
    refine XS.aload X6.here hx rfl (hb hby at_39) rfl rfl ?_
    show Steps p.tables e below (T6.setTop (mkF m 41 #[.val (.int p1), .val (.int p2), .val (.int p3), .val (.int p4), .val (.int (2 : Int32)), .val (.int (p1.toInt8.toInt32)), .val (.int (p2.toInt8.toInt32)), .val (.int (p3.toInt8.toInt32)), .val (.ref b5), .unset, .unset, .unset, .unset, .unset, .unset, .unset] [(.ref b5)])) _
    refine XS.iconst X6.here hx rfl (hb hby at_41) ?_
    show Steps p.tables e below (T6.setTop (mkF m 42 #[.val (.int p1), .val (.int p2), .val (.int p3), .val (.int p4), .val (.int (2 : Int32)), .val (.int (p1.toInt8.toInt32)), .val (.int (p2.toInt8.toInt32)), .val (.int (p3.toInt8.toInt32)), .val (.ref b5), .unset, .unset, .unset, .unset, .unset, .unset, .unset] [(.int (1 : Int32)), (.ref b5)])) _
    refine XS.iload X6.here hx rfl (hb hby at_42) rfl ?_
    show Steps p.tables e below (T6.setTop (mkF m 44 #[.val (.int p1), .val (.int p2), .val (.int p3), .val (.int p4), .val (.int (2 : Int32)), .val (.int (p1.toInt8.toInt32)), .val (.int (p2.toInt8.toInt32)), .val (.int (p3.toInt8.toInt32)), .val (.ref b5), .unset, .unset, .unset, .unset, .unset, .unset, .unset] [(.int (p2.toInt8.toInt32)), (.int (1 : Int32)), (.ref b5)])) _
    refine st7 _ ?_
    show Steps p.tables e below (T7.setTop (mkF m 45 #[.val (.int p1), .val (.int p2), .val (.int p3), .val (.int p4), .val (.int (2 : Int32)), .val (.int (p1.toInt8.toInt32)), .val (.int (p2.toInt8.toInt32)), .val (.int (p3.toInt8.toInt32)), .val (.ref b5), .unset, .unset, .unset, .unset, .unset, .unset, .unset] [])) _
    refine XS.iload X7.here hx rfl (hb hby at_45) rfl ?_
    show Steps p.tables e below (T7.setTop (mkF m 47 #[.val (.int p1), .val (.int p2), .val (.int p3), .val (.int p4), .val (.int (2 : Int32)), .val (.int (p1.toInt8.toInt32)), .val (.int (p2.toInt8.toInt32)), .val (.int (p3.toInt8.toInt32)), .val (.ref b5), .unset, .unset, .unset, .unset, .unset, .unset, .unset] [(.int (2 : Int32))])) _
    refine XS.iconst X7.here hx rfl (hb hby at_47) ?_
    show Steps p.tables e below (T7.setTop (mkF m 48 #[.val (.int p1), .val (.int p2), .val (.int p3), .val (.int p4), .val (.int (2 : Int32)), .val (.int (p1.toInt8.toInt32)), .val (.int (p2.toInt8.toInt32)), .val (.int (p3.toInt8.toInt32)), .val (.ref b5), .unset, .unset, .unset, .unset, .unset, .unset, .unset] [(.int (2 : Int32)), (.int (2 : Int32))])) _
    refine XS.icmpYes X7.here hx rfl (pc0 := 48) (pc' := 57) rfl (hb hby at_48) rfl (flt (by decide)).2.2.2 (by decide) (by decide) ?_
    show Steps p.tables e below (T7.setTop (mkF m 57 #[.val (.int p1), .val (.int p2), .val (.int p3), .val (.int p4), .val (.int (2 : Int32)), .val (.int (p1.toInt8.toInt32)), .val (.int (p2.toInt8.toInt32)), .val (.int (p3.toInt8.toInt32)), .val (.ref b5), .unset, .unset, .unset, .unset, .unset, .unset, .unset] [])) _
    refine XS.iload X7.here hx rfl (hb hby at_57) rfl ?_
    show Steps p.tables e below (T7.setTop (mkF m 59 #[.val (.int p1), .val (.int p2), .val (.int p3), .val (.int p4), .val (.int (2 : Int32)), .val (.int (p1.toInt8.toInt32)), .val (.int (p2.toInt8.toInt32)), .val (.int (p3.toInt8.toInt32)), .val (.ref b5), .unset, .unset, .unset, .unset, .unset, .unset, .unset] [(.int (2 : Int32))])) _
    refine XS.iconst X7.here hx rfl (hb hby at_59) ?_
    show Steps p.tables e below (T7.setTop (mkF m 60 #[.val (.int p1), .val (.int p2), .val (.int p3), .val (.int p4), .val (.int (2 : Int32)), .val (.int (p1.toInt8.toInt32)), .val (.int (p2.toInt8.toInt32)), .val (.int (p3.toInt8.toInt32)), .val (.ref b5), .unset, .unset, .unset, .unset, .unset, .unset, .unset] [(.int (3 : Int32)), (.int (2 : Int32))])) _
    refine XS.icmpYes X7.here hx rfl (pc0 := 60) (pc' := 75) rfl (hb hby at_60) rfl (feq (by decide)).2 (by decide) (by decide) ?_
    show Steps p.tables e below (T7.setTop (mkF m 75 #[.val (.int p1), .val (.int p2), .val (.int p3), .val (.int p4), .val (.int (2 : Int32)), .val (.int (p1.toInt8.toInt32)), .val (.int (p2.toInt8.toInt32)), .val (.int (p3.toInt8.toInt32)), .val (.ref b5), .unset, .unset, .unset, .unset, .unset, .unset, .unset] [])) _
    refine XS.iload X7.here hx rfl (hb hby at_75) rfl ?_
    show Steps p.tables e below (T7.setTop (mkF m 77 #[.val (.int p1), .val (.int p2), .val (.int p3), .val (.int p4), .val (.int (2 : Int32)), .val (.int (p1.toInt8.toInt32)), .val (.int (p2.toInt8.toInt32)), .val (.int (p3.toInt8.toInt32)), .val (.ref b5), .unset, .unset, .unset, .unset, .unset, .unset, .unset] [(.int (2 : Int32))])) _
    refine XS.iconst X7.here hx rfl (hb hby at_77) ?_
    show Steps p.tables e below (T7.setTop (mkF m 78 #[.val (.int p1), .val (.int p2), .val (.int p3), .val (.int p4), .val (.int (2 : Int32)), .val (.int (p1.toInt8.toInt32)), .val (.int (p2.toInt8.toInt32)), .val (.int (p3.toInt8.toInt32)), .val (.ref b5), .unset, .unset, .unset, .unset, .unset, .unset, .unset] [(.int (2 : Int32)), (.int (2 : Int32))])) _
    refine XS.icmpNo X7.here hx rfl (hb hby at_78) rfl (flt (by decide)).1 ?_
    show Steps p.tables e below (T7.setTop (mkF m 81 #[.val (.int p1), .val (.int p2), .val (.int p3), .val (.int p4), .val (.int (2 : Int32)), .val (.int (p1.toInt8.toInt32)), .val (.int (p2.toInt8.toInt32)), .val (.int (p3.toInt8.toInt32)), .val (.ref b5), .unset, .unset, .unset, .unset, .unset, .unset, .unset] [])) _
    refine XS.iload X7.here hx rfl (hb hby at_81) rfl ?_
    show Steps p.tables e below (T7.setTop (mkF m 83 #[.val (.int p1), .val (.int p2), .val (.int p3), .val (.int p4), .val (.int (2 : Int32)), .val (.int (p1.toInt8.toInt32)), .val (.int (p2.toInt8.toInt32)), .val (.int (p3.toInt8.toInt32)), .val (.ref b5), .unset, .unset, .unset, .unset, .unset, .unset, .unset] [(.int (p2.toInt8.toInt32))])) _
    refine XS.iconst X7.here hx rfl (hb hby at_83) ?_
    show Steps p.tables e below (T7.setTop (mkF m 84 #[.val (.int p1), .val (.int p2), .val (.int p3), .val (.int p4), .val (.int (2 : Int32)), .val (.int (p1.toInt8.toInt32)), .val (.int (p2.toInt8.toInt32)), .val (.int (p3.toInt8.toInt32)), .val (.ref b5), .unset, .unset, .unset, .unset, .unset, .unset, .unset] [(.int (-1 : Int32)), (.int (p2.toInt8.toInt32))])) _
    refine XS.icmpYes X7.here hx rfl (pc0 := 84) (pc' := 93) rfl (hb hby at_84) rfl (teq m1).1 (by decide) (by decide) ?_
    show Steps p.tables e below (T7.setTop (mkF m 93 #[.val (.int p1), .val (.int p2), .val (.int p3), .val (.int p4), .val (.int (2 : Int32)), .val (.int (p1.toInt8.toInt32)), .val (.int (p2.toInt8.toInt32)), .val (.int (p3.toInt8.toInt32)), .val (.ref b5), .unset, .unset, .unset, .unset, .unset, .unset, .unset] [])) _
    refine XS.iload X7.here hx rfl (hb hby at_93) rfl ?_
    show Steps p.tables e below (T7.setTop (mkF m 95 #[.val (.int p1), .val (.int p2), .val (.int p3), .val (.int p4), .val (.int (2 : Int32)), .val (.int (p1.toInt8.toInt32)), .val (.int (p2.toInt8.toInt32)), .val (.int (p3.toInt8.toInt32)), .val (.ref b5), .unset, .unset, .unset, .unset, .unset, .unset, .unset] [(.int (p1.toInt8.toInt32))])) _
    refine XS.iconst X7.here hx rfl (hb hby at_95) ?_
    show Steps p.tables e below (T7.setTop (mkF m 96 #[.val (.int p1), .val (.int p2), .val (.int p3), .val (.int p4), .val (.int (2 : Int32)), .val (.int (p1.toInt8.toInt32)), .val (.int (p2.toInt8.toInt32)), .val (.int (p3.toInt8.toInt32)), .val (.ref b5), .unset, .unset, .unset, .unset, .unset, .unset, .unset] [(.int (-1 : Int32)), (.int (p1.toInt8.toInt32))])) _
    refine XS.icmpYes X7.here hx rfl (pc0 := 96) (pc' := 105) rfl (hb hby at_96) rfl (teq m0).1 (by decide) (by decide) ?_
    show Steps p.tables e below (T7.setTop (mkF m 105 #[.val (.int p1), .val (.int p2), .val (.int p3), .val (.int p4), .val (.int (2 : Int32)), .val (.int (p1.toInt8.toInt32)), .val (.int (p2.toInt8.toInt32)), .val (.int (p3.toInt8.toInt32)), .val (.ref b5), .unset, .unset, .unset, .unset, .unset, .unset, .unset] [])) _
    refine XS.iconst X7.here hx rfl (hb hby at_105) ?_
    show Steps p.tables e below (T7.setTop (mkF m 106 #[.val (.int p1), .val (.int p2), .val (.int p3), .val (.int p4), .val (.int (2 : Int32)), .val (.int (p1.toInt8.toInt32)), .val (.int (p2.toInt8.toInt32)), .val (.int (p3.toInt8.toInt32)), .val (.ref b5), .unset, .unset, .unset, .unset, .unset, .unset, .unset] [(.int (1 : Int32))])) _
    exact retN X7 hx (t := .boolean) Bd.returns (by simp) (hb hby at_106) hr
  · show Q0 h0 n0 _ T7.heap _
    rw [e7]
    exact ⟨rfl, N7⟩

set_option maxRecDepth 65536 in
set_option maxHeartbeats 40000000 in
theorem rm0_3r (l : Launch) (Z : State) (a0 : Array Value) (hw : ∀ d ∈ tables_1, d.before a0 Z = true) (ws : List Jvm.Cond) (p1 : Int32) (p2 : Int32) (p3 : Int32) (p4 : Int32) (h0 : Heap) (n0 : Nat) (Z0 : n0 ≤ h0.size) (hlen : ((1 : Int32) + ((p4 &&& (3 : Int32)) % (3 : Int32))) = (3 : Int32)) (m2 : (p3.toInt8.toInt32) = (-1 : Int32)) (m1 : (p2.toInt8.toInt32) = (-1 : Int32)) (m0 : (p1.toInt8.toInt32) = (-1 : Int32)) :
    MetFree l x (head1 (Jvm.Cond.code x code maxLocals ret :: ws) room_1) (fun a U => a = #[(.int p1), (.int p2), (.int p3), (.int p4)] ∧ Z.Warmed39 U.vm ∧ U.heap = h0) (fun _ _ _ _ _ => True) (fun _ U o U' => ∃ v L, o = .returned v ∧ Q0 h0 n0 v U'.heap L ∧ FrameEnd U o U' L room_1.cells room_1.slots) := by
  refine MetFree.of_bodySF (plainFor_of_name pn_0) hisR ?_
  intro p e s m args below meth c s₁ Bd hml0 hP hK
  obtain ⟨rfl, hZ, hh⟩ := hP
  have hx := Bd.exec
  have hby := Bd.bytes
  have hml : c.maxLocals = 16 := hml0
  have hown : s.vm.findClass "com/example/coord2/coord2/KeyRangePrefixPinLaw" = some m.cls := findClass_of_methodNamed Bd.named
  have hnm := (name_of_methodNamed Bd.named Bd.method).1
  have X0 : Stand p l e room_1 s m #[(.int p1), (.int p2), (.int p3), (.int p4)] below meth c s₁ [] 0 0 := Stand.of_body Bd
  have e0 : s₁.heap = h0 := by rw [← hh, Bd.state]; rfl
  have N0 := Fr.nil n0
  have pre0 : ∀ t, Steps p.tables e below (s₁.setTop (mkF m 0 #[.val (.int p1), .val (.int p2), .val (.int p3), .val (.int p4), .unset, .unset, .unset, .unset, .unset, .unset, .unset, .unset, .unset, .unset, .unset, .unset] [])) t → Steps p.tables e below (s₁.setTop (entryFrame m #[(.int p1), (.int p2), (.int p3), (.int p4)] maxLocals)) t := fun t k => castTop (ef_0 m p1 p2 p3 p4) k
  obtain ⟨T5, h5, k5, X5, e5, E5, A5, EA5, st5⟩ := newPE X0 hx hZ (hw _ (List.mem_of_getElem? (i := 0) rfl)) e0 (g := (mkF m 23 #[.val (.int p1), .val (.int p2), .val (.int p3), .val (.int p4), .val (.int (3 : Int32)), .val (.int (p1.toInt8.toInt32)), .val (.int (p2.toInt8.toInt32)), .val (.int (p3.toInt8.toInt32)), .unset, .unset, .unset, .unset, .unset, .unset, .unset, .unset] [(.int (3 : Int32))])) rfl (hb hby at_23) rfl (by decide) (cap := 3) (by decide) (by decide) (by decide) (by decide) (ad := "[B") rfl
  obtain ⟨b5, g5⟩ : ∃ z, z = h0.size := ⟨_, rfl⟩
  rw [← g5] at A5 EA5 st5
  have V_b5 : Arv Z h5 b5 k5 .byte (3 : Int32) [(.int (0 : Int32)), (.int (0 : Int32)), (.int (0 : Int32))] (.int (0 : Int32)) := (Arv.new A5 (by decide)).pad (pad_rep [] (.int (0 : Int32)) 3)
  have g_b5 : n0 ≤ b5 := Nat.le_trans Z0 (Nat.le_of_eq g5.symm)
  have sz_b5 : h0.size ≤ b5 := (Nat.le_trans (Keep.refl h0 []).1 (Nat.le_of_eq g5.symm))
  have K5 : Keep h0 h5 [] := (Keep.refl h0 []).ext E5
  obtain ⟨cl_b5_32, Ar_b5, q_b5, S_b5, N_b5, H_b5, G_b5⟩ := V_b5
  have hin32 : ¬ ((0 : Int32) < 0 ∨ cl_b5_32.slots.size ≤ ((0 : Int32)).toNatClampNeg) := inb_of S_b5 ⟨by decide, by decide⟩
  obtain ⟨T6, h6, X6, e6, W6, st6⟩ := stB X5 hx hZ e5 Ar_b5 (j := (0 : Int32)) hin32 (g := (mkF m 32 #[.val (.int p1), .val (.int p2), .val (.int p3), .val (.int p4), .val (.int (3 : Int32)), .val (.int (p1.toInt8.toInt32)), .val (.int (p2.toInt8.toInt32)), .val (.int (p3.toInt8.toInt32)), .val (.ref b5), .unset, .unset, .unset, .unset, .unset, .unset, .unset] [(.int (p1.toInt8.toInt32)), (.int (0 : Int32)), (.ref b5)])) rfl rfl (hb hby at_32)
  have V_b5_6 := Arv.set Ar_b5 q_b5 S_b5 N_b5 H_b5 G_b5 (fits_nar_byte _) W6 0 rfl (Nat.le_of_ble_eq_true rfl)
  have K6 : Keep h0 h6 [] := K5.wr W6 (Or.inr sz_b5)
  have N6 := Fr.snoc X6 N0 g_b5
  obtain ⟨cl_b5_44, Ar_b5, q_b5, S_b5, N_b5, H_b5, G_b5⟩ := V_b5_6
  have hin44 : ¬ ((1 : Int32) < 0 ∨ cl_b5_44.slots.size ≤ ((1 : Int32)).toNatClampNeg) := inb_of S_b5 ⟨by decide, by decide⟩
  obtain ⟨T7, h7, X7, e7, W7, st7⟩ := stB X6 hx hZ e6 Ar_b5 (j := (1 : Int32)) hin44 (g := (mkF m 44 #[.val (.int p1), .val (.int p2), .val (.int p3), .val (.int p4), .val (.int (3 : Int32)), .val (.int (p1.toInt8.toInt32)), .val (.int (p2.toInt8.toInt32)), .val (.int (p3.toInt8.toInt32)), .val (.ref b5), .unset, .unset, .unset, .unset, .unset, .unset, .unset] [(.int (p2.toInt8.toInt32)), (.int (1 : Int32)), (.ref b5)])) rfl rfl (hb hby at_44)
  have V_b5_7 := Arv.set Ar_b5 q_b5 S_b5 N_b5 H_b5 G_b5 (fits_nar_byte _) W7 1 rfl (Nat.le_of_ble_eq_true rfl)
  have K7 : Keep h0 h7 [] := K6.wr W7 (Or.inr sz_b5)
  have N7 := Fr.snoc X7 N6 g_b5
  obtain ⟨cl_b5_56, Ar_b5, q_b5, S_b5, N_b5, H_b5, G_b5⟩ := V_b5_7
  have hin56 : ¬ ((2 : Int32) < 0 ∨ cl_b5_56.slots.size ≤ ((2 : Int32)).toNatClampNeg) := inb_of S_b5 ⟨by decide, by decide⟩
  obtain ⟨T8, h8, X8, e8, W8, st8⟩ := stB X7 hx hZ e7 Ar_b5 (j := (2 : Int32)) hin56 (g := (mkF m 56 #[.val (.int p1), .val (.int p2), .val (.int p3), .val (.int p4), .val (.int (3 : Int32)), .val (.int (p1.toInt8.toInt32)), .val (.int (p2.toInt8.toInt32)), .val (.int (p3.toInt8.toInt32)), .val (.ref b5), .unset, .unset, .unset, .unset, .unset, .unset, .unset] [(.int (p3.toInt8.toInt32)), (.int (2 : Int32)), (.ref b5)])) rfl rfl (hb hby at_56)
  have V_b5_8 := Arv.set Ar_b5 q_b5 S_b5 N_b5 H_b5 G_b5 (fits_nar_byte _) W8 2 rfl (Nat.le_of_ble_eq_true rfl)
  have K8 : Keep h0 h8 [] := K7.wr W8 (Or.inr sz_b5)
  have N8 := Fr.snoc X8 N7 g_b5
  obtain ⟨fs, hr, hrun, hended, hW, hsame⟩ := X8.leave (v := some (.int (1 : Int32))) (fun h => by rw [Bd.returns] at h; cases h)
  refine ⟨_, _, pre0 _ ?_, hrun, hended, _, _, rfl, ?_, ⟨_, rfl⟩, hW, hsame.mono (by decide) (by decide)⟩
  · show Steps p.tables e below (s₁.setTop (mkF m 0 #[.val (.int p1), .val (.int p2), .val (.int p3), .val (.int p4), .unset, .unset, .unset, .unset, .unset, .unset, .unset, .unset, .unset, .unset, .unset, .unset] [])) _
    refine XS.iconst X0.here hx rfl (hb hby at_0) ?_
    show Steps p.tables e below (s₁.setTop (mkF m 1 #[.val (.int p1), .val (.int p2), .val (.int p3), .val (.int p4), .unset, .unset, .unset, .unset, .unset, .unset, .unset, .unset, .unset, .unset, .unset, .unset] [(.int (1 : Int32))])) _
    refine XS.iloadN X0.here hx rfl (hb hby at_1) rfl ?_
    show Steps p.tables e below (s₁.setTop (mkF m 2 #[.val (.int p1), .val (.int p2), .val (.int p3), .val (.int p4), .unset, .unset, .unset, .unset, .unset, .unset, .unset, .unset, .unset, .unset, .unset, .unset] [(.int p4), (.int (1 : Int32))])) _
    refine XS.iconst X0.here hx rfl (hb hby at_2) ?_
    show Steps p.tables e below (s₁.setTop (mkF m 3 #[.val (.int p1), .val (.int p2), .val (.int p3), .val (.int p4), .unset, .unset, .unset, .unset, .unset, .unset, .unset, .unset, .unset, .unset, .unset, .unset] [(.int (3 : Int32)), (.int p4), (.int (1 : Int32))])) _
    refine XS.iand X0.here hx rfl (hb hby at_3) rfl ?_
    show Steps p.tables e below (s₁.setTop (mkF m 4 #[.val (.int p1), .val (.int p2), .val (.int p3), .val (.int p4), .unset, .unset, .unset, .unset, .unset, .unset, .unset, .unset, .unset, .unset, .unset, .unset] [(.int (p4 &&& (3 : Int32))), (.int (1 : Int32))])) _
    refine XS.iconst X0.here hx rfl (hb hby at_4) ?_
    show Steps p.tables e below (s₁.setTop (mkF m 5 #[.val (.int p1), .val (.int p2), .val (.int p3), .val (.int p4), .unset, .unset, .unset, .unset, .unset, .unset, .unset, .unset, .unset, .unset, .unset, .unset] [(.int (3 : Int32)), (.int (p4 &&& (3 : Int32))), (.int (1 : Int32))])) _
    refine iremM X0 hx rfl (hb hby at_5) rfl (by decide) ?_
    show Steps p.tables e below (s₁.setTop (mkF m 6 #[.val (.int p1), .val (.int p2), .val (.int p3), .val (.int p4), .unset, .unset, .unset, .unset, .unset, .unset, .unset, .unset, .unset, .unset, .unset, .unset] [(.int ((p4 &&& (3 : Int32)) % (3 : Int32))), (.int (1 : Int32))])) _
    refine XS.iadd X0.here hx rfl (hb hby at_6) rfl ?_
    show Steps p.tables e below (s₁.setTop (mkF m 7 #[.val (.int p1), .val (.int p2), .val (.int p3), .val (.int p4), .unset, .unset, .unset, .unset, .unset, .unset, .unset, .unset, .unset, .unset, .unset, .unset] [(.int ((1 : Int32) + ((p4 &&& (3 : Int32)) % (3 : Int32))))])) _
    rw [hlen]
    refine XS.istore X0.here hx rfl (hb hby at_7) rfl (l' := #[.val (.int p1), .val (.int p2), .val (.int p3), .val (.int p4), .val (.int (3 : Int32)), .unset, .unset, .unset, .unset, .unset, .unset, .unset, .unset, .unset, .unset, .unset]) rfl ?_
    show Steps p.tables e below (s₁.setTop (mkF m 9 #[.val (.int p1), .val (.int p2), .val (.int p3), .val (.int p4), .val (.int (3 : Int32)), .unset, .unset, .unset, .unset, .unset, .unset, .unset, .unset, .unset, .unset, .unset] [])) _
    refine XS.iloadN X0.here hx rfl (hb hby at_9) rfl ?_
    show Steps p.tables e below (s₁.setTop (mkF m 10 #[.val (.int p1), .val (.int p2), .val (.int p3), .val (.int p4), .val (.int (3 : Int32)), .unset, .unset, .unset, .unset, .unset, .unset, .unset, .unset, .unset, .unset, .unset] [(.int p1)])) _
    refine XS.i2b X0.here hx rfl (hb hby at_10) rfl ?_
    show Steps p.tables e below (s₁.setTop (mkF m 11 #[.val (.int p1), .val (.int p2), .val (.int p3), .val (.int p4), .val (.int (3 : Int32)), .unset, .unset, .unset, .unset, .unset, .unset, .unset, .unset, .unset, .unset, .unset] [(.int (p1.toInt8.toInt32))])) _
    refine XS.istore X0.here hx rfl (hb hby at_11) rfl (l' := #[.val (.int p1), .val (.int p2), .val (.int p3), .val (.int p4), .val (.int (3 : Int32)), .val (.int (p1.toInt8.toInt32)), .unset, .unset, .unset, .unset, .unset, .unset, .unset, .unset, .unset, .unset]) rfl ?_
    show Steps p.tables e below (s₁.setTop (mkF m 13 #[.val (.int p1), .val (.int p2), .val (.int p3), .val (.int p4), .val (.int (3 : Int32)), .val (.int (p1.toInt8.toInt32)), .unset, .unset, .unset, .unset, .unset, .unset, .unset, .unset, .unset, .unset] [])) _
    refine XS.iloadN X0.here hx rfl (hb hby at_13) rfl ?_
    show Steps p.tables e below (s₁.setTop (mkF m 14 #[.val (.int p1), .val (.int p2), .val (.int p3), .val (.int p4), .val (.int (3 : Int32)), .val (.int (p1.toInt8.toInt32)), .unset, .unset, .unset, .unset, .unset, .unset, .unset, .unset, .unset, .unset] [(.int p2)])) _
    refine XS.i2b X0.here hx rfl (hb hby at_14) rfl ?_
    show Steps p.tables e below (s₁.setTop (mkF m 15 #[.val (.int p1), .val (.int p2), .val (.int p3), .val (.int p4), .val (.int (3 : Int32)), .val (.int (p1.toInt8.toInt32)), .unset, .unset, .unset, .unset, .unset, .unset, .unset, .unset, .unset, .unset] [(.int (p2.toInt8.toInt32))])) _
    refine XS.istore X0.here hx rfl (hb hby at_15) rfl (l' := #[.val (.int p1), .val (.int p2), .val (.int p3), .val (.int p4), .val (.int (3 : Int32)), .val (.int (p1.toInt8.toInt32)), .val (.int (p2.toInt8.toInt32)), .unset, .unset, .unset, .unset, .unset, .unset, .unset, .unset, .unset]) rfl ?_
    show Steps p.tables e below (s₁.setTop (mkF m 17 #[.val (.int p1), .val (.int p2), .val (.int p3), .val (.int p4), .val (.int (3 : Int32)), .val (.int (p1.toInt8.toInt32)), .val (.int (p2.toInt8.toInt32)), .unset, .unset, .unset, .unset, .unset, .unset, .unset, .unset, .unset] [])) _
    refine XS.iloadN X0.here hx rfl (hb hby at_17) rfl ?_
    show Steps p.tables e below (s₁.setTop (mkF m 18 #[.val (.int p1), .val (.int p2), .val (.int p3), .val (.int p4), .val (.int (3 : Int32)), .val (.int (p1.toInt8.toInt32)), .val (.int (p2.toInt8.toInt32)), .unset, .unset, .unset, .unset, .unset, .unset, .unset, .unset, .unset] [(.int p3)])) _
    refine XS.i2b X0.here hx rfl (hb hby at_18) rfl ?_
    show Steps p.tables e below (s₁.setTop (mkF m 19 #[.val (.int p1), .val (.int p2), .val (.int p3), .val (.int p4), .val (.int (3 : Int32)), .val (.int (p1.toInt8.toInt32)), .val (.int (p2.toInt8.toInt32)), .unset, .unset, .unset, .unset, .unset, .unset, .unset, .unset, .unset] [(.int (p3.toInt8.toInt32))])) _
    refine XS.istore X0.here hx rfl (hb hby at_19) rfl (l' := #[.val (.int p1), .val (.int p2), .val (.int p3), .val (.int p4), .val (.int (3 : Int32)), .val (.int (p1.toInt8.toInt32)), .val (.int (p2.toInt8.toInt32)), .val (.int (p3.toInt8.toInt32)), .unset, .unset, .unset, .unset, .unset, .unset, .unset, .unset]) rfl ?_
    show Steps p.tables e below (s₁.setTop (mkF m 21 #[.val (.int p1), .val (.int p2), .val (.int p3), .val (.int p4), .val (.int (3 : Int32)), .val (.int (p1.toInt8.toInt32)), .val (.int (p2.toInt8.toInt32)), .val (.int (p3.toInt8.toInt32)), .unset, .unset, .unset, .unset, .unset, .unset, .unset, .unset] [])) _
    refine XS.iload X0.here hx rfl (hb hby at_21) rfl ?_
    show Steps p.tables e below (s₁.setTop (mkF m 23 #[.val (.int p1), .val (.int p2), .val (.int p3), .val (.int p4), .val (.int (3 : Int32)), .val (.int (p1.toInt8.toInt32)), .val (.int (p2.toInt8.toInt32)), .val (.int (p3.toInt8.toInt32)), .unset, .unset, .unset, .unset, .unset, .unset, .unset, .unset] [(.int (3 : Int32))])) _
    refine st5 _ ?_
    show Steps p.tables e below (T5.setTop (mkF m 25 #[.val (.int p1), .val (.int p2), .val (.int p3), .val (.int p4), .val (.int (3 : Int32)), .val (.int (p1.toInt8.toInt32)), .val (.int (p2.toInt8.toInt32)), .val (.int (p3.toInt8.toInt32)), .unset, .unset, .unset, .unset, .unset, .unset, .unset, .unset] [(.ref b5)])) _
    refine XS.astore X5.here hx rfl (hb hby at_25) rfl rfl (l' := #[.val (.int p1), .val (.int p2), .val (.int p3), .val (.int p4), .val (.int (3 : Int32)), .val (.int (p1.toInt8.toInt32)), .val (.int (p2.toInt8.toInt32)), .val (.int (p3.toInt8.toInt32)), .val (.ref b5), .unset, .unset, .unset, .unset, .unset, .unset, .unset]) rfl ?_
    show Steps p.tables e below (T5.setTop (mkF m 27 #[.val (.int p1), .val (.int p2), .val (.int p3), .val (.int p4), .val (.int (3 : Int32)), .val (.int (p1.toInt8.toInt32)), .val (.int (p2.toInt8.toInt32)), .val (.int (p3.toInt8.toInt32)), .val (.ref b5), .unset, .unset, .unset, .unset, .unset, .unset, .unset] [])) _
    refine XS.aload X5.here hx rfl (hb hby at_27) rfl rfl ?_
    show Steps p.tables e below (T5.setTop (mkF m 29 #[.val (.int p1), .val (.int p2), .val (.int p3), .val (.int p4), .val (.int (3 : Int32)), .val (.int (p1.toInt8.toInt32)), .val (.int (p2.toInt8.toInt32)), .val (.int (p3.toInt8.toInt32)), .val (.ref b5), .unset, .unset, .unset, .unset, .unset, .unset, .unset] [(.ref b5)])) _
    refine XS.iconst X5.here hx rfl (hb hby at_29) ?_
    show Steps p.tables e below (T5.setTop (mkF m 30 #[.val (.int p1), .val (.int p2), .val (.int p3), .val (.int p4), .val (.int (3 : Int32)), .val (.int (p1.toInt8.toInt32)), .val (.int (p2.toInt8.toInt32)), .val (.int (p3.toInt8.toInt32)), .val (.ref b5), .unset, .unset, .unset, .unset, .unset, .unset, .unset] [(.int (0 : Int32)), (.ref b5)])) _
    refine XS.iload X5.here hx rfl (hb hby at_30) rfl ?_
    show Steps p.tables e below (T5.setTop (mkF m 32 #[.val (.int p1), .val (.int p2), .val (.int p3), .val (.int p4), .val (.int (3 : Int32)), .val (.int (p1.toInt8.toInt32)), .val (.int (p2.toInt8.toInt32)), .val (.int (p3.toInt8.toInt32)), .val (.ref b5), .unset, .unset, .unset, .unset, .unset, .unset, .unset] [(.int (p1.toInt8.toInt32)), (.int (0 : Int32)), (.ref b5)])) _
    refine st6 _ ?_
    show Steps p.tables e below (T6.setTop (mkF m 33 #[.val (.int p1), .val (.int p2), .val (.int p3), .val (.int p4), .val (.int (3 : Int32)), .val (.int (p1.toInt8.toInt32)), .val (.int (p2.toInt8.toInt32)), .val (.int (p3.toInt8.toInt32)), .val (.ref b5), .unset, .unset, .unset, .unset, .unset, .unset, .unset] [])) _
    refine XS.iload X6.here hx rfl (hb hby at_33) rfl ?_
    show Steps p.tables e below (T6.setTop (mkF m 35 #[.val (.int p1), .val (.int p2), .val (.int p3), .val (.int p4), .val (.int (3 : Int32)), .val (.int (p1.toInt8.toInt32)), .val (.int (p2.toInt8.toInt32)), .val (.int (p3.toInt8.toInt32)), .val (.ref b5), .unset, .unset, .unset, .unset, .unset, .unset, .unset] [(.int (3 : Int32))])) _
    refine XS.iconst X6.here hx rfl (hb hby at_35) ?_
    show Steps p.tables e below (T6.setTop (mkF m 36 #[.val (.int p1), .val (.int p2), .val (.int p3), .val (.int p4), .val (.int (3 : Int32)), .val (.int (p1.toInt8.toInt32)), .val (.int (p2.toInt8.toInt32)), .val (.int (p3.toInt8.toInt32)), .val (.ref b5), .unset, .unset, .unset, .unset, .unset, .unset, .unset] [(.int (1 : Int32)), (.int (3 : Int32))])) _
    refine XS.icmpNo X6.here hx rfl (hb hby at_36) rfl (tlt (by decide)).2.2.2 ?_
    show Steps p.tables e below (T6.setTop (mkF m 39 #[.val (.int p1), .val (.int p2), .val (.int p3), .val (.int p4), .val (.int (3 : Int32)), .val (.int (p1.toInt8.toInt32)), .val (.int (p2.toInt8.toInt32)), .val (.int (p3.toInt8.toInt32)), .val (.ref b5), .unset, .unset, .unset, .unset, .unset, .unset, .unset] [])) _
    refine XS.aload X6.here hx rfl (hb hby at_39) rfl rfl ?_
    show Steps p.tables e below (T6.setTop (mkF m 41 #[.val (.int p1), .val (.int p2), .val (.int p3), .val (.int p4), .val (.int (3 : Int32)), .val (.int (p1.toInt8.toInt32)), .val (.int (p2.toInt8.toInt32)), .val (.int (p3.toInt8.toInt32)), .val (.ref b5), .unset, .unset, .unset, .unset, .unset, .unset, .unset] [(.ref b5)])) _
    refine XS.iconst X6.here hx rfl (hb hby at_41) ?_
    show Steps p.tables e below (T6.setTop (mkF m 42 #[.val (.int p1), .val (.int p2), .val (.int p3), .val (.int p4), .val (.int (3 : Int32)), .val (.int (p1.toInt8.toInt32)), .val (.int (p2.toInt8.toInt32)), .val (.int (p3.toInt8.toInt32)), .val (.ref b5), .unset, .unset, .unset, .unset, .unset, .unset, .unset] [(.int (1 : Int32)), (.ref b5)])) _
    refine XS.iload X6.here hx rfl (hb hby at_42) rfl ?_
    show Steps p.tables e below (T6.setTop (mkF m 44 #[.val (.int p1), .val (.int p2), .val (.int p3), .val (.int p4), .val (.int (3 : Int32)), .val (.int (p1.toInt8.toInt32)), .val (.int (p2.toInt8.toInt32)), .val (.int (p3.toInt8.toInt32)), .val (.ref b5), .unset, .unset, .unset, .unset, .unset, .unset, .unset] [(.int (p2.toInt8.toInt32)), (.int (1 : Int32)), (.ref b5)])) _
    refine st7 _ ?_
    show Steps p.tables e below (T7.setTop (mkF m 45 #[.val (.int p1), .val (.int p2), .val (.int p3), .val (.int p4), .val (.int (3 : Int32)), .val (.int (p1.toInt8.toInt32)), .val (.int (p2.toInt8.toInt32)), .val (.int (p3.toInt8.toInt32)), .val (.ref b5), .unset, .unset, .unset, .unset, .unset, .unset, .unset] [])) _
    refine XS.iload X7.here hx rfl (hb hby at_45) rfl ?_
    show Steps p.tables e below (T7.setTop (mkF m 47 #[.val (.int p1), .val (.int p2), .val (.int p3), .val (.int p4), .val (.int (3 : Int32)), .val (.int (p1.toInt8.toInt32)), .val (.int (p2.toInt8.toInt32)), .val (.int (p3.toInt8.toInt32)), .val (.ref b5), .unset, .unset, .unset, .unset, .unset, .unset, .unset] [(.int (3 : Int32))])) _
    refine XS.iconst X7.here hx rfl (hb hby at_47) ?_
    show Steps p.tables e below (T7.setTop (mkF m 48 #[.val (.int p1), .val (.int p2), .val (.int p3), .val (.int p4), .val (.int (3 : Int32)), .val (.int (p1.toInt8.toInt32)), .val (.int (p2.toInt8.toInt32)), .val (.int (p3.toInt8.toInt32)), .val (.ref b5), .unset, .unset, .unset, .unset, .unset, .unset, .unset] [(.int (2 : Int32)), (.int (3 : Int32))])) _
    refine XS.icmpNo X7.here hx rfl (hb hby at_48) rfl (tlt (by decide)).2.2.2 ?_
    show Steps p.tables e below (T7.setTop (mkF m 51 #[.val (.int p1), .val (.int p2), .val (.int p3), .val (.int p4), .val (.int (3 : Int32)), .val (.int (p1.toInt8.toInt32)), .val (.int (p2.toInt8.toInt32)), .val (.int (p3.toInt8.toInt32)), .val (.ref b5), .unset, .unset, .unset, .unset, .unset, .unset, .unset] [])) _
    refine XS.aload X7.here hx rfl (hb hby at_51) rfl rfl ?_
    show Steps p.tables e below (T7.setTop (mkF m 53 #[.val (.int p1), .val (.int p2), .val (.int p3), .val (.int p4), .val (.int (3 : Int32)), .val (.int (p1.toInt8.toInt32)), .val (.int (p2.toInt8.toInt32)), .val (.int (p3.toInt8.toInt32)), .val (.ref b5), .unset, .unset, .unset, .unset, .unset, .unset, .unset] [(.ref b5)])) _
    refine XS.iconst X7.here hx rfl (hb hby at_53) ?_
    show Steps p.tables e below (T7.setTop (mkF m 54 #[.val (.int p1), .val (.int p2), .val (.int p3), .val (.int p4), .val (.int (3 : Int32)), .val (.int (p1.toInt8.toInt32)), .val (.int (p2.toInt8.toInt32)), .val (.int (p3.toInt8.toInt32)), .val (.ref b5), .unset, .unset, .unset, .unset, .unset, .unset, .unset] [(.int (2 : Int32)), (.ref b5)])) _
    refine XS.iload X7.here hx rfl (hb hby at_54) rfl ?_
    show Steps p.tables e below (T7.setTop (mkF m 56 #[.val (.int p1), .val (.int p2), .val (.int p3), .val (.int p4), .val (.int (3 : Int32)), .val (.int (p1.toInt8.toInt32)), .val (.int (p2.toInt8.toInt32)), .val (.int (p3.toInt8.toInt32)), .val (.ref b5), .unset, .unset, .unset, .unset, .unset, .unset, .unset] [(.int (p3.toInt8.toInt32)), (.int (2 : Int32)), (.ref b5)])) _
    refine st8 _ ?_
    show Steps p.tables e below (T8.setTop (mkF m 57 #[.val (.int p1), .val (.int p2), .val (.int p3), .val (.int p4), .val (.int (3 : Int32)), .val (.int (p1.toInt8.toInt32)), .val (.int (p2.toInt8.toInt32)), .val (.int (p3.toInt8.toInt32)), .val (.ref b5), .unset, .unset, .unset, .unset, .unset, .unset, .unset] [])) _
    refine XS.iload X8.here hx rfl (hb hby at_57) rfl ?_
    show Steps p.tables e below (T8.setTop (mkF m 59 #[.val (.int p1), .val (.int p2), .val (.int p3), .val (.int p4), .val (.int (3 : Int32)), .val (.int (p1.toInt8.toInt32)), .val (.int (p2.toInt8.toInt32)), .val (.int (p3.toInt8.toInt32)), .val (.ref b5), .unset, .unset, .unset, .unset, .unset, .unset, .unset] [(.int (3 : Int32))])) _
    refine XS.iconst X8.here hx rfl (hb hby at_59) ?_
    show Steps p.tables e below (T8.setTop (mkF m 60 #[.val (.int p1), .val (.int p2), .val (.int p3), .val (.int p4), .val (.int (3 : Int32)), .val (.int (p1.toInt8.toInt32)), .val (.int (p2.toInt8.toInt32)), .val (.int (p3.toInt8.toInt32)), .val (.ref b5), .unset, .unset, .unset, .unset, .unset, .unset, .unset] [(.int (3 : Int32)), (.int (3 : Int32))])) _
    refine XS.icmpNo X8.here hx rfl (hb hby at_60) rfl (teq (by decide)).2 ?_
    show Steps p.tables e below (T8.setTop (mkF m 63 #[.val (.int p1), .val (.int p2), .val (.int p3), .val (.int p4), .val (.int (3 : Int32)), .val (.int (p1.toInt8.toInt32)), .val (.int (p2.toInt8.toInt32)), .val (.int (p3.toInt8.toInt32)), .val (.ref b5), .unset, .unset, .unset, .unset, .unset, .unset, .unset] [])) _
    refine XS.iload X8.here hx rfl (hb hby at_63) rfl ?_
    show Steps p.tables e below (T8.setTop (mkF m 65 #[.val (.int p1), .val (.int p2), .val (.int p3), .val (.int p4), .val (.int (3 : Int32)), .val (.int (p1.toInt8.toInt32)), .val (.int (p2.toInt8.toInt32)), .val (.int (p3.toInt8.toInt32)), .val (.ref b5), .unset, .unset, .unset, .unset, .unset, .unset, .unset] [(.int (p3.toInt8.toInt32))])) _
    refine XS.iconst X8.here hx rfl (hb hby at_65) ?_
    show Steps p.tables e below (T8.setTop (mkF m 66 #[.val (.int p1), .val (.int p2), .val (.int p3), .val (.int p4), .val (.int (3 : Int32)), .val (.int (p1.toInt8.toInt32)), .val (.int (p2.toInt8.toInt32)), .val (.int (p3.toInt8.toInt32)), .val (.ref b5), .unset, .unset, .unset, .unset, .unset, .unset, .unset] [(.int (-1 : Int32)), (.int (p3.toInt8.toInt32))])) _
    refine XS.icmpYes X8.here hx rfl (pc0 := 66) (pc' := 75) rfl (hb hby at_66) rfl (teq m2).1 (by decide) (by decide) ?_
    show Steps p.tables e below (T8.setTop (mkF m 75 #[.val (.int p1), .val (.int p2), .val (.int p3), .val (.int p4), .val (.int (3 : Int32)), .val (.int (p1.toInt8.toInt32)), .val (.int (p2.toInt8.toInt32)), .val (.int (p3.toInt8.toInt32)), .val (.ref b5), .unset, .unset, .unset, .unset, .unset, .unset, .unset] [])) _
    refine XS.iload X8.here hx rfl (hb hby at_75) rfl ?_
    show Steps p.tables e below (T8.setTop (mkF m 77 #[.val (.int p1), .val (.int p2), .val (.int p3), .val (.int p4), .val (.int (3 : Int32)), .val (.int (p1.toInt8.toInt32)), .val (.int (p2.toInt8.toInt32)), .val (.int (p3.toInt8.toInt32)), .val (.ref b5), .unset, .unset, .unset, .unset, .unset, .unset, .unset] [(.int (3 : Int32))])) _
    refine XS.iconst X8.here hx rfl (hb hby at_77) ?_
    show Steps p.tables e below (T8.setTop (mkF m 78 #[.val (.int p1), .val (.int p2), .val (.int p3), .val (.int p4), .val (.int (3 : Int32)), .val (.int (p1.toInt8.toInt32)), .val (.int (p2.toInt8.toInt32)), .val (.int (p3.toInt8.toInt32)), .val (.ref b5), .unset, .unset, .unset, .unset, .unset, .unset, .unset] [(.int (2 : Int32)), (.int (3 : Int32))])) _
    refine XS.icmpNo X8.here hx rfl (hb hby at_78) rfl (flt (by decide)).1 ?_
    show Steps p.tables e below (T8.setTop (mkF m 81 #[.val (.int p1), .val (.int p2), .val (.int p3), .val (.int p4), .val (.int (3 : Int32)), .val (.int (p1.toInt8.toInt32)), .val (.int (p2.toInt8.toInt32)), .val (.int (p3.toInt8.toInt32)), .val (.ref b5), .unset, .unset, .unset, .unset, .unset, .unset, .unset] [])) _
    refine XS.iload X8.here hx rfl (hb hby at_81) rfl ?_
    show Steps p.tables e below (T8.setTop (mkF m 83 #[.val (.int p1), .val (.int p2), .val (.int p3), .val (.int p4), .val (.int (3 : Int32)), .val (.int (p1.toInt8.toInt32)), .val (.int (p2.toInt8.toInt32)), .val (.int (p3.toInt8.toInt32)), .val (.ref b5), .unset, .unset, .unset, .unset, .unset, .unset, .unset] [(.int (p2.toInt8.toInt32))])) _
    refine XS.iconst X8.here hx rfl (hb hby at_83) ?_
    show Steps p.tables e below (T8.setTop (mkF m 84 #[.val (.int p1), .val (.int p2), .val (.int p3), .val (.int p4), .val (.int (3 : Int32)), .val (.int (p1.toInt8.toInt32)), .val (.int (p2.toInt8.toInt32)), .val (.int (p3.toInt8.toInt32)), .val (.ref b5), .unset, .unset, .unset, .unset, .unset, .unset, .unset] [(.int (-1 : Int32)), (.int (p2.toInt8.toInt32))])) _
    refine XS.icmpYes X8.here hx rfl (pc0 := 84) (pc' := 93) rfl (hb hby at_84) rfl (teq m1).1 (by decide) (by decide) ?_
    show Steps p.tables e below (T8.setTop (mkF m 93 #[.val (.int p1), .val (.int p2), .val (.int p3), .val (.int p4), .val (.int (3 : Int32)), .val (.int (p1.toInt8.toInt32)), .val (.int (p2.toInt8.toInt32)), .val (.int (p3.toInt8.toInt32)), .val (.ref b5), .unset, .unset, .unset, .unset, .unset, .unset, .unset] [])) _
    refine XS.iload X8.here hx rfl (hb hby at_93) rfl ?_
    show Steps p.tables e below (T8.setTop (mkF m 95 #[.val (.int p1), .val (.int p2), .val (.int p3), .val (.int p4), .val (.int (3 : Int32)), .val (.int (p1.toInt8.toInt32)), .val (.int (p2.toInt8.toInt32)), .val (.int (p3.toInt8.toInt32)), .val (.ref b5), .unset, .unset, .unset, .unset, .unset, .unset, .unset] [(.int (p1.toInt8.toInt32))])) _
    refine XS.iconst X8.here hx rfl (hb hby at_95) ?_
    show Steps p.tables e below (T8.setTop (mkF m 96 #[.val (.int p1), .val (.int p2), .val (.int p3), .val (.int p4), .val (.int (3 : Int32)), .val (.int (p1.toInt8.toInt32)), .val (.int (p2.toInt8.toInt32)), .val (.int (p3.toInt8.toInt32)), .val (.ref b5), .unset, .unset, .unset, .unset, .unset, .unset, .unset] [(.int (-1 : Int32)), (.int (p1.toInt8.toInt32))])) _
    refine XS.icmpYes X8.here hx rfl (pc0 := 96) (pc' := 105) rfl (hb hby at_96) rfl (teq m0).1 (by decide) (by decide) ?_
    show Steps p.tables e below (T8.setTop (mkF m 105 #[.val (.int p1), .val (.int p2), .val (.int p3), .val (.int p4), .val (.int (3 : Int32)), .val (.int (p1.toInt8.toInt32)), .val (.int (p2.toInt8.toInt32)), .val (.int (p3.toInt8.toInt32)), .val (.ref b5), .unset, .unset, .unset, .unset, .unset, .unset, .unset] [])) _
    refine XS.iconst X8.here hx rfl (hb hby at_105) ?_
    show Steps p.tables e below (T8.setTop (mkF m 106 #[.val (.int p1), .val (.int p2), .val (.int p3), .val (.int p4), .val (.int (3 : Int32)), .val (.int (p1.toInt8.toInt32)), .val (.int (p2.toInt8.toInt32)), .val (.int (p3.toInt8.toInt32)), .val (.ref b5), .unset, .unset, .unset, .unset, .unset, .unset, .unset] [(.int (1 : Int32))])) _
    exact retN X8 hx (t := .boolean) Bd.returns (by simp) (hb hby at_106) hr
  · show Q0 h0 n0 _ T8.heap _
    rw [e8]
    exact ⟨rfl, N8⟩


theorem own_len (n : Int32) : (1 : Int32) + ((n &&& (3 : Int32)) % (3 : Int32)) = 1 ∨ (1 : Int32) + ((n &&& (3 : Int32)) % (3 : Int32)) = 2 ∨ (1 : Int32) + ((n &&& (3 : Int32)) % (3 : Int32)) = 3 := by
  have e : (n &&& 3).toInt = n.toInt % 2 ^ 2 := Jvm.Kit.i32_mask n 3 (k := 2) (by decide) (by decide)
  have h : (n &&& 3) = 0 ∨ (n &&& 3) = 1 ∨ (n &&& 3) = 2 ∨ (n &&& 3) = 3 := by
    generalize (n &&& 3) = q at *
    rcases (by omega : q.toInt = 0 ∨ q.toInt = 1 ∨ q.toInt = 2 ∨ q.toInt = 3) with h | h | h | h
    · exact Or.inl (Int32.toInt_inj.mp h)
    · exact Or.inr (Or.inl (Int32.toInt_inj.mp h))
    · exact Or.inr (Or.inr (Or.inl (Int32.toInt_inj.mp h)))
    · exact Or.inr (Or.inr (Or.inr (Int32.toInt_inj.mp h)))
  rcases h with h | h | h | h <;> rw [h] <;> decide
set_option maxRecDepth 65536 in
set_option maxHeartbeats 40000000 in
theorem rm0 (l : Launch) (Z : State) (a0 : Array Value) (hw : ∀ d ∈ tables_1, d.before a0 Z = true) (ws : List Jvm.Cond) (p1 : Int32) (p2 : Int32) (p3 : Int32) (p4 : Int32) (h0 : Heap) (n0 : Nat) (Z0 : n0 ≤ h0.size) :
    MetFree l x (head1 (Jvm.Cond.code x code maxLocals ret :: ws) room_1) (fun a U => a = #[(.int p1), (.int p2), (.int p3), (.int p4)] ∧ Z.Warmed39 U.vm ∧ U.heap = h0) (fun _ _ _ _ _ => True) (fun _ U o U' => ∃ v L, o = .returned v ∧ Q0 h0 n0 v U'.heap L ∧ FrameEnd U o U' L room_1.cells room_1.slots) := by
  rcases own_len p4 with hz | hz | hz
  · by_cases m0 : (p1.toInt8.toInt32) = (-1 : Int32)
    · exact rm0_1r l Z a0 hw ws p1 p2 p3 p4 h0 n0 Z0 hz m0
    · exact rm0_10 l Z a0 hw ws p1 p2 p3 p4 h0 n0 Z0 hz m0
  · by_cases m1 : (p2.toInt8.toInt32) = (-1 : Int32)
    · by_cases m0 : (p1.toInt8.toInt32) = (-1 : Int32)
      · exact rm0_2r l Z a0 hw ws p1 p2 p3 p4 h0 n0 Z0 hz m1 m0
      · exact rm0_20 l Z a0 hw ws p1 p2 p3 p4 h0 n0 Z0 hz m1 m0
    · exact rm0_21 l Z a0 hw ws p1 p2 p3 p4 h0 n0 Z0 hz m1
  · by_cases m2 : (p3.toInt8.toInt32) = (-1 : Int32)
    · by_cases m1 : (p2.toInt8.toInt32) = (-1 : Int32)
      · by_cases m0 : (p1.toInt8.toInt32) = (-1 : Int32)
        · exact rm0_3r l Z a0 hw ws p1 p2 p3 p4 h0 n0 Z0 hz m2 m1 m0
        · exact rm0_30 l Z a0 hw ws p1 p2 p3 p4 h0 n0 Z0 hz m2 m1 m0
      · exact rm0_31 l Z a0 hw ws p1 p2 p3 p4 h0 n0 Z0 hz m2 m1
    · exact rm0_32 l Z a0 hw ws p1 p2 p3 p4 h0 n0 Z0 hz m2
set_option maxRecDepth 65536 in
set_option maxHeartbeats 40000000 in
theorem comes_1 {Post : Tables → Env → Array Value → State → Outcome → State → Prop} (hpost : ∀ tb e args s v u, (limb_1_1.after args s (.returned v) u = true ∧ limb_1_2.after args s (.returned v) u = true ∧ True) → FrameEnd s (.returned v) u (Jvm.fieldLocs frame_1_writes args s ++ Jvm.arrayLocs frame_1_arrays args s ++ Jvm.staticLocs frame_1_statics s) 16 128 → Post tb e args s (.returned v) u) :
    ArmFor flags0 classFile x code maxLocals ret World_1 tables_1 room_1 Calls_1 rest_1 Pre_1 Post := by
  intro l hfl _ _ p e ha hc hk s m args below hf hA hF happ hP
  obtain ⟨hcalls, hrest, hpre⟩ := hP
  obtain ⟨-, -, -, hnamed, -, -, -, hat⟩ := (Spec.applies_iff hf).mp happ
  obtain ⟨hg, hn⟩ := and_e (Cond.before_iff.mp (show (Jvm.Cond.and given_1 narrow_1).before args s = true from hpre))
  obtain ⟨g13, g14⟩ := and_e hg
  obtain ⟨g15, g16⟩ := and_e g14
  obtain ⟨g17, g18⟩ := and_e g16
  obtain ⟨g19, g20⟩ := and_e g18
  obtain ⟨w0, w1, w2, w3, rfl⟩ : ∃ w0 w1 w2 w3 : Value, args = #[w0, w1, w2, w3] := by
    have hs : args.size = 4 := by simpa [Cond.value, given_1] using g13
    obtain ⟨L⟩ := args
    match L, hs with
    | [w0, w1, w2, w3], _ => exact ⟨w0, w1, w2, w3, rfl⟩
  have hw := fun d (hd : d ∈ tables_1) => atoms_spec (ws := Jvm.Cond.code x code maxLocals ret :: tables_1) hat d (List.mem_cons_of_mem _ hd)
  have hfit : Fit s := fun {y c} hc i hi => by
    obtain ⟨ha, rfl⟩ := Array.getElem?_eq_some_iff.mp hc
    have q := List.all_eq_true.mp ((Array.all_eq_true_iff_forall_mem.mp hF) _ (Array.getElem_mem ha)) i (List.mem_range.mpr hi)
    simpa [Array.getElem?_eq_getElem hi] using q
  obtain ⟨i0, ei0⟩ := is_v g15
  obtain rfl : w0 = (.int i0) := Option.some.inj ei0
  obtain ⟨i1, ei1⟩ := is_v g17
  obtain rfl : w1 = (.int i1) := Option.some.inj ei1
  obtain ⟨i2, ei2⟩ := is_v g19
  obtain rfl : w2 = (.int i2) := Option.some.inj ei2
  obtain ⟨i3, ei3⟩ := is_v g20
  obtain rfl : w3 = (.int i3) := Option.some.inj ei3
  obtain ⟨n, o, h1, h2, h3, _, L, rfl, ⟨rfl, N⟩, hq⟩ := rm0 l s _ hw tables_1 i0 i1 i2 i3 s.heap s.heap.size (Nat.le_refl _) p e ha hc hk s m _ below hf ((Spec.applies_iff_loose hf).mp happ).1 ⟨rfl, State.Warmed39.refl s, rfl⟩ trivial
  refine ⟨n, _, h1, h2, h3, hpost _ _ _ _ _ _ ⟨Cond.after_iff.mpr rfl, Cond.after_iff.mpr (eq_i res_at (Term.int_eval (1)) rfl), trivial⟩ ⟨hq.1, hq.2.1, (hq.2.2.sift fun y hy => Or.inr (N y hy)).mono (by decide) (by decide)⟩⟩
theorem main_1_1 : Claimed_1_1 := comes_1 fun _ _ _ _ _ _ h hF => ⟨h.1, hF⟩
theorem main_1_2 : Claimed_1_2 := comes_1 fun _ _ _ _ _ _ h hF => ⟨h.2.1, hF⟩

end Jvm.Pilot.@@N@@
namespace Jvm.Pilot.@@N@@
open Jvm Jvm.ClassFile Sem Op Lib Jvm.Free Jvm.Stand Jvm.Pilot.@@N@@.Jvm.D
/-! MADE BY PROGRAM (witnessworld.py) out of the Statement's table words and the real class files: 13 classes; the members and pool entries that the words name. The judged class is class 1, her method 1. -/
namespace start1
open Jvm.ClassFile
def u (s : String) : CpInfo := .utf8 (stringToUtf16 s)
/-- a pool by its gaps: so many unusable entries, then the entry; so many at the end -/
def gap : Nat → List CpInfo → List CpInfo
  | 0, r => r
  | n + 1, r => .unusable :: gap n r
def poolList (es : List (Nat × CpInfo)) (last : Nat) : List CpInfo := es.foldr (fun e r => gap e.1 (e.2 :: r)) (gap last [])
def pool (es : List (Nat × CpInfo)) (last : Nat) : Array CpInfo := ⟨poolList es last⟩
def fileOf (pool : Array CpInfo) (this : Nat) (attrs : Array Attribute := #[]) (ms : Array MethodInfo := #[]) (fl : Nat := 33) (sup : Nat := 0) (ifs : Array Nat := #[]) (fds : Array FieldInfo := #[]) : ClassFile where
  minorVersion := 0
  majorVersion := 65
  constantPool := pool
  accessFlags := fl
  thisClass := this
  superClass := sup
  interfaces := ifs
  fields := fds
  methods := ms
  attributes := attrs
def plain (name : String) (sup : Option ClassId) : Class where
  name := name
  kind := .ordinary
  loader := none
  accessFlags := 33
  super := sup
  interfaces := #[]
  cf := none
  fields := #[]
  methods := #[]
  instanceTypes := #[]
  staticTypes := #[]
  resolved := #[]
  callSites := []
  init := .initialized
  statics := none
  mirror := none

def pool0 : Array CpInfo := pool [(5, u "<init>"), (0, u "()V"), (1, .class_ 10), (1, u "java/lang/Object"), (85, u "clone"), (0, u "()Ljava/lang/Object;")] 26

def k0c0 : Code := { maxStack := 0, maxLocals := 1, code := object_method_1_code, exceptionTable := #[], attributes := #[] }
def k0m0 : Method := { name := "<init>", desc := "()V", sig := { parameters := [], returnType := none }, accessFlags := 1, code := some k0c0 }
def k0m1 : Method := { name := "clone", desc := "()Ljava/lang/Object;", sig := { parameters := [], returnType := some (.object "java/lang/Object") }, accessFlags := 260, code := none }
/-- java/lang/Object -/
def k0 : Class := { plain "java/lang/Object" none with
  accessFlags := 33
  interfaces := #[]
  cf := some (fileOf pool0 8 #[] #[{ accessFlags := 1, nameIndex := 5, descriptorIndex := 6, attributes := #[] }, { accessFlags := 260, nameIndex := 96, descriptorIndex := 97, attributes := #[] }] 33 0 #[] #[])
  fields := #[]
  methods := #[k0m0, k0m1]
  instanceTypes := #[]
  staticTypes := #[]
  resolved := Array.replicate 124 none
  statics := none }

def pool1 : Array CpInfo := pool [(2, .class_ 4), (1, u "java/lang/Object"), (0, u "<init>"), (0, u "()V"), (0, .methodref 8 9), (0, .class_ 10), (0, .nameAndType 11 12), (0, u "com/example/coord2/coord2/KeyRange"), (0, u "prefix"), (0, u "([B)Lcom/example/coord2/coord2/KeyRange;"), (0, .methodref 8 14), (0, .nameAndType 15 16), (0, u "lower"), (0, u "()[B"), (0, .methodref 8 18), (0, .nameAndType 19 16), (0, u "upper"), (0, .methodref 21 22), (0, .class_ 23), (0, .nameAndType 24 25), (0, u "com/example/coord2/coord2/KeyRangePrefixPinLaw"), (0, u "same"), (0, u "([BIBBB)Z"), (2, u "law"), (0, u "(IIII)Z")] 5

def k1m0 : Method := { name := "<init>", desc := "()V", sig := { parameters := [], returnType := none }, accessFlags := 1, code := none }
def k1c1 : Code := { maxStack := 5, maxLocals := 16, code := code, exceptionTable := #[], attributes := #[] }
def k1m1 : Method := { name := "law", desc := "(IIII)Z", sig := { parameters := [.int, .int, .int, .int], returnType := some .boolean }, accessFlags := 9, code := some k1c1 }
def k1c2 : Code := { maxStack := 2, maxLocals := 5, code := method_3_code, exceptionTable := #[], attributes := #[] }
def k1m2 : Method := { name := "same", desc := "([BIBBB)Z", sig := { parameters := [(.array .byte), .int, .byte, .byte, .byte], returnType := some .boolean }, accessFlags := 10, code := some k1c2 }
/-- com/example/coord2/coord2/KeyRangePrefixPinLaw -/
def k1 : Class := { plain "com/example/coord2/coord2/KeyRangePrefixPinLaw" (some 0) with
  accessFlags := 49
  interfaces := #[]
  cf := some (fileOf pool1 21 #[] #[{ accessFlags := 1, nameIndex := 5, descriptorIndex := 6, attributes := #[] }, { accessFlags := 9, nameIndex := 28, descriptorIndex := 29, attributes := #[] }, { accessFlags := 10, nameIndex := 24, descriptorIndex := 25, attributes := #[] }] 49 2 #[] #[])
  fields := #[]
  methods := #[k1m0, k1m1, k1m2]
  instanceTypes := #[]
  staticTypes := #[]
  resolved := Array.replicate 35 none
  statics := none }

def pool2 : Array CpInfo := pool [(1, .methodref 2 3), (0, .class_ 4), (0, .nameAndType 5 6), (0, u "java/lang/Object"), (0, u "<init>"), (0, u "()V"), (0, .class_ 8), (0, u "java/lang/Record")] 13

def k2c0 : Code := { maxStack := 1, maxLocals := 1, code := jdk_30_method_1_code, exceptionTable := #[], attributes := #[] }
def k2m0 : Method := { name := "<init>", desc := "()V", sig := { parameters := [], returnType := none }, accessFlags := 4, code := some k2c0 }
/-- java/lang/Record -/
def k2 : Class := { plain "java/lang/Record" (some 0) with
  accessFlags := 1057
  interfaces := #[]
  cf := some (fileOf pool2 7 #[] #[{ accessFlags := 4, nameIndex := 5, descriptorIndex := 6, attributes := #[] }] 1057 2 #[] #[])
  fields := #[]
  methods := #[k2m0]
  instanceTypes := #[]
  staticTypes := #[]
  resolved := Array.replicate 22 none
  statics := none }

def pool3 : Array CpInfo := pool [(1, .methodref 2 3), (0, .class_ 4), (0, .nameAndType 5 6), (0, u "java/lang/Record"), (0, u "<init>"), (0, u "()V"), (0, .fieldref 8 9), (0, .class_ 10), (0, .nameAndType 11 12), (0, u "com/example/coord2/coord2/KeyRange"), (0, u "lower"), (0, u "[B"), (0, .fieldref 8 14), (0, .nameAndType 15 12), (0, u "upper"), (0, .methodref 8 17), (0, .nameAndType 18 19), (0, u "successor"), (0, u "([B)[B"), (0, .methodref 8 21), (0, .nameAndType 5 22), (0, u "([B[B)V"), (1, .class_ 26), (1, u "java/util/Arrays"), (2, .methodref 24 30), (0, .nameAndType 31 32), (0, u "copyOf"), (0, u "([BI)[B"), (14, u "ALL"), (0, u "Lcom/example/coord2/coord2/KeyRange;"), (3, u "prefix"), (0, u "([B)Lcom/example/coord2/coord2/KeyRange;"), (6, u "()[B")] 22

def k3c0 : Code := { maxStack := 2, maxLocals := 3, code := prog_1_method_1_code, exceptionTable := #[], attributes := #[] }
def k3m0 : Method := { name := "<init>", desc := "([B[B)V", sig := { parameters := [(.array .byte), (.array .byte)], returnType := none }, accessFlags := 0, code := some k3c0 }
def k3c1 : Code := { maxStack := 4, maxLocals := 1, code := prog_1_method_2_code, exceptionTable := #[], attributes := #[] }
def k3m1 : Method := { name := "prefix", desc := "([B)Lcom/example/coord2/coord2/KeyRange;", sig := { parameters := [(.array .byte)], returnType := some (.object "com/example/coord2/coord2/KeyRange") }, accessFlags := 8, code := some k3c1 }
def k3c2 : Code := { maxStack := 4, maxLocals := 3, code := prog_1_method_4_code, exceptionTable := #[], attributes := #[] }
def k3m2 : Method := { name := "successor", desc := "([B)[B", sig := { parameters := [(.array .byte)], returnType := some (.array .byte) }, accessFlags := 10, code := some k3c2 }
def k3c3 : Code := { maxStack := 1, maxLocals := 1, code := prog_1_method_8_code, exceptionTable := #[], attributes := #[] }
def k3m3 : Method := { name := "lower", desc := "()[B", sig := { parameters := [], returnType := some (.array .byte) }, accessFlags := 1, code := some k3c3 }
def k3c4 : Code := { maxStack := 1, maxLocals := 1, code := prog_1_method_9_code, exceptionTable := #[], attributes := #[] }
def k3m4 : Method := { name := "upper", desc := "()[B", sig := { parameters := [], returnType := some (.array .byte) }, accessFlags := 1, code := some k3c4 }
/-- com/example/coord2/coord2/KeyRange -/
def k3 : Class := { plain "com/example/coord2/coord2/KeyRange" (some 2) with
  accessFlags := 48
  interfaces := #[]
  cf := some (fileOf pool3 8 #[] #[{ accessFlags := 0, nameIndex := 5, descriptorIndex := 22, attributes := #[] }, { accessFlags := 8, nameIndex := 52, descriptorIndex := 53, attributes := #[] }, { accessFlags := 10, nameIndex := 18, descriptorIndex := 19, attributes := #[] }, { accessFlags := 1, nameIndex := 11, descriptorIndex := 60, attributes := #[] }, { accessFlags := 1, nameIndex := 15, descriptorIndex := 60, attributes := #[] }] 48 2 #[] #[{ accessFlags := 18, nameIndex := 11, descriptorIndex := 12, attributes := #[] }, { accessFlags := 18, nameIndex := 15, descriptorIndex := 12, attributes := #[] }, { accessFlags := 24, nameIndex := 47, descriptorIndex := 48, attributes := #[] }])
  fields := #[{ name := "lower", type := (.array .byte), accessFlags := 18, slot := 0, constantValue := 0 }, { name := "upper", type := (.array .byte), accessFlags := 18, slot := 1, constantValue := 0 }, { name := "ALL", type := (.object "com/example/coord2/coord2/KeyRange"), accessFlags := 24, slot := 0, constantValue := 0 }]
  methods := #[k3m0, k3m1, k3m2, k3m3, k3m4]
  instanceTypes := #[(.array .byte), (.array .byte)]
  staticTypes := #[(.object "com/example/coord2/coord2/KeyRange")]
  resolved := Array.replicate 83 none
  statics := none }

def pool4 : Array CpInfo := pool [(2, .class_ 4), (1, u "java/lang/Object"), (0, u "<init>"), (0, u "()V"), (7, .class_ 16), (1, u "java/util/Arrays"), (57, .class_ 76), (1, u "java/util/Arrays$NaturalOrder"), (32, u "()Ljava/lang/Object;"), (3, .class_ 115), (1, u "java/util/Arrays$LegacyMergeSort"), (1, u "Z"), (10, .nameAndType 129 109), (0, u "clone"), (20, .methodref 151 152), (0, .class_ 153), (0, .nameAndType 154 155), (0, u "java/lang/System"), (0, u "arraycopy"), (0, u "(Ljava/lang/Object;ILjava/lang/Object;II)V"), (146, u "copyOf"), (1, .methodref 305 306), (0, .class_ 307), (0, .nameAndType 308 309), (0, u "java/lang/Math"), (0, u "min"), (0, u "(II)I"), (0, .methodref 311 128), (0, .class_ 312), (0, u "[B"), (62, .class_ 376), (0, u "java/util/Arrays$ArrayList"), (68, u "$assertionsDisabled"), (269, u "MIN_ARRAY_SORT_GRAN"), (0, u "I"), (2, u "INSERTIONSORT_THRESHOLD"), (149, u "([BI)[B"), (105, .class_ 976), (0, u "java/util/Arrays$ArrayItr")] 52

def k4m0 : Method := { name := "<init>", desc := "()V", sig := { parameters := [], returnType := none }, accessFlags := 2, code := none }
def k4c1 : Code := { maxStack := 6, maxLocals := 3, code := jdk_65_method_121_code, exceptionTable := #[], attributes := #[] }
def k4m1 : Method := { name := "copyOf", desc := "([BI)[B", sig := { parameters := [(.array .byte), .int], returnType := some (.array .byte) }, accessFlags := 9, code := some k4c1 }
/-- java/util/Arrays -/
def k4 : Class := { plain "java/util/Arrays" (some 0) with
  accessFlags := 49
  interfaces := #[]
  cf := some (fileOf pool4 14 #[.nestMembers #[975, 375, 113, 74]] #[{ accessFlags := 2, nameIndex := 5, descriptorIndex := 6, attributes := #[] }, { accessFlags := 9, nameIndex := 302, descriptorIndex := 869, attributes := #[] }] 49 2 #[] #[{ accessFlags := 26, nameIndex := 715, descriptorIndex := 716, attributes := #[] }, { accessFlags := 26, nameIndex := 719, descriptorIndex := 716, attributes := #[] }, { accessFlags := 4120, nameIndex := 445, descriptorIndex := 117, attributes := #[] }])
  fields := #[{ name := "MIN_ARRAY_SORT_GRAN", type := .int, accessFlags := 26, slot := 0, constantValue := 0 }, { name := "INSERTIONSORT_THRESHOLD", type := .int, accessFlags := 26, slot := 1, constantValue := 0 }, { name := "$assertionsDisabled", type := .boolean, accessFlags := 4120, slot := 2, constantValue := 0 }]
  methods := #[k4m0, k4m1]
  instanceTypes := #[]
  staticTypes := #[.int, .int, .boolean]
  resolved := Array.replicate 1029 none
  statics := none }

def pool5 : Array CpInfo := pool [(1, .class_ 2), (0, u "java/lang/Cloneable"), (0, .class_ 4), (0, u "java/lang/Object")] 2

/-- java/lang/Cloneable -/
def k5 : Class := { plain "java/lang/Cloneable" (some 0) with
  accessFlags := 1537
  interfaces := #[]
  cf := some (fileOf pool5 1 #[] #[] 1537 3 #[] #[])
  fields := #[]
  methods := #[]
  instanceTypes := #[]
  staticTypes := #[]
  resolved := Array.replicate 7 none
  statics := none }

def pool6 : Array CpInfo := pool [(1, .class_ 2), (0, u "java/lang/Math"), (1, .class_ 6), (1, u "java/lang/Object"), (0, u "<init>"), (0, u "()V"), (89, .class_ 100), (1, u "java/lang/Math$RandomNumberGeneratorHolder"), (71, u "negativeZeroFloatBits"), (0, u "J"), (2, u "negativeZeroDoubleBits"), (24, u "min"), (43, u "$assertionsDisabled"), (0, u "Z"), (88, u "(II)I"), (2, u "twoToTheDoubleScaleDown"), (0, u "D"), (4, u "twoToTheDoubleScaleUp"), (9, u "E"), (3, u "PI"), (2, u "TAU"), (2, u "DEGREES_TO_RADIANS"), (0, u "RADIANS_TO_DEGREES")] 94

def k6m0 : Method := { name := "<init>", desc := "()V", sig := { parameters := [], returnType := none }, accessFlags := 2, code := none }
def k6c1 : Code := { maxStack := 2, maxLocals := 2, code := jdk_29_method_69_code, exceptionTable := #[], attributes := #[] }
def k6m1 : Method := { name := "min", desc := "(II)I", sig := { parameters := [.int, .int], returnType := some .int }, accessFlags := 9, code := some k6c1 }
/-- java/lang/Math -/
def k6 : Class := { plain "java/lang/Math" (some 0) with
  accessFlags := 49
  interfaces := #[]
  cf := some (fileOf pool6 1 #[.nestMembers #[98]] #[{ accessFlags := 2, nameIndex := 7, descriptorIndex := 8, attributes := #[] }, { accessFlags := 9, nameIndex := 201, descriptorIndex := 335, attributes := #[] }] 49 4 #[] #[{ accessFlags := 25, nameIndex := 354, descriptorIndex := 339, attributes := #[] }, { accessFlags := 25, nameIndex := 358, descriptorIndex := 339, attributes := #[] }, { accessFlags := 25, nameIndex := 361, descriptorIndex := 339, attributes := #[] }, { accessFlags := 26, nameIndex := 364, descriptorIndex := 339, attributes := #[] }, { accessFlags := 26, nameIndex := 365, descriptorIndex := 339, attributes := #[] }, { accessFlags := 26, nameIndex := 172, descriptorIndex := 173, attributes := #[] }, { accessFlags := 26, nameIndex := 176, descriptorIndex := 173, attributes := #[] }, { accessFlags := 8, nameIndex := 344, descriptorIndex := 339, attributes := #[] }, { accessFlags := 8, nameIndex := 338, descriptorIndex := 339, attributes := #[] }, { accessFlags := 4120, nameIndex := 245, descriptorIndex := 246, attributes := #[] }])
  fields := #[{ name := "E", type := .double, accessFlags := 25, slot := 0, constantValue := 0 }, { name := "PI", type := .double, accessFlags := 25, slot := 1, constantValue := 0 }, { name := "TAU", type := .double, accessFlags := 25, slot := 2, constantValue := 0 }, { name := "DEGREES_TO_RADIANS", type := .double, accessFlags := 26, slot := 3, constantValue := 0 }, { name := "RADIANS_TO_DEGREES", type := .double, accessFlags := 26, slot := 4, constantValue := 0 }, { name := "negativeZeroFloatBits", type := .long, accessFlags := 26, slot := 5, constantValue := 0 }, { name := "negativeZeroDoubleBits", type := .long, accessFlags := 26, slot := 6, constantValue := 0 }, { name := "twoToTheDoubleScaleUp", type := .double, accessFlags := 8, slot := 7, constantValue := 0 }, { name := "twoToTheDoubleScaleDown", type := .double, accessFlags := 8, slot := 8, constantValue := 0 }, { name := "$assertionsDisabled", type := .boolean, accessFlags := 4120, slot := 9, constantValue := 0 }]
  methods := #[k6m0, k6m1]
  instanceTypes := #[]
  staticTypes := #[.double, .double, .double, .double, .double, .long, .long, .double, .double, .boolean]
  resolved := Array.replicate 460 none
  statics := none }

def pool7 : Array CpInfo := pool [(2, .class_ 4), (1, u "java/lang/Object"), (0, u "<init>"), (0, u "()V"), (1, .class_ 10), (1, u "java/lang/System"), (0, u "allowSecurityManager"), (0, u "I"), (16, u "cons"), (0, u "Ljava/io/Console;"), (77, .class_ 110), (1, u "java/lang/System$CallersHolder"), (43, u "initialErrStream"), (0, u "Ljava/io/PrintStream;"), (19, u "security"), (0, u "Ljava/lang/SecurityManager;"), (31, .class_ 209), (0, u "java/lang/System$1"), (7, u "props"), (0, u "Ljava/util/Properties;"), (2, u "lineSeparator"), (0, u "Ljava/lang/String;"), (96, .class_ 321), (1, u "java/lang/System$LoggerFinder"), (5, .class_ 328), (0, u "java/lang/System$Logger"), (67, u "err"), (2, u "out"), (91, u "notSupportedJnuEncoding"), (15, u "in"), (17, u "initialIn"), (0, u "Ljava/io/InputStream;"), (35, u "bootLayer"), (0, u "Ljava/lang/ModuleLayer;"), (99, .class_ 664), (0, u "java/lang/System$2"), (9, u "NEVER"), (2, u "MAYBE"), (49, u "arraycopy"), (0, u "(Ljava/lang/Object;ILjava/lang/Object;II)V"), (72, .class_ 802), (0, u "java/lang/System$Logger$Level")] 31

def k7m0 : Method := { name := "<init>", desc := "()V", sig := { parameters := [], returnType := none }, accessFlags := 2, code := none }
def k7m1 : Method := { name := "arraycopy", desc := "(Ljava/lang/Object;ILjava/lang/Object;II)V", sig := { parameters := [(.object "java/lang/Object"), .int, (.object "java/lang/Object"), .int, .int], returnType := none }, accessFlags := 265, code := none }
/-- java/lang/System -/
def k7 : Class := { plain "java/lang/System" (some 0) with
  accessFlags := 49
  interfaces := #[]
  cf := some (fileOf pool7 8 #[.nestMembers #[319, 327, 801, 108, 663, 208]] #[{ accessFlags := 2, nameIndex := 5, descriptorIndex := 6, attributes := #[] }, { accessFlags := 265, nameIndex := 727, descriptorIndex := 728, attributes := #[] }] 49 2 #[] #[{ accessFlags := 25, nameIndex := 507, descriptorIndex := 526, attributes := #[] }, { accessFlags := 25, nameIndex := 399, descriptorIndex := 155, attributes := #[] }, { accessFlags := 25, nameIndex := 396, descriptorIndex := 155, attributes := #[] }, { accessFlags := 10, nameIndex := 525, descriptorIndex := 526, attributes := #[] }, { accessFlags := 26, nameIndex := 674, descriptorIndex := 12, attributes := #[] }, { accessFlags := 26, nameIndex := 677, descriptorIndex := 12, attributes := #[] }, { accessFlags := 10, nameIndex := 11, descriptorIndex := 12, attributes := #[] }, { accessFlags := 74, nameIndex := 175, descriptorIndex := 176, attributes := #[] }, { accessFlags := 10, nameIndex := 491, descriptorIndex := 222, attributes := #[] }, { accessFlags := 74, nameIndex := 29, descriptorIndex := 30, attributes := #[] }, { accessFlags := 74, nameIndex := 154, descriptorIndex := 155, attributes := #[] }, { accessFlags := 10, nameIndex := 217, descriptorIndex := 218, attributes := #[] }, { accessFlags := 10, nameIndex := 221, descriptorIndex := 222, attributes := #[] }, { accessFlags := 8, nameIndex := 562, descriptorIndex := 563, attributes := #[] }])
  fields := #[{ name := "in", type := (.object "java/io/InputStream"), accessFlags := 25, slot := 0, constantValue := 0 }, { name := "out", type := (.object "java/io/PrintStream"), accessFlags := 25, slot := 1, constantValue := 0 }, { name := "err", type := (.object "java/io/PrintStream"), accessFlags := 25, slot := 2, constantValue := 0 }, { name := "initialIn", type := (.object "java/io/InputStream"), accessFlags := 10, slot := 3, constantValue := 0 }, { name := "NEVER", type := .int, accessFlags := 26, slot := 4, constantValue := 0 }, { name := "MAYBE", type := .int, accessFlags := 26, slot := 5, constantValue := 0 }, { name := "allowSecurityManager", type := .int, accessFlags := 10, slot := 6, constantValue := 0 }, { name := "security", type := (.object "java/lang/SecurityManager"), accessFlags := 74, slot := 7, constantValue := 0 }, { name := "notSupportedJnuEncoding", type := (.object "java/lang/String"), accessFlags := 10, slot := 8, constantValue := 0 }, { name := "cons", type := (.object "java/io/Console"), accessFlags := 74, slot := 9, constantValue := 0 }, { name := "initialErrStream", type := (.object "java/io/PrintStream"), accessFlags := 74, slot := 10, constantValue := 0 }, { name := "props", type := (.object "java/util/Properties"), accessFlags := 10, slot := 11, constantValue := 0 }, { name := "lineSeparator", type := (.object "java/lang/String"), accessFlags := 10, slot := 12, constantValue := 0 }, { name := "bootLayer", type := (.object "java/lang/ModuleLayer"), accessFlags := 8, slot := 13, constantValue := 0 }]
  methods := #[k7m0, k7m1]
  instanceTypes := #[]
  staticTypes := #[(.object "java/io/InputStream"), (.object "java/io/PrintStream"), (.object "java/io/PrintStream"), (.object "java/io/InputStream"), .int, .int, .int, (.object "java/lang/SecurityManager"), (.object "java/lang/String"), (.object "java/io/Console"), (.object "java/io/PrintStream"), (.object "java/util/Properties"), (.object "java/lang/String"), (.object "java/lang/ModuleLayer")]
  resolved := Array.replicate 834 none
  statics := none }

def pool8 : Array CpInfo := pool [(1, u "java/io/Serializable"), (0, .class_ 1), (0, u "java/lang/Object"), (0, .class_ 3)] 3

/-- java/io/Serializable -/
def k8 : Class := { plain "java/io/Serializable" (some 0) with
  accessFlags := 1537
  interfaces := #[]
  cf := some (fileOf pool8 2 #[] #[] 1537 4 #[] #[])
  fields := #[]
  methods := #[]
  instanceTypes := #[]
  staticTypes := #[]
  resolved := Array.replicate 8 none
  statics := none }

/-- the primitive byte -/
def k9 : Class := { plain "byte" none with kind := .primitive 'B', accessFlags := 0x411 }
/-- [B -/
def k10 : Class := { plain "[B" (some 0) with kind := .array 9 .byte, interfaces := #[5, 8], accessFlags := 1041 }

/-- the primitive int -/
def k11 : Class := { plain "int" none with kind := .primitive 'I', accessFlags := 0x411 }
/-- [I -/
def k12 : Class := { plain "[I" (some 0) with kind := .array 11 .int, interfaces := #[5, 8], accessFlags := 1041 }

def heap : Heap := #[]
def classes : Array Class := #[k0, k1, k2, k3, k4, k5, k6, k7, k8, k9, k10, k11, k12]
def interned : List (Array UInt16 × Addr) := []
def slotsUsed : Nat := 0
def theMethod : MethodId := ⟨1, 1⟩
def args0 : Array Value := #[.int 5, .int 7, .int 9, .int 2]
def aboutOver (below : List Frame) : State where
  vm := { classes := classes, interned := interned.toArray }
  heap := heap
  slotsUsed := slotsUsed
  threads := #[{ frames := .invoking theMethod args0 :: below }]
def below0 : List Frame := [.native { method := ⟨0, 0⟩, args := #[] }]
def about1 : State := aboutOver below0
def p0 : Program := .bare "" "" ""
def e0 : Env := launch0.env 0 0 0
theorem w_frames : about1.frames = Frame.invoking theMethod args0 :: below0 := rfl
set_option maxRecDepth 65536 in
theorem w_args : argsFit about1.vm theMethod args0 = true := by decide +kernel
set_option maxRecDepth 65536 in
theorem w_heap : heapFits about1 = true := by decide +kernel
set_option maxRecDepth 65536 in
theorem w_runnable : about1.curStatus? = some .runnable := by decide +kernel
set_option maxRecDepth 65536 in
theorem w_alone : about1.alone = true := by decide +kernel
set_option maxRecDepth 65536 in
theorem w_named : about1.methodNamed? x = some theMethod := by decide +kernel
set_option maxRecDepth 65536 in
theorem w_hears : about1.hears theMethod below0 = true := by decide +kernel
set_option maxRecDepth 65536 in
theorem w_ripe : about1.ripe theMethod args0 below0 = true := by decide +kernel
theorem w_running : about1.status = .running := rfl
set_option maxRecDepth 65536 in
theorem w_room : about1.hasRoom e0.platform room_1 = true :=
  launch0.hasRoom_least _ room_1 (by decide +kernel) (by decide +kernel) (by decide +kernel) (by decide +kernel) (by decide +kernel) (by decide +kernel)
theorem allAtoms_all (ts : List Jvm.Cond) (a : Array Jvm.Value) (st : Jvm.State) : (allAtoms ts).before a st = ts.all (fun c => c.before a st) := by
  induction ts with
  | nil => rfl
  | cons c t ih =>
    show (Jvm.Cond.and c (allAtoms t)).before a st = _
    rw [Jvm.Cond.before_and, ih, List.all_cons]
def words1 : List Jvm.Cond := Jvm.Cond.code x code maxLocals ret :: tables_1
/-- a 'code' word, met by the world's own term for the bytes: nothing is compared byte by byte -/
theorem code_word {y : MethodName} {bytes : ByteArray} {mx : Nat} {rt : Option FieldType} {a : Array Value} {s : State} {m : MethodId} {meth : Method} {c : Code} (h1 : s.methodNamed? y = some m) (h2 : s.vm.method? m = some meth) (h3 : meth.code = some c) (h4 : c.code = bytes)
    (h5 : (c.maxLocals == mx && c.exceptionTable.isEmpty && decide (c.maxStack ≤ mostOperands) && decide (meth.sig.returnType = rt) && !meth.locks && decide (parseMethodDescriptor y.desc = some meth.sig)) = true) : (Jvm.Cond.code y bytes mx rt).before a s = true := by
  simp only [Bool.and_eq_true, beq_iff_eq, Bool.not_eq_true', decide_eq_true_eq] at h5
  obtain ⟨⟨⟨⟨⟨g1, g2⟩, g3⟩, g4⟩, g5⟩, g6⟩ := h5
  simp [Cond.before, Cond.holds, Cond.value, h1, h2, h3, h4, g1, g2, g3, g4, g5, g6]
def isCode : Jvm.Cond → Bool
  | .code _ _ _ _ => true
  | _ => false
theorem all_split {L : List Jvm.Cond} {P : Jvm.Cond → Bool} (h1 : L.all (fun c => isCode c || P c) = true) (h2 : ∀ c ∈ L.filter isCode, P c = true) : L.all P = true := by
  refine List.all_eq_true.mpr fun c hc => ?_
  have h := List.all_eq_true.mp h1 c hc
  rcases Bool.eq_false_or_eq_true (isCode c) with hi | hi
  · exact h2 c (List.mem_filter.mpr ⟨hc, hi⟩)
  · simpa [hi] using h
set_option maxRecDepth 65536 in
theorem w_c0 : (Jvm.Cond.code x code maxLocals ret).before args0 about1 = true := code_word (m := ⟨1, 1⟩) (meth := k1m1) (c := k1c1) (by decide +kernel) rfl rfl rfl (by decide +kernel)
set_option maxRecDepth 65536 in
theorem w_c1 : (Jvm.Cond.code ({ cls := "com/example/coord2/coord2/KeyRange", name := "prefix", desc := "([B)Lcom/example/coord2/coord2/KeyRange;" } : Jvm.MethodName) prog_1_method_2_code (1 : Nat) (Option.some (Jvm.ClassFile.FieldType.object "com/example/coord2/coord2/KeyRange"))).before args0 about1 = true := code_word (m := ⟨3, 1⟩) (meth := k3m1) (c := k3c1) (by decide +kernel) rfl rfl rfl (by decide +kernel)
set_option maxRecDepth 65536 in
theorem w_c2 : (Jvm.Cond.code ({ cls := "com/example/coord2/coord2/KeyRange", name := "successor", desc := "([B)[B" } : Jvm.MethodName) prog_1_method_4_code (3 : Nat) (Option.some (Jvm.ClassFile.FieldType.array Jvm.ClassFile.FieldType.byte))).before args0 about1 = true := code_word (m := ⟨3, 2⟩) (meth := k3m2) (c := k3c2) (by decide +kernel) rfl rfl rfl (by decide +kernel)
set_option maxRecDepth 65536 in
theorem w_c3 : (Jvm.Cond.code ({ cls := "java/util/Arrays", name := "copyOf", desc := "([BI)[B" } : Jvm.MethodName) jdk_65_method_121_code (3 : Nat) (Option.some (Jvm.ClassFile.FieldType.array Jvm.ClassFile.FieldType.byte))).before args0 about1 = true := code_word (m := ⟨4, 1⟩) (meth := k4m1) (c := k4c1) (by decide +kernel) rfl rfl rfl (by decide +kernel)
set_option maxRecDepth 65536 in
theorem w_c4 : (Jvm.Cond.code ({ cls := "com/example/coord2/coord2/KeyRange", name := "<init>", desc := "([B[B)V" } : Jvm.MethodName) prog_1_method_1_code (3 : Nat) (Option.none : Option Jvm.ClassFile.FieldType)).before args0 about1 = true := code_word (m := ⟨3, 0⟩) (meth := k3m0) (c := k3c0) (by decide +kernel) rfl rfl rfl (by decide +kernel)
set_option maxRecDepth 65536 in
theorem w_c5 : (Jvm.Cond.code ({ cls := "java/lang/Record", name := "<init>", desc := "()V" } : Jvm.MethodName) jdk_30_method_1_code (1 : Nat) (Option.none : Option Jvm.ClassFile.FieldType)).before args0 about1 = true := code_word (m := ⟨2, 0⟩) (meth := k2m0) (c := k2c0) (by decide +kernel) rfl rfl rfl (by decide +kernel)
set_option maxRecDepth 65536 in
theorem w_c6 : (Jvm.Cond.code ({ cls := "java/lang/Object", name := "<init>", desc := "()V" } : Jvm.MethodName) object_method_1_code (1 : Nat) (Option.none : Option Jvm.ClassFile.FieldType)).before args0 about1 = true := code_word (m := ⟨0, 0⟩) (meth := k0m0) (c := k0c0) (by decide +kernel) rfl rfl rfl (by decide +kernel)
set_option maxRecDepth 65536 in
theorem w_c7 : (Jvm.Cond.code ({ cls := "com/example/coord2/coord2/KeyRange", name := "lower", desc := "()[B" } : Jvm.MethodName) prog_1_method_8_code (1 : Nat) (Option.some (Jvm.ClassFile.FieldType.array Jvm.ClassFile.FieldType.byte))).before args0 about1 = true := code_word (m := ⟨3, 3⟩) (meth := k3m3) (c := k3c3) (by decide +kernel) rfl rfl rfl (by decide +kernel)
set_option maxRecDepth 65536 in
theorem w_c8 : (Jvm.Cond.code ({ cls := "com/example/coord2/coord2/KeyRange", name := "upper", desc := "()[B" } : Jvm.MethodName) prog_1_method_9_code (1 : Nat) (Option.some (Jvm.ClassFile.FieldType.array Jvm.ClassFile.FieldType.byte))).before args0 about1 = true := code_word (m := ⟨3, 4⟩) (meth := k3m4) (c := k3c4) (by decide +kernel) rfl rfl rfl (by decide +kernel)
set_option maxRecDepth 65536 in
theorem w_c9 : (Jvm.Cond.code ({ cls := "com/example/coord2/coord2/KeyRangePrefixPinLaw", name := "same", desc := "([BIBBB)Z" } : Jvm.MethodName) method_3_code (5 : Nat) (Option.some Jvm.ClassFile.FieldType.boolean)).before args0 about1 = true := code_word (m := ⟨1, 2⟩) (meth := k1m2) (c := k1c2) (by decide +kernel) rfl rfl rfl (by decide +kernel)
set_option maxRecDepth 65536 in
theorem w_c10 : (Jvm.Cond.code ({ cls := "java/lang/Math", name := "min", desc := "(II)I" } : Jvm.MethodName) jdk_29_method_69_code (2 : Nat) (Option.some Jvm.ClassFile.FieldType.int)).before args0 about1 = true := code_word (m := ⟨6, 1⟩) (meth := k6m1) (c := k6c1) (by decide +kernel) rfl rfl rfl (by decide +kernel)
def codes1 : List Jvm.Cond := [Jvm.Cond.code x code maxLocals ret, Jvm.Cond.code ({ cls := "com/example/coord2/coord2/KeyRange", name := "prefix", desc := "([B)Lcom/example/coord2/coord2/KeyRange;" } : Jvm.MethodName) prog_1_method_2_code (1 : Nat) (Option.some (Jvm.ClassFile.FieldType.object "com/example/coord2/coord2/KeyRange")), Jvm.Cond.code ({ cls := "com/example/coord2/coord2/KeyRange", name := "successor", desc := "([B)[B" } : Jvm.MethodName) prog_1_method_4_code (3 : Nat) (Option.some (Jvm.ClassFile.FieldType.array Jvm.ClassFile.FieldType.byte)), Jvm.Cond.code ({ cls := "java/util/Arrays", name := "copyOf", desc := "([BI)[B" } : Jvm.MethodName) jdk_65_method_121_code (3 : Nat) (Option.some (Jvm.ClassFile.FieldType.array Jvm.ClassFile.FieldType.byte)), Jvm.Cond.code ({ cls := "com/example/coord2/coord2/KeyRange", name := "<init>", desc := "([B[B)V" } : Jvm.MethodName) prog_1_method_1_code (3 : Nat) (Option.none : Option Jvm.ClassFile.FieldType), Jvm.Cond.code ({ cls := "java/lang/Record", name := "<init>", desc := "()V" } : Jvm.MethodName) jdk_30_method_1_code (1 : Nat) (Option.none : Option Jvm.ClassFile.FieldType), Jvm.Cond.code ({ cls := "java/lang/Object", name := "<init>", desc := "()V" } : Jvm.MethodName) object_method_1_code (1 : Nat) (Option.none : Option Jvm.ClassFile.FieldType), Jvm.Cond.code ({ cls := "com/example/coord2/coord2/KeyRange", name := "lower", desc := "()[B" } : Jvm.MethodName) prog_1_method_8_code (1 : Nat) (Option.some (Jvm.ClassFile.FieldType.array Jvm.ClassFile.FieldType.byte)), Jvm.Cond.code ({ cls := "com/example/coord2/coord2/KeyRange", name := "upper", desc := "()[B" } : Jvm.MethodName) prog_1_method_9_code (1 : Nat) (Option.some (Jvm.ClassFile.FieldType.array Jvm.ClassFile.FieldType.byte)), Jvm.Cond.code ({ cls := "com/example/coord2/coord2/KeyRangePrefixPinLaw", name := "same", desc := "([BIBBB)Z" } : Jvm.MethodName) method_3_code (5 : Nat) (Option.some Jvm.ClassFile.FieldType.boolean), Jvm.Cond.code ({ cls := "java/lang/Math", name := "min", desc := "(II)I" } : Jvm.MethodName) jdk_29_method_69_code (2 : Nat) (Option.some Jvm.ClassFile.FieldType.int)]
set_option maxRecDepth 65536 in
theorem codes_eq : words1.filter isCode = codes1 := rfl
theorem w_codes : ∀ c ∈ words1.filter isCode, c.before args0 about1 = true := by
  rw [codes_eq]
  intro c hc
  simp only [codes1, List.mem_cons, List.not_mem_nil, or_false] at hc
  rcases hc with rfl | rfl | rfl | rfl | rfl | rfl | rfl | rfl | rfl | rfl | rfl
  · exact w_c0
  · exact w_c1
  · exact w_c2
  · exact w_c3
  · exact w_c4
  · exact w_c5
  · exact w_c6
  · exact w_c7
  · exact w_c8
  · exact w_c9
  · exact w_c10
set_option maxRecDepth 65536 in
theorem w_t1 : (words1.take 24).all (fun c => isCode c || c.before args0 about1) = true := by decide +kernel
set_option maxRecDepth 65536 in
theorem w_t2 : ((words1.drop 24).take 24).all (fun c => isCode c || c.before args0 about1) = true := by decide +kernel
set_option maxRecDepth 65536 in
theorem w_t3 : ((words1.drop 24).drop 24).all (fun c => isCode c || c.before args0 about1) = true := by decide +kernel
theorem w_tables : (allAtoms (Jvm.Cond.code x code maxLocals ret :: tables_1)).before args0 about1 = true := by
  rw [allAtoms_all]
  show words1.all (fun c => c.before args0 about1) = true
  refine all_split ?_ w_codes
  rw [← List.take_append_drop 24 words1, List.all_append, w_t1, ← List.take_append_drop 24 (words1.drop 24), List.all_append, w_t2, w_t3]
  rfl
set_option maxRecDepth 65536 in
theorem w_case : (Jvm.Cond.and given_1 narrow_1).before args0 about1 = true := by decide +kernel
theorem w_applies : (headSpec (Jvm.Cond.code x code maxLocals ret :: tables_1) room_1).applies x e0.platform about1 = true :=
  (Spec.applies_iff w_frames).mpr ⟨w_running, w_runnable, w_alone, w_named, w_hears, w_ripe, w_room, w_tables⟩
theorem atStart : AtStart classFile x code maxLocals ret World_1 tables_1 room_1 Calls_1 rest_1 Pre_1 launch0 p0 e0 about1 theMethod args0 below0 :=
  ⟨lists_1, trivial, launch0.admits_env _ _ _, launch0.least_env, fairChoices_fair.cas, fairChoices_fair.clock, w_frames, w_args, w_heap, w_applies, trivial, trivial, w_case⟩
end start1
theorem witness_1 : WitnessClaimed_1 := ⟨start1.p0, start1.e0, start1.about1, start1.theMethod, start1.args0, start1.below0, start1.atStart⟩
end Jvm.Pilot.@@N@@
