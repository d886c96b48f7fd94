import JvmDerived
import JvmDerived.Pilot.@@N@@Statement
import JvmDerived.Pilot.@@N@@Code
set_option linter.unusedVariables false
set_option linter.unusedSimpArgs false
@@BLOCK:NumsL.lean.txt@@
namespace Jvm.RoadKit
open Sem ClassFile Op Lib Jvm.Stand Jvm.Free Jvm.LawKit
section New
variable {p : Program} {l : Launch} {e : Env} {R : Room} {s : State} {m : MethodId} {args : Array Value} {below : List Frame} {meth : Method} {c : Code} {T : State} {locs : List Loc} {cells slots : Nat}
theorem retI (X : Stand p l e R s m args below meth c T locs cells slots) (hx : p.tables.exec = Jvm.exec) {pc : Nat} {Ls : Array Slot} {z : Int32} {rest : List Value} (hret : meth.sig.returnType = some .int) (hd : decode c.code pc = .ok (.ireturn, 1)) {fs : List Frame}
    (hl : ∀ (f : JFrame) (acts : List Action), f.method = m → f.locked = none → f.entered = [] → (doReturn e (T.setTop f) acts (some (.int z))).1 = T.setFrames fs) : Steps p.tables e below (T.setTop (mkF m pc Ls (.int z :: rest))) (T.setFrames fs) := by
  have hm' : T.vm.method? m = some meth := X.method'
  have hn : narrow .int (.int z) = .int z := rfl
  show Steps p.tables e below (T.setTop { method := m, pc := pc, locals := Ls, stack := _ :: rest, locked := none }) _
  jvm_step X.here [X.here.top, hx, hd, hm', hret, hn]
  first | (intro acts; rw [hl _ acts rfl rfl rfl]) | rw [hl _ _ rfl rfl rfl]
  exact Steps.refl _
end New
end Jvm.RoadKit
namespace Jvm.Pilot.@@N@@
open Jvm Jvm.ClassFile Sem Op Lib Jvm.Free Jvm.Stand Jvm.LawKit Jvm.RoadKit Bundle Jvm.Pilot.@@N@@.Jvm.D

theorem own_c (x y : Int64) : (lcmpW x y < (0 : Int32) ↔ x.toInt < y.toInt) ∧ ((0 : Int32) < lcmpW x y ↔ y.toInt < x.toInt) ∧ (lcmpW x y = (0 : Int32) ↔ x = y) := by
  have e1 : x < y ↔ x.toInt < y.toInt := Int64.lt_iff_toInt_lt
  have e3 : y < x ↔ y.toInt < x.toInt := Int64.lt_iff_toInt_lt
  have e4 : x = y ↔ x.toInt = y.toInt := Int64.toInt_inj.symm
  generalize hc : lcmpW x y = c
  have hc : (if x > y then (1 : Int32) else if x = y then 0 else -1) = c := hc
  rw [e4]
  rcases (by omega : y.toInt < x.toInt ∨ x.toInt = y.toInt ∨ x.toInt < y.toInt) with h | h | h
  · have hc' : c = 1 := by rw [← hc]; exact if_pos (e3.mpr h)
    subst hc'
    exact ⟨⟨fun q => absurd q (by decide), fun q => by omega⟩, ⟨fun _ => h, fun _ => by decide⟩, ⟨fun q => absurd q (by decide), fun q => by omega⟩⟩
  · have hc' : c = 0 := by rw [← hc, if_neg (fun q => by have := e3.mp q; omega), if_pos (e4.mpr h)]
    subst hc'
    exact ⟨⟨fun q => absurd q (by decide), fun q => by omega⟩, ⟨fun q => absurd q (by decide), fun q => by omega⟩, ⟨fun _ => h, fun _ => rfl⟩⟩
  · have hc' : c = -1 := by rw [← hc, if_neg (fun q => by have := e3.mp q; omega), if_neg (fun q => by have := e4.mp q; omega)]
    subst hc'
    exact ⟨⟨fun _ => h, fun _ => by decide⟩, ⟨fun q => absurd q (by decide), fun q => by omega⟩, ⟨fun q => absurd q (by decide), fun q => by omega⟩⟩
theorem own_wl0 (x : Int64) : lcmpW x (-128 : Int64) < (0 : Int32) ↔ x.toInt < -128 := by rw [(own_c x (-128)).1, (by decide : (-128 : Int64).toInt = -128)]
theorem own_wh0 (x : Int64) : (0 : Int32) < lcmpW x (127 : Int64) ↔ 127 < x.toInt := by rw [(own_c x (127)).2.1, (by decide : (127 : Int64).toInt = 127)]
theorem own_wl1 (x : Int64) : lcmpW x (-32768 : Int64) < (0 : Int32) ↔ x.toInt < -32768 := by rw [(own_c x (-32768)).1, (by decide : (-32768 : Int64).toInt = -32768)]
theorem own_wh1 (x : Int64) : (0 : Int32) < lcmpW x (32767 : Int64) ↔ 32767 < x.toInt := by rw [(own_c x (32767)).2.1, (by decide : (32767 : Int64).toInt = 32767)]
theorem own_wl2 (x : Int64) : lcmpW x (-2147483648 : Int64) < (0 : Int32) ↔ x.toInt < -2147483648 := by rw [(own_c x (-2147483648)).1, (by decide : (-2147483648 : Int64).toInt = -2147483648)]
theorem own_wh2 (x : Int64) : (0 : Int32) < lcmpW x (2147483647 : Int64) ↔ 2147483647 < x.toInt := by rw [(own_c x (2147483647)).2.1, (by decide : (2147483647 : Int64).toInt = 2147483647)]

theorem own_r0 (V : Int64) : lcmpW (V.toInt32.toInt8.toInt32.toInt64) V = (0 : Int32) ↔ (-128 ≤ V.toInt ∧ V.toInt ≤ 127) := by
  rw [(own_c _ _).2.2, ← Int64.toInt_inj, Int32.toInt_toInt64, Int8.toInt_toInt32, Int32.toInt_toInt8, Int64.toInt_toInt32, Int.bmod_def, Int.bmod_def]
  split <;> split <;> omega
theorem own_r1 (V : Int64) : lcmpW (V.toInt32.toInt16.toInt32.toInt64) V = (0 : Int32) ↔ (-32768 ≤ V.toInt ∧ V.toInt ≤ 32767) := by
  rw [(own_c _ _).2.2, ← Int64.toInt_inj, Int32.toInt_toInt64, Int16.toInt_toInt32, Int32.toInt_toInt16, Int64.toInt_toInt32, Int.bmod_def, Int.bmod_def]
  split <;> split <;> omega
theorem own_r2 (V : Int64) : lcmpW (V.toInt32.toInt64) V = (0 : Int32) ↔ (-2147483648 ≤ V.toInt ∧ V.toInt ≤ 2147483647) := by
  rw [(own_c _ _).2.2, ← Int64.toInt_inj, Int32.toInt_toInt64, Int64.toInt_toInt32, Int.bmod_def]
  split <;> omega
def own_W (x y : Int64) : Int32 := if -128 ≤ x.toInt ∧ y.toInt ≤ 127 then 1 else if -32768 ≤ x.toInt ∧ y.toInt ≤ 32767 then 2 else if -2147483648 ≤ x.toInt ∧ y.toInt ≤ 2147483647 then 4 else 8
theorem own_W1 {x y : Int64} (h : -128 ≤ x.toInt ∧ y.toInt ≤ 127) : own_W x y = 1 := if_pos h
theorem own_W2 {x y : Int64} (h0 : ¬ (-128 ≤ x.toInt ∧ y.toInt ≤ 127)) (h : -32768 ≤ x.toInt ∧ y.toInt ≤ 32767) : own_W x y = 2 := (if_neg h0).trans (if_pos h)
theorem own_W4 {x y : Int64} (h0 : ¬ (-128 ≤ x.toInt ∧ y.toInt ≤ 127)) (h1 : ¬ (-32768 ≤ x.toInt ∧ y.toInt ≤ 32767)) (h : -2147483648 ≤ x.toInt ∧ y.toInt ≤ 2147483647) : own_W x y = 4 := (if_neg h0).trans ((if_neg h1).trans (if_pos h))
theorem own_W8 {x y : Int64} (h0 : ¬ (-128 ≤ x.toInt ∧ y.toInt ≤ 127)) (h1 : ¬ (-32768 ≤ x.toInt ∧ y.toInt ≤ 32767)) (h : ¬ (-2147483648 ≤ x.toInt ∧ y.toInt ≤ 2147483647)) : own_W x y = 8 := (if_neg h0).trans ((if_neg h1).trans (if_neg h))
def QW (k : Int32) (h0 : Heap) (n0 : Nat) (v : Option Value) (h : Heap) (L : List Loc) : Prop := v = some (.int k) ∧ Fr n0 L ∧ h = h0
theorem d3_0 : decode prog_54_method_3_code 0 = .ok (.lload_n 0, 1) := by decide +kernel
theorem d3_1 : decode prog_54_method_3_code 1 = .ok (.ldc2_w 19, 3) := by decide +kernel
theorem d3_4 : decode prog_54_method_3_code 4 = .ok (.lcmp, 1) := by decide +kernel
theorem d3_5 : decode prog_54_method_3_code 5 = .ok (.ifCond .lt 13, 3) := by decide +kernel
theorem d3_8 : decode prog_54_method_3_code 8 = .ok (.lload_n 2, 1) := by decide +kernel
theorem d3_9 : decode prog_54_method_3_code 9 = .ok (.ldc2_w 21, 3) := by decide +kernel
theorem d3_12 : decode prog_54_method_3_code 12 = .ok (.lcmp, 1) := by decide +kernel
theorem d3_13 : decode prog_54_method_3_code 13 = .ok (.ifCond .gt 5, 3) := by decide +kernel
theorem d3_16 : decode prog_54_method_3_code 16 = .ok (.iconst 1, 1) := by decide +kernel
theorem d3_17 : decode prog_54_method_3_code 17 = .ok (.ireturn, 1) := by decide +kernel
theorem pn_3 : plainName "com/example/ballpark/ballpark/io/StoreFormat" = true := by first | (simp [plainName, overriddenIn]; done) | decide +kernel
theorem ef_3 (m : MethodId) (x0 : Int64) (x1 : Int64) : entryFrame m #[(.long x0), (.long x1)] 4 = mkF m 0 #[.val (.long x0), .second, .val (.long x1), .second] [] := by first | (simp [entryFrame, mkF, argsToLocals, Value.category]; done) | rfl

set_option maxRecDepth 65536 in
set_option maxHeartbeats 40000000 in
theorem rm3_ff (l : Launch) (Z : State) (a0 : Array Value) (hw : ∀ d ∈ tables_1, d.before a0 Z = true) (ws : List Jvm.Cond) (q1 : Int64) (q2 : Int64) (h0 : Heap) (n0 : Nat) (Z0 : n0 ≤ h0.size) (hc5 : ¬ ((lcmpW q1 (-128 : Int64)) < (0 : Int32))) (hc13 : ¬ ((0 : Int32) < (lcmpW q2 (127 : Int64)))) :
    MetFree l (⟨"com/example/ballpark/ballpark/io/StoreFormat", "width", "(JJ)I"⟩ : MethodName) (head1 (Jvm.Cond.code (⟨"com/example/ballpark/ballpark/io/StoreFormat", "width", "(JJ)I"⟩ : MethodName) prog_54_method_3_code 4 (some .int) :: ws) ({ frames := 0, cells := 0, slots := 0, locals := 0 } : Room)) (fun a U => a = #[(.long q1), (.long q2)] ∧ Z.Warmed39 U.vm ∧ U.heap = h0) (fun _ _ _ _ _ => True) (fun _ U o U' => ∃ v L, o = .returned v ∧ QW (1 : Int32) h0 n0 v U'.heap L ∧ FrameEnd U o U' L ({ frames := 0, cells := 0, slots := 0, locals := 0 } : Room).cells ({ frames := 0, cells := 0, slots := 0, locals := 0 } : Room).slots) := by
  refine MetFree.of_bodySF (plainFor_of_name pn_3) hisR ?_
  intro p e s m args below meth c s₁ Bd hml0 hP hK
  obtain ⟨rfl, hZ, hh⟩ := hP
  have hx := Bd.exec
  have hby := Bd.bytes
  have hml : c.maxLocals = 4 := hml0
  have hown : s.vm.findClass "com/example/ballpark/ballpark/io/StoreFormat" = some m.cls := findClass_of_methodNamed Bd.named
  have hnm := (name_of_methodNamed Bd.named Bd.method).1
  have X0 : Stand p l e ({ frames := 0, cells := 0, slots := 0, locals := 0 } : Room) s m #[(.long q1), (.long q2)] below meth c s₁ [] 0 0 := Stand.of_body Bd
  have e0 : s₁.heap = h0 := by rw [← hh, Bd.state]; rfl
  have N0 := Fr.nil n0
  have pre0 : ∀ t, Steps p.tables e below (s₁.setTop (mkF m 0 #[.val (.long q1), .second, .val (.long q2), .second] [])) t → Steps p.tables e below (s₁.setTop (entryFrame m #[(.long q1), (.long q2)] 4)) t := fun t k => castTop (ef_3 m q1 q2) k

  obtain ⟨fs, hr, hrun, hended, hW, hsame⟩ := X0.leave (v := some (.int (1 : Int32))) (fun h => by rw [Bd.returns] at h; cases h)
  refine ⟨_, _, pre0 _ ?_, hrun, hended, _, _, rfl, ?_, ⟨_, rfl⟩, hW, hsame.mono (by decide) (by decide)⟩
  · show Steps p.tables e below (s₁.setTop (mkF m 0 #[.val (.long q1), .second, .val (.long q2), .second] [])) _
    refine XS.lloadN X0.here hx rfl (hb hby d3_0) rfl ?_
    show Steps p.tables e below (s₁.setTop (mkF m 1 #[.val (.long q1), .second, .val (.long q2), .second] [(.long q1)])) _
    refine X0.ldc2Long hx hown (mvT hZ (hw _ (List.mem_of_getElem? (i := 11) rfl))) (g := (mkF m 1 #[.val (.long q1), .second, .val (.long q2), .second] [(.long q1)])) rfl (hb hby d3_1) _ ?_
    show Steps p.tables e below (s₁.setTop (mkF m 4 #[.val (.long q1), .second, .val (.long q2), .second] [(.long (-128 : Int64)), (.long q1)])) _
    refine XS.lcmp X0.here hx rfl (hb hby d3_4) rfl ?_
    show Steps p.tables e below (s₁.setTop (mkF m 5 #[.val (.long q1), .second, .val (.long q2), .second] [(.int (lcmpW q1 (-128 : Int64)))])) _
    refine XS.ifNo X0.here hx rfl (hb hby d3_5) rfl ((if0 _ _).trans (flt hc5).1) ?_
    show Steps p.tables e below (s₁.setTop (mkF m 8 #[.val (.long q1), .second, .val (.long q2), .second] [])) _
    refine XS.lloadN X0.here hx rfl (hb hby d3_8) rfl ?_
    show Steps p.tables e below (s₁.setTop (mkF m 9 #[.val (.long q1), .second, .val (.long q2), .second] [(.long q2)])) _
    refine X0.ldc2Long hx hown (mvT hZ (hw _ (List.mem_of_getElem? (i := 12) rfl))) (g := (mkF m 9 #[.val (.long q1), .second, .val (.long q2), .second] [(.long q2)])) rfl (hb hby d3_9) _ ?_
    show Steps p.tables e below (s₁.setTop (mkF m 12 #[.val (.long q1), .second, .val (.long q2), .second] [(.long (127 : Int64)), (.long q2)])) _
    refine XS.lcmp X0.here hx rfl (hb hby d3_12) rfl ?_
    show Steps p.tables e below (s₁.setTop (mkF m 13 #[.val (.long q1), .second, .val (.long q2), .second] [(.int (lcmpW q2 (127 : Int64)))])) _
    refine XS.ifNo X0.here hx rfl (hb hby d3_13) rfl ((if0 _ _).trans (flt hc13).2.2.1) ?_
    show Steps p.tables e below (s₁.setTop (mkF m 16 #[.val (.long q1), .second, .val (.long q2), .second] [])) _
    refine XS.iconst X0.here hx rfl (hb hby d3_16) ?_
    show Steps p.tables e below (s₁.setTop (mkF m 17 #[.val (.long q1), .second, .val (.long q2), .second] [(.int (1 : Int32))])) _
    exact retI X0 hx Bd.returns (hb hby d3_17) hr
  · show QW (1 : Int32) h0 n0 _ s₁.heap _
    rw [e0]
    exact ⟨rfl, N0, rfl⟩

theorem d3_18 : decode prog_54_method_3_code 18 = .ok (.lload_n 0, 1) := by decide +kernel
theorem d3_19 : decode prog_54_method_3_code 19 = .ok (.ldc2_w 25, 3) := by decide +kernel
theorem d3_22 : decode prog_54_method_3_code 22 = .ok (.lcmp, 1) := by decide +kernel
theorem d3_23 : decode prog_54_method_3_code 23 = .ok (.ifCond .lt 13, 3) := by decide +kernel
theorem d3_26 : decode prog_54_method_3_code 26 = .ok (.lload_n 2, 1) := by decide +kernel
theorem d3_27 : decode prog_54_method_3_code 27 = .ok (.ldc2_w 27, 3) := by decide +kernel
theorem d3_30 : decode prog_54_method_3_code 30 = .ok (.lcmp, 1) := by decide +kernel
theorem d3_31 : decode prog_54_method_3_code 31 = .ok (.ifCond .gt 5, 3) := by decide +kernel
theorem d3_34 : decode prog_54_method_3_code 34 = .ok (.iconst 2, 1) := by decide +kernel
theorem d3_35 : decode prog_54_method_3_code 35 = .ok (.ireturn, 1) := by decide +kernel

set_option maxRecDepth 65536 in
set_option maxHeartbeats 40000000 in
theorem rm3_tff (l : Launch) (Z : State) (a0 : Array Value) (hw : ∀ d ∈ tables_1, d.before a0 Z = true) (ws : List Jvm.Cond) (q1 : Int64) (q2 : Int64) (h0 : Heap) (n0 : Nat) (Z0 : n0 ≤ h0.size) (hc5 : (lcmpW q1 (-128 : Int64)) < (0 : Int32)) (hc23 : ¬ ((lcmpW q1 (-32768 : Int64)) < (0 : Int32))) (hc31 : ¬ ((0 : Int32) < (lcmpW q2 (32767 : Int64)))) :
    MetFree l (⟨"com/example/ballpark/ballpark/io/StoreFormat", "width", "(JJ)I"⟩ : MethodName) (head1 (Jvm.Cond.code (⟨"com/example/ballpark/ballpark/io/StoreFormat", "width", "(JJ)I"⟩ : MethodName) prog_54_method_3_code 4 (some .int) :: ws) ({ frames := 0, cells := 0, slots := 0, locals := 0 } : Room)) (fun a U => a = #[(.long q1), (.long q2)] ∧ Z.Warmed39 U.vm ∧ U.heap = h0) (fun _ _ _ _ _ => True) (fun _ U o U' => ∃ v L, o = .returned v ∧ QW (2 : Int32) h0 n0 v U'.heap L ∧ FrameEnd U o U' L ({ frames := 0, cells := 0, slots := 0, locals := 0 } : Room).cells ({ frames := 0, cells := 0, slots := 0, locals := 0 } : Room).slots) := by
  refine MetFree.of_bodySF (plainFor_of_name pn_3) hisR ?_
  intro p e s m args below meth c s₁ Bd hml0 hP hK
  obtain ⟨rfl, hZ, hh⟩ := hP
  have hx := Bd.exec
  have hby := Bd.bytes
  have hml : c.maxLocals = 4 := hml0
  have hown : s.vm.findClass "com/example/ballpark/ballpark/io/StoreFormat" = some m.cls := findClass_of_methodNamed Bd.named
  have hnm := (name_of_methodNamed Bd.named Bd.method).1
  have X0 : Stand p l e ({ frames := 0, cells := 0, slots := 0, locals := 0 } : Room) s m #[(.long q1), (.long q2)] below meth c s₁ [] 0 0 := Stand.of_body Bd
  have e0 : s₁.heap = h0 := by rw [← hh, Bd.state]; rfl
  have N0 := Fr.nil n0
  have pre0 : ∀ t, Steps p.tables e below (s₁.setTop (mkF m 0 #[.val (.long q1), .second, .val (.long q2), .second] [])) t → Steps p.tables e below (s₁.setTop (entryFrame m #[(.long q1), (.long q2)] 4)) t := fun t k => castTop (ef_3 m q1 q2) k

  obtain ⟨fs, hr, hrun, hended, hW, hsame⟩ := X0.leave (v := some (.int (2 : Int32))) (fun h => by rw [Bd.returns] at h; cases h)
  refine ⟨_, _, pre0 _ ?_, hrun, hended, _, _, rfl, ?_, ⟨_, rfl⟩, hW, hsame.mono (by decide) (by decide)⟩
  · show Steps p.tables e below (s₁.setTop (mkF m 0 #[.val (.long q1), .second, .val (.long q2), .second] [])) _
    refine XS.lloadN X0.here hx rfl (hb hby d3_0) rfl ?_
    show Steps p.tables e below (s₁.setTop (mkF m 1 #[.val (.long q1), .second, .val (.long q2), .second] [(.long q1)])) _
    refine X0.ldc2Long hx hown (mvT hZ (hw _ (List.mem_of_getElem? (i := 11) rfl))) (g := (mkF m 1 #[.val (.long q1), .second, .val (.long q2), .second] [(.long q1)])) rfl (hb hby d3_1) _ ?_
    show Steps p.tables e below (s₁.setTop (mkF m 4 #[.val (.long q1), .second, .val (.long q2), .second] [(.long (-128 : Int64)), (.long q1)])) _
    refine XS.lcmp X0.here hx rfl (hb hby d3_4) rfl ?_
    show Steps p.tables e below (s₁.setTop (mkF m 5 #[.val (.long q1), .second, .val (.long q2), .second] [(.int (lcmpW q1 (-128 : Int64)))])) _
    refine XS.ifYes X0.here hx rfl (pc0 := 5) (pc' := 18) rfl (hb hby d3_5) rfl ((if0 _ _).trans (tlt hc5).1) (by decide) (by decide) ?_
    show Steps p.tables e below (s₁.setTop (mkF m 18 #[.val (.long q1), .second, .val (.long q2), .second] [])) _
    refine XS.lloadN X0.here hx rfl (hb hby d3_18) rfl ?_
    show Steps p.tables e below (s₁.setTop (mkF m 19 #[.val (.long q1), .second, .val (.long q2), .second] [(.long q1)])) _
    refine X0.ldc2Long hx hown (mvT hZ (hw _ (List.mem_of_getElem? (i := 17) rfl))) (g := (mkF m 19 #[.val (.long q1), .second, .val (.long q2), .second] [(.long q1)])) rfl (hb hby d3_19) _ ?_
    show Steps p.tables e below (s₁.setTop (mkF m 22 #[.val (.long q1), .second, .val (.long q2), .second] [(.long (-32768 : Int64)), (.long q1)])) _
    refine XS.lcmp X0.here hx rfl (hb hby d3_22) rfl ?_
    show Steps p.tables e below (s₁.setTop (mkF m 23 #[.val (.long q1), .second, .val (.long q2), .second] [(.int (lcmpW q1 (-32768 : Int64)))])) _
    refine XS.ifNo X0.here hx rfl (hb hby d3_23) rfl ((if0 _ _).trans (flt hc23).1) ?_
    show Steps p.tables e below (s₁.setTop (mkF m 26 #[.val (.long q1), .second, .val (.long q2), .second] [])) _
    refine XS.lloadN X0.here hx rfl (hb hby d3_26) rfl ?_
    show Steps p.tables e below (s₁.setTop (mkF m 27 #[.val (.long q1), .second, .val (.long q2), .second] [(.long q2)])) _
    refine X0.ldc2Long hx hown (mvT hZ (hw _ (List.mem_of_getElem? (i := 18) rfl))) (g := (mkF m 27 #[.val (.long q1), .second, .val (.long q2), .second] [(.long q2)])) rfl (hb hby d3_27) _ ?_
    show Steps p.tables e below (s₁.setTop (mkF m 30 #[.val (.long q1), .second, .val (.long q2), .second] [(.long (32767 : Int64)), (.long q2)])) _
    refine XS.lcmp X0.here hx rfl (hb hby d3_30) rfl ?_
    show Steps p.tables e below (s₁.setTop (mkF m 31 #[.val (.long q1), .second, .val (.long q2), .second] [(.int (lcmpW q2 (32767 : Int64)))])) _
    refine XS.ifNo X0.here hx rfl (hb hby d3_31) rfl ((if0 _ _).trans (flt hc31).2.2.1) ?_
    show Steps p.tables e below (s₁.setTop (mkF m 34 #[.val (.long q1), .second, .val (.long q2), .second] [])) _
    refine XS.iconst X0.here hx rfl (hb hby d3_34) ?_
    show Steps p.tables e below (s₁.setTop (mkF m 35 #[.val (.long q1), .second, .val (.long q2), .second] [(.int (2 : Int32))])) _
    exact retI X0 hx Bd.returns (hb hby d3_35) hr
  · show QW (2 : Int32) h0 n0 _ s₁.heap _
    rw [e0]
    exact ⟨rfl, N0, rfl⟩

theorem d3_36 : decode prog_54_method_3_code 36 = .ok (.lload_n 0, 1) := by decide +kernel
theorem d3_37 : decode prog_54_method_3_code 37 = .ok (.ldc2_w 31, 3) := by decide +kernel
theorem d3_40 : decode prog_54_method_3_code 40 = .ok (.lcmp, 1) := by decide +kernel
theorem d3_41 : decode prog_54_method_3_code 41 = .ok (.ifCond .lt 15, 3) := by decide +kernel
theorem d3_44 : decode prog_54_method_3_code 44 = .ok (.lload_n 2, 1) := by decide +kernel
theorem d3_45 : decode prog_54_method_3_code 45 = .ok (.ldc2_w 33, 3) := by decide +kernel
theorem d3_48 : decode prog_54_method_3_code 48 = .ok (.lcmp, 1) := by decide +kernel
theorem d3_49 : decode prog_54_method_3_code 49 = .ok (.ifCond .gt 7, 3) := by decide +kernel
theorem d3_52 : decode prog_54_method_3_code 52 = .ok (.iconst 4, 1) := by decide +kernel
theorem d3_53 : decode prog_54_method_3_code 53 = .ok (.goto 5, 3) := by decide +kernel
theorem d3_58 : decode prog_54_method_3_code 58 = .ok (.ireturn, 1) := by decide +kernel

set_option maxRecDepth 65536 in
set_option maxHeartbeats 40000000 in
theorem rm3_ttff (l : Launch) (Z : State) (a0 : Array Value) (hw : ∀ d ∈ tables_1, d.before a0 Z = true) (ws : List Jvm.Cond) (q1 : Int64) (q2 : Int64) (h0 : Heap) (n0 : Nat) (Z0 : n0 ≤ h0.size) (hc5 : (lcmpW q1 (-128 : Int64)) < (0 : Int32)) (hc23 : (lcmpW q1 (-32768 : Int64)) < (0 : Int32)) (hc41 : ¬ ((lcmpW q1 (-2147483648 : Int64)) < (0 : Int32))) (hc49 : ¬ ((0 : Int32) < (lcmpW q2 (2147483647 : Int64)))) :
    MetFree l (⟨"com/example/ballpark/ballpark/io/StoreFormat", "width", "(JJ)I"⟩ : MethodName) (head1 (Jvm.Cond.code (⟨"com/example/ballpark/ballpark/io/StoreFormat", "width", "(JJ)I"⟩ : MethodName) prog_54_method_3_code 4 (some .int) :: ws) ({ frames := 0, cells := 0, slots := 0, locals := 0 } : Room)) (fun a U => a = #[(.long q1), (.long q2)] ∧ Z.Warmed39 U.vm ∧ U.heap = h0) (fun _ _ _ _ _ => True) (fun _ U o U' => ∃ v L, o = .returned v ∧ QW (4 : Int32) h0 n0 v U'.heap L ∧ FrameEnd U o U' L ({ frames := 0, cells := 0, slots := 0, locals := 0 } : Room).cells ({ frames := 0, cells := 0, slots := 0, locals := 0 } : Room).slots) := by
  refine MetFree.of_bodySF (plainFor_of_name pn_3) hisR ?_
  intro p e s m args below meth c s₁ Bd hml0 hP hK
  obtain ⟨rfl, hZ, hh⟩ := hP
  have hx := Bd.exec
  have hby := Bd.bytes
  have hml : c.maxLocals = 4 := hml0
  have hown : s.vm.findClass "com/example/ballpark/ballpark/io/StoreFormat" = some m.cls := findClass_of_methodNamed Bd.named
  have hnm := (name_of_methodNamed Bd.named Bd.method).1
  have X0 : Stand p l e ({ frames := 0, cells := 0, slots := 0, locals := 0 } : Room) s m #[(.long q1), (.long q2)] below meth c s₁ [] 0 0 := Stand.of_body Bd
  have e0 : s₁.heap = h0 := by rw [← hh, Bd.state]; rfl
  have N0 := Fr.nil n0
  have pre0 : ∀ t, Steps p.tables e below (s₁.setTop (mkF m 0 #[.val (.long q1), .second, .val (.long q2), .second] [])) t → Steps p.tables e below (s₁.setTop (entryFrame m #[(.long q1), (.long q2)] 4)) t := fun t k => castTop (ef_3 m q1 q2) k

  obtain ⟨fs, hr, hrun, hended, hW, hsame⟩ := X0.leave (v := some (.int (4 : Int32))) (fun h => by rw [Bd.returns] at h; cases h)
  refine ⟨_, _, pre0 _ ?_, hrun, hended, _, _, rfl, ?_, ⟨_, rfl⟩, hW, hsame.mono (by decide) (by decide)⟩
  · show Steps p.tables e below (s₁.setTop (mkF m 0 #[.val (.long q1), .second, .val (.long q2), .second] [])) _
    refine XS.lloadN X0.here hx rfl (hb hby d3_0) rfl ?_
    show Steps p.tables e below (s₁.setTop (mkF m 1 #[.val (.long q1), .second, .val (.long q2), .second] [(.long q1)])) _
    refine X0.ldc2Long hx hown (mvT hZ (hw _ (List.mem_of_getElem? (i := 11) rfl))) (g := (mkF m 1 #[.val (.long q1), .second, .val (.long q2), .second] [(.long q1)])) rfl (hb hby d3_1) _ ?_
    show Steps p.tables e below (s₁.setTop (mkF m 4 #[.val (.long q1), .second, .val (.long q2), .second] [(.long (-128 : Int64)), (.long q1)])) _
    refine XS.lcmp X0.here hx rfl (hb hby d3_4) rfl ?_
    show Steps p.tables e below (s₁.setTop (mkF m 5 #[.val (.long q1), .second, .val (.long q2), .second] [(.int (lcmpW q1 (-128 : Int64)))])) _
    refine XS.ifYes X0.here hx rfl (pc0 := 5) (pc' := 18) rfl (hb hby d3_5) rfl ((if0 _ _).trans (tlt hc5).1) (by decide) (by decide) ?_
    show Steps p.tables e below (s₁.setTop (mkF m 18 #[.val (.long q1), .second, .val (.long q2), .second] [])) _
    refine XS.lloadN X0.here hx rfl (hb hby d3_18) rfl ?_
    show Steps p.tables e below (s₁.setTop (mkF m 19 #[.val (.long q1), .second, .val (.long q2), .second] [(.long q1)])) _
    refine X0.ldc2Long hx hown (mvT hZ (hw _ (List.mem_of_getElem? (i := 17) rfl))) (g := (mkF m 19 #[.val (.long q1), .second, .val (.long q2), .second] [(.long q1)])) rfl (hb hby d3_19) _ ?_
    show Steps p.tables e below (s₁.setTop (mkF m 22 #[.val (.long q1), .second, .val (.long q2), .second] [(.long (-32768 : Int64)), (.long q1)])) _
    refine XS.lcmp X0.here hx rfl (hb hby d3_22) rfl ?_
    show Steps p.tables e below (s₁.setTop (mkF m 23 #[.val (.long q1), .second, .val (.long q2), .second] [(.int (lcmpW q1 (-32768 : Int64)))])) _
    refine XS.ifYes X0.here hx rfl (pc0 := 23) (pc' := 36) rfl (hb hby d3_23) rfl ((if0 _ _).trans (tlt hc23).1) (by decide) (by decide) ?_
    show Steps p.tables e below (s₁.setTop (mkF m 36 #[.val (.long q1), .second, .val (.long q2), .second] [])) _
    refine XS.lloadN X0.here hx rfl (hb hby d3_36) rfl ?_
    show Steps p.tables e below (s₁.setTop (mkF m 37 #[.val (.long q1), .second, .val (.long q2), .second] [(.long q1)])) _
    refine X0.ldc2Long hx hown (mvT hZ (hw _ (List.mem_of_getElem? (i := 19) rfl))) (g := (mkF m 37 #[.val (.long q1), .second, .val (.long q2), .second] [(.long q1)])) rfl (hb hby d3_37) _ ?_
    show Steps p.tables e below (s₁.setTop (mkF m 40 #[.val (.long q1), .second, .val (.long q2), .second] [(.long (-2147483648 : Int64)), (.long q1)])) _
    refine XS.lcmp X0.here hx rfl (hb hby d3_40) rfl ?_
    show Steps p.tables e below (s₁.setTop (mkF m 41 #[.val (.long q1), .second, .val (.long q2), .second] [(.int (lcmpW q1 (-2147483648 : Int64)))])) _
    refine XS.ifNo X0.here hx rfl (hb hby d3_41) rfl ((if0 _ _).trans (flt hc41).1) ?_
    show Steps p.tables e below (s₁.setTop (mkF m 44 #[.val (.long q1), .second, .val (.long q2), .second] [])) _
    refine XS.lloadN X0.here hx rfl (hb hby d3_44) rfl ?_
    show Steps p.tables e below (s₁.setTop (mkF m 45 #[.val (.long q1), .second, .val (.long q2), .second] [(.long q2)])) _
    refine X0.ldc2Long hx hown (mvT hZ (hw _ (List.mem_of_getElem? (i := 20) rfl))) (g := (mkF m 45 #[.val (.long q1), .second, .val (.long q2), .second] [(.long q2)])) rfl (hb hby d3_45) _ ?_
    show Steps p.tables e below (s₁.setTop (mkF m 48 #[.val (.long q1), .second, .val (.long q2), .second] [(.long (2147483647 : Int64)), (.long q2)])) _
    refine XS.lcmp X0.here hx rfl (hb hby d3_48) rfl ?_
    show Steps p.tables e below (s₁.setTop (mkF m 49 #[.val (.long q1), .second, .val (.long q2), .second] [(.int (lcmpW q2 (2147483647 : Int64)))])) _
    refine XS.ifNo X0.here hx rfl (hb hby d3_49) rfl ((if0 _ _).trans (flt hc49).2.2.1) ?_
    show Steps p.tables e below (s₁.setTop (mkF m 52 #[.val (.long q1), .second, .val (.long q2), .second] [])) _
    refine XS.iconst X0.here hx rfl (hb hby d3_52) ?_
    show Steps p.tables e below (s₁.setTop (mkF m 53 #[.val (.long q1), .second, .val (.long q2), .second] [(.int (4 : Int32))])) _
    refine XS.goto X0.here hx rfl (pc0 := 53) (pc' := 58) rfl (hb hby d3_53) (by decide) (by decide) ?_
    show Steps p.tables e below (s₁.setTop (mkF m 58 #[.val (.long q1), .second, .val (.long q2), .second] [(.int (4 : Int32))])) _
    exact retI X0 hx Bd.returns (hb hby d3_58) hr
  · show QW (4 : Int32) h0 n0 _ s₁.heap _
    rw [e0]
    exact ⟨rfl, N0, rfl⟩

theorem d3_56 : decode prog_54_method_3_code 56 = .ok (.bipush 8, 2) := by decide +kernel

set_option maxRecDepth 65536 in
set_option maxHeartbeats 40000000 in
theorem rm3_ttt (l : Launch) (Z : State) (a0 : Array Value) (hw : ∀ d ∈ tables_1, d.before a0 Z = true) (ws : List Jvm.Cond) (q1 : Int64) (q2 : Int64) (h0 : Heap) (n0 : Nat) (Z0 : n0 ≤ h0.size) (hc5 : (lcmpW q1 (-128 : Int64)) < (0 : Int32)) (hc23 : (lcmpW q1 (-32768 : Int64)) < (0 : Int32)) (hc41 : (lcmpW q1 (-2147483648 : Int64)) < (0 : Int32)) :
    MetFree l (⟨"com/example/ballpark/ballpark/io/StoreFormat", "width", "(JJ)I"⟩ : MethodName) (head1 (Jvm.Cond.code (⟨"com/example/ballpark/ballpark/io/StoreFormat", "width", "(JJ)I"⟩ : MethodName) prog_54_method_3_code 4 (some .int) :: ws) ({ frames := 0, cells := 0, slots := 0, locals := 0 } : Room)) (fun a U => a = #[(.long q1), (.long q2)] ∧ Z.Warmed39 U.vm ∧ U.heap = h0) (fun _ _ _ _ _ => True) (fun _ U o U' => ∃ v L, o = .returned v ∧ QW (8 : Int32) h0 n0 v U'.heap L ∧ FrameEnd U o U' L ({ frames := 0, cells := 0, slots := 0, locals := 0 } : Room).cells ({ frames := 0, cells := 0, slots := 0, locals := 0 } : Room).slots) := by
  refine MetFree.of_bodySF (plainFor_of_name pn_3) hisR ?_
  intro p e s m args below meth c s₁ Bd hml0 hP hK
  obtain ⟨rfl, hZ, hh⟩ := hP
  have hx := Bd.exec
  have hby := Bd.bytes
  have hml : c.maxLocals = 4 := hml0
  have hown : s.vm.findClass "com/example/ballpark/ballpark/io/StoreFormat" = some m.cls := findClass_of_methodNamed Bd.named
  have hnm := (name_of_methodNamed Bd.named Bd.method).1
  have X0 : Stand p l e ({ frames := 0, cells := 0, slots := 0, locals := 0 } : Room) s m #[(.long q1), (.long q2)] below meth c s₁ [] 0 0 := Stand.of_body Bd
  have e0 : s₁.heap = h0 := by rw [← hh, Bd.state]; rfl
  have N0 := Fr.nil n0
  have pre0 : ∀ t, Steps p.tables e below (s₁.setTop (mkF m 0 #[.val (.long q1), .second, .val (.long q2), .second] [])) t → Steps p.tables e below (s₁.setTop (entryFrame m #[(.long q1), (.long q2)] 4)) t := fun t k => castTop (ef_3 m q1 q2) k

  obtain ⟨fs, hr, hrun, hended, hW, hsame⟩ := X0.leave (v := some (.int (8 : Int32))) (fun h => by rw [Bd.returns] at h; cases h)
  refine ⟨_, _, pre0 _ ?_, hrun, hended, _, _, rfl, ?_, ⟨_, rfl⟩, hW, hsame.mono (by decide) (by decide)⟩
  · show Steps p.tables e below (s₁.setTop (mkF m 0 #[.val (.long q1), .second, .val (.long q2), .second] [])) _
    refine XS.lloadN X0.here hx rfl (hb hby d3_0) rfl ?_
    show Steps p.tables e below (s₁.setTop (mkF m 1 #[.val (.long q1), .second, .val (.long q2), .second] [(.long q1)])) _
    refine X0.ldc2Long hx hown (mvT hZ (hw _ (List.mem_of_getElem? (i := 11) rfl))) (g := (mkF m 1 #[.val (.long q1), .second, .val (.long q2), .second] [(.long q1)])) rfl (hb hby d3_1) _ ?_
    show Steps p.tables e below (s₁.setTop (mkF m 4 #[.val (.long q1), .second, .val (.long q2), .second] [(.long (-128 : Int64)), (.long q1)])) _
    refine XS.lcmp X0.here hx rfl (hb hby d3_4) rfl ?_
    show Steps p.tables e below (s₁.setTop (mkF m 5 #[.val (.long q1), .second, .val (.long q2), .second] [(.int (lcmpW q1 (-128 : Int64)))])) _
    refine XS.ifYes X0.here hx rfl (pc0 := 5) (pc' := 18) rfl (hb hby d3_5) rfl ((if0 _ _).trans (tlt hc5).1) (by decide) (by decide) ?_
    show Steps p.tables e below (s₁.setTop (mkF m 18 #[.val (.long q1), .second, .val (.long q2), .second] [])) _
    refine XS.lloadN X0.here hx rfl (hb hby d3_18) rfl ?_
    show Steps p.tables e below (s₁.setTop (mkF m 19 #[.val (.long q1), .second, .val (.long q2), .second] [(.long q1)])) _
    refine X0.ldc2Long hx hown (mvT hZ (hw _ (List.mem_of_getElem? (i := 17) rfl))) (g := (mkF m 19 #[.val (.long q1), .second, .val (.long q2), .second] [(.long q1)])) rfl (hb hby d3_19) _ ?_
    show Steps p.tables e below (s₁.setTop (mkF m 22 #[.val (.long q1), .second, .val (.long q2), .second] [(.long (-32768 : Int64)), (.long q1)])) _
    refine XS.lcmp X0.here hx rfl (hb hby d3_22) rfl ?_
    show Steps p.tables e below (s₁.setTop (mkF m 23 #[.val (.long q1), .second, .val (.long q2), .second] [(.int (lcmpW q1 (-32768 : Int64)))])) _
    refine XS.ifYes X0.here hx rfl (pc0 := 23) (pc' := 36) rfl (hb hby d3_23) rfl ((if0 _ _).trans (tlt hc23).1) (by decide) (by decide) ?_
    show Steps p.tables e below (s₁.setTop (mkF m 36 #[.val (.long q1), .second, .val (.long q2), .second] [])) _
    refine XS.lloadN X0.here hx rfl (hb hby d3_36) rfl ?_
    show Steps p.tables e below (s₁.setTop (mkF m 37 #[.val (.long q1), .second, .val (.long q2), .second] [(.long q1)])) _
    refine X0.ldc2Long hx hown (mvT hZ (hw _ (List.mem_of_getElem? (i := 19) rfl))) (g := (mkF m 37 #[.val (.long q1), .second, .val (.long q2), .second] [(.long q1)])) rfl (hb hby d3_37) _ ?_
    show Steps p.tables e below (s₁.setTop (mkF m 40 #[.val (.long q1), .second, .val (.long q2), .second] [(.long (-2147483648 : Int64)), (.long q1)])) _
    refine XS.lcmp X0.here hx rfl (hb hby d3_40) rfl ?_
    show Steps p.tables e below (s₁.setTop (mkF m 41 #[.val (.long q1), .second, .val (.long q2), .second] [(.int (lcmpW q1 (-2147483648 : Int64)))])) _
    refine XS.ifYes X0.here hx rfl (pc0 := 41) (pc' := 56) rfl (hb hby d3_41) rfl ((if0 _ _).trans (tlt hc41).1) (by decide) (by decide) ?_
    show Steps p.tables e below (s₁.setTop (mkF m 56 #[.val (.long q1), .second, .val (.long q2), .second] [])) _
    refine XS.bipush X0.here hx rfl (hb hby d3_56) ?_
    show Steps p.tables e below (s₁.setTop (mkF m 58 #[.val (.long q1), .second, .val (.long q2), .second] [(.int (8 : Int32))])) _
    exact retI X0 hx Bd.returns (hb hby d3_58) hr
  · show QW (8 : Int32) h0 n0 _ s₁.heap _
    rw [e0]
    exact ⟨rfl, N0, rfl⟩


set_option maxRecDepth 65536 in
set_option maxHeartbeats 40000000 in
theorem rm3_ttft (l : Launch) (Z : State) (a0 : Array Value) (hw : ∀ d ∈ tables_1, d.before a0 Z = true) (ws : List Jvm.Cond) (q1 : Int64) (q2 : Int64) (h0 : Heap) (n0 : Nat) (Z0 : n0 ≤ h0.size) (hc5 : (lcmpW q1 (-128 : Int64)) < (0 : Int32)) (hc23 : (lcmpW q1 (-32768 : Int64)) < (0 : Int32)) (hc41 : ¬ ((lcmpW q1 (-2147483648 : Int64)) < (0 : Int32))) (hc49 : (0 : Int32) < (lcmpW q2 (2147483647 : Int64))) :
    MetFree l (⟨"com/example/ballpark/ballpark/io/StoreFormat", "width", "(JJ)I"⟩ : MethodName) (head1 (Jvm.Cond.code (⟨"com/example/ballpark/ballpark/io/StoreFormat", "width", "(JJ)I"⟩ : MethodName) prog_54_method_3_code 4 (some .int) :: ws) ({ frames := 0, cells := 0, slots := 0, locals := 0 } : Room)) (fun a U => a = #[(.long q1), (.long q2)] ∧ Z.Warmed39 U.vm ∧ U.heap = h0) (fun _ _ _ _ _ => True) (fun _ U o U' => ∃ v L, o = .returned v ∧ QW (8 : Int32) h0 n0 v U'.heap L ∧ FrameEnd U o U' L ({ frames := 0, cells := 0, slots := 0, locals := 0 } : Room).cells ({ frames := 0, cells := 0, slots := 0, locals := 0 } : Room).slots) := by
  refine MetFree.of_bodySF (plainFor_of_name pn_3) hisR ?_
  intro p e s m args below meth c s₁ Bd hml0 hP hK
  obtain ⟨rfl, hZ, hh⟩ := hP
  have hx := Bd.exec
  have hby := Bd.bytes
  have hml : c.maxLocals = 4 := hml0
  have hown : s.vm.findClass "com/example/ballpark/ballpark/io/StoreFormat" = some m.cls := findClass_of_methodNamed Bd.named
  have hnm := (name_of_methodNamed Bd.named Bd.method).1
  have X0 : Stand p l e ({ frames := 0, cells := 0, slots := 0, locals := 0 } : Room) s m #[(.long q1), (.long q2)] below meth c s₁ [] 0 0 := Stand.of_body Bd
  have e0 : s₁.heap = h0 := by rw [← hh, Bd.state]; rfl
  have N0 := Fr.nil n0
  have pre0 : ∀ t, Steps p.tables e below (s₁.setTop (mkF m 0 #[.val (.long q1), .second, .val (.long q2), .second] [])) t → Steps p.tables e below (s₁.setTop (entryFrame m #[(.long q1), (.long q2)] 4)) t := fun t k => castTop (ef_3 m q1 q2) k

  obtain ⟨fs, hr, hrun, hended, hW, hsame⟩ := X0.leave (v := some (.int (8 : Int32))) (fun h => by rw [Bd.returns] at h; cases h)
  refine ⟨_, _, pre0 _ ?_, hrun, hended, _, _, rfl, ?_, ⟨_, rfl⟩, hW, hsame.mono (by decide) (by decide)⟩
  · show Steps p.tables e below (s₁.setTop (mkF m 0 #[.val (.long q1), .second, .val (.long q2), .second] [])) _
    refine XS.lloadN X0.here hx rfl (hb hby d3_0) rfl ?_
    show Steps p.tables e below (s₁.setTop (mkF m 1 #[.val (.long q1), .second, .val (.long q2), .second] [(.long q1)])) _
    refine X0.ldc2Long hx hown (mvT hZ (hw _ (List.mem_of_getElem? (i := 11) rfl))) (g := (mkF m 1 #[.val (.long q1), .second, .val (.long q2), .second] [(.long q1)])) rfl (hb hby d3_1) _ ?_
    show Steps p.tables e below (s₁.setTop (mkF m 4 #[.val (.long q1), .second, .val (.long q2), .second] [(.long (-128 : Int64)), (.long q1)])) _
    refine XS.lcmp X0.here hx rfl (hb hby d3_4) rfl ?_
    show Steps p.tables e below (s₁.setTop (mkF m 5 #[.val (.long q1), .second, .val (.long q2), .second] [(.int (lcmpW q1 (-128 : Int64)))])) _
    refine XS.ifYes X0.here hx rfl (pc0 := 5) (pc' := 18) rfl (hb hby d3_5) rfl ((if0 _ _).trans (tlt hc5).1) (by decide) (by decide) ?_
    show Steps p.tables e below (s₁.setTop (mkF m 18 #[.val (.long q1), .second, .val (.long q2), .second] [])) _
    refine XS.lloadN X0.here hx rfl (hb hby d3_18) rfl ?_
    show Steps p.tables e below (s₁.setTop (mkF m 19 #[.val (.long q1), .second, .val (.long q2), .second] [(.long q1)])) _
    refine X0.ldc2Long hx hown (mvT hZ (hw _ (List.mem_of_getElem? (i := 17) rfl))) (g := (mkF m 19 #[.val (.long q1), .second, .val (.long q2), .second] [(.long q1)])) rfl (hb hby d3_19) _ ?_
    show Steps p.tables e below (s₁.setTop (mkF m 22 #[.val (.long q1), .second, .val (.long q2), .second] [(.long (-32768 : Int64)), (.long q1)])) _
    refine XS.lcmp X0.here hx rfl (hb hby d3_22) rfl ?_
    show Steps p.tables e below (s₁.setTop (mkF m 23 #[.val (.long q1), .second, .val (.long q2), .second] [(.int (lcmpW q1 (-32768 : Int64)))])) _
    refine XS.ifYes X0.here hx rfl (pc0 := 23) (pc' := 36) rfl (hb hby d3_23) rfl ((if0 _ _).trans (tlt hc23).1) (by decide) (by decide) ?_
    show Steps p.tables e below (s₁.setTop (mkF m 36 #[.val (.long q1), .second, .val (.long q2), .second] [])) _
    refine XS.lloadN X0.here hx rfl (hb hby d3_36) rfl ?_
    show Steps p.tables e below (s₁.setTop (mkF m 37 #[.val (.long q1), .second, .val (.long q2), .second] [(.long q1)])) _
    refine X0.ldc2Long hx hown (mvT hZ (hw _ (List.mem_of_getElem? (i := 19) rfl))) (g := (mkF m 37 #[.val (.long q1), .second, .val (.long q2), .second] [(.long q1)])) rfl (hb hby d3_37) _ ?_
    show Steps p.tables e below (s₁.setTop (mkF m 40 #[.val (.long q1), .second, .val (.long q2), .second] [(.long (-2147483648 : Int64)), (.long q1)])) _
    refine XS.lcmp X0.here hx rfl (hb hby d3_40) rfl ?_
    show Steps p.tables e below (s₁.setTop (mkF m 41 #[.val (.long q1), .second, .val (.long q2), .second] [(.int (lcmpW q1 (-2147483648 : Int64)))])) _
    refine XS.ifNo X0.here hx rfl (hb hby d3_41) rfl ((if0 _ _).trans (flt hc41).1) ?_
    show Steps p.tables e below (s₁.setTop (mkF m 44 #[.val (.long q1), .second, .val (.long q2), .second] [])) _
    refine XS.lloadN X0.here hx rfl (hb hby d3_44) rfl ?_
    show Steps p.tables e below (s₁.setTop (mkF m 45 #[.val (.long q1), .second, .val (.long q2), .second] [(.long q2)])) _
    refine X0.ldc2Long hx hown (mvT hZ (hw _ (List.mem_of_getElem? (i := 20) rfl))) (g := (mkF m 45 #[.val (.long q1), .second, .val (.long q2), .second] [(.long q2)])) rfl (hb hby d3_45) _ ?_
    show Steps p.tables e below (s₁.setTop (mkF m 48 #[.val (.long q1), .second, .val (.long q2), .second] [(.long (2147483647 : Int64)), (.long q2)])) _
    refine XS.lcmp X0.here hx rfl (hb hby d3_48) rfl ?_
    show Steps p.tables e below (s₁.setTop (mkF m 49 #[.val (.long q1), .second, .val (.long q2), .second] [(.int (lcmpW q2 (2147483647 : Int64)))])) _
    refine XS.ifYes X0.here hx rfl (pc0 := 49) (pc' := 56) rfl (hb hby d3_49) rfl ((if0 _ _).trans (tlt hc49).2.2.1) (by decide) (by decide) ?_
    show Steps p.tables e below (s₁.setTop (mkF m 56 #[.val (.long q1), .second, .val (.long q2), .second] [])) _
    refine XS.bipush X0.here hx rfl (hb hby d3_56) ?_
    show Steps p.tables e below (s₁.setTop (mkF m 58 #[.val (.long q1), .second, .val (.long q2), .second] [(.int (8 : Int32))])) _
    exact retI X0 hx Bd.returns (hb hby d3_58) hr
  · show QW (8 : Int32) h0 n0 _ s₁.heap _
    rw [e0]
    exact ⟨rfl, N0, rfl⟩


set_option maxRecDepth 65536 in
set_option maxHeartbeats 40000000 in
theorem rm3_tftff (l : Launch) (Z : State) (a0 : Array Value) (hw : ∀ d ∈ tables_1, d.before a0 Z = true) (ws : List Jvm.Cond) (q1 : Int64) (q2 : Int64) (h0 : Heap) (n0 : Nat) (Z0 : n0 ≤ h0.size) (hc5 : (lcmpW q1 (-128 : Int64)) < (0 : Int32)) (hc23 : ¬ ((lcmpW q1 (-32768 : Int64)) < (0 : Int32))) (hc31 : (0 : Int32) < (lcmpW q2 (32767 : Int64))) (hc41 : ¬ ((lcmpW q1 (-2147483648 : Int64)) < (0 : Int32))) (hc49 : ¬ ((0 : Int32) < (lcmpW q2 (2147483647 : Int64)))) :
    MetFree l (⟨"com/example/ballpark/ballpark/io/StoreFormat", "width", "(JJ)I"⟩ : MethodName) (head1 (Jvm.Cond.code (⟨"com/example/ballpark/ballpark/io/StoreFormat", "width", "(JJ)I"⟩ : MethodName) prog_54_method_3_code 4 (some .int) :: ws) ({ frames := 0, cells := 0, slots := 0, locals := 0 } : Room)) (fun a U => a = #[(.long q1), (.long q2)] ∧ Z.Warmed39 U.vm ∧ U.heap = h0) (fun _ _ _ _ _ => True) (fun _ U o U' => ∃ v L, o = .returned v ∧ QW (4 : Int32) h0 n0 v U'.heap L ∧ FrameEnd U o U' L ({ frames := 0, cells := 0, slots := 0, locals := 0 } : Room).cells ({ frames := 0, cells := 0, slots := 0, locals := 0 } : Room).slots) := by
  refine MetFree.of_bodySF (plainFor_of_name pn_3) hisR ?_
  intro p e s m args below meth c s₁ Bd hml0 hP hK
  obtain ⟨rfl, hZ, hh⟩ := hP
  have hx := Bd.exec
  have hby := Bd.bytes
  have hml : c.maxLocals = 4 := hml0
  have hown : s.vm.findClass "com/example/ballpark/ballpark/io/StoreFormat" = some m.cls := findClass_of_methodNamed Bd.named
  have hnm := (name_of_methodNamed Bd.named Bd.method).1
  have X0 : Stand p l e ({ frames := 0, cells := 0, slots := 0, locals := 0 } : Room) s m #[(.long q1), (.long q2)] below meth c s₁ [] 0 0 := Stand.of_body Bd
  have e0 : s₁.heap = h0 := by rw [← hh, Bd.state]; rfl
  have N0 := Fr.nil n0
  have pre0 : ∀ t, Steps p.tables e below (s₁.setTop (mkF m 0 #[.val (.long q1), .second, .val (.long q2), .second] [])) t → Steps p.tables e below (s₁.setTop (entryFrame m #[(.long q1), (.long q2)] 4)) t := fun t k => castTop (ef_3 m q1 q2) k

  obtain ⟨fs, hr, hrun, hended, hW, hsame⟩ := X0.leave (v := some (.int (4 : Int32))) (fun h => by rw [Bd.returns] at h; cases h)
  refine ⟨_, _, pre0 _ ?_, hrun, hended, _, _, rfl, ?_, ⟨_, rfl⟩, hW, hsame.mono (by decide) (by decide)⟩
  · show Steps p.tables e below (s₁.setTop (mkF m 0 #[.val (.long q1), .second, .val (.long q2), .second] [])) _
    refine XS.lloadN X0.here hx rfl (hb hby d3_0) rfl ?_
    show Steps p.tables e below (s₁.setTop (mkF m 1 #[.val (.long q1), .second, .val (.long q2), .second] [(.long q1)])) _
    refine X0.ldc2Long hx hown (mvT hZ (hw _ (List.mem_of_getElem? (i := 11) rfl))) (g := (mkF m 1 #[.val (.long q1), .second, .val (.long q2), .second] [(.long q1)])) rfl (hb hby d3_1) _ ?_
    show Steps p.tables e below (s₁.setTop (mkF m 4 #[.val (.long q1), .second, .val (.long q2), .second] [(.long (-128 : Int64)), (.long q1)])) _
    refine XS.lcmp X0.here hx rfl (hb hby d3_4) rfl ?_
    show Steps p.tables e below (s₁.setTop (mkF m 5 #[.val (.long q1), .second, .val (.long q2), .second] [(.int (lcmpW q1 (-128 : Int64)))])) _
    refine XS.ifYes X0.here hx rfl (pc0 := 5) (pc' := 18) rfl (hb hby d3_5) rfl ((if0 _ _).trans (tlt hc5).1) (by decide) (by decide) ?_
    show Steps p.tables e below (s₁.setTop (mkF m 18 #[.val (.long q1), .second, .val (.long q2), .second] [])) _
    refine XS.lloadN X0.here hx rfl (hb hby d3_18) rfl ?_
    show Steps p.tables e below (s₁.setTop (mkF m 19 #[.val (.long q1), .second, .val (.long q2), .second] [(.long q1)])) _
    refine X0.ldc2Long hx hown (mvT hZ (hw _ (List.mem_of_getElem? (i := 17) rfl))) (g := (mkF m 19 #[.val (.long q1), .second, .val (.long q2), .second] [(.long q1)])) rfl (hb hby d3_19) _ ?_
    show Steps p.tables e below (s₁.setTop (mkF m 22 #[.val (.long q1), .second, .val (.long q2), .second] [(.long (-32768 : Int64)), (.long q1)])) _
    refine XS.lcmp X0.here hx rfl (hb hby d3_22) rfl ?_
    show Steps p.tables e below (s₁.setTop (mkF m 23 #[.val (.long q1), .second, .val (.long q2), .second] [(.int (lcmpW q1 (-32768 : Int64)))])) _
    refine XS.ifNo X0.here hx rfl (hb hby d3_23) rfl ((if0 _ _).trans (flt hc23).1) ?_
    show Steps p.tables e below (s₁.setTop (mkF m 26 #[.val (.long q1), .second, .val (.long q2), .second] [])) _
    refine XS.lloadN X0.here hx rfl (hb hby d3_26) rfl ?_
    show Steps p.tables e below (s₁.setTop (mkF m 27 #[.val (.long q1), .second, .val (.long q2), .second] [(.long q2)])) _
    refine X0.ldc2Long hx hown (mvT hZ (hw _ (List.mem_of_getElem? (i := 18) rfl))) (g := (mkF m 27 #[.val (.long q1), .second, .val (.long q2), .second] [(.long q2)])) rfl (hb hby d3_27) _ ?_
    show Steps p.tables e below (s₁.setTop (mkF m 30 #[.val (.long q1), .second, .val (.long q2), .second] [(.long (32767 : Int64)), (.long q2)])) _
    refine XS.lcmp X0.here hx rfl (hb hby d3_30) rfl ?_
    show Steps p.tables e below (s₁.setTop (mkF m 31 #[.val (.long q1), .second, .val (.long q2), .second] [(.int (lcmpW q2 (32767 : Int64)))])) _
    refine XS.ifYes X0.here hx rfl (pc0 := 31) (pc' := 36) rfl (hb hby d3_31) rfl ((if0 _ _).trans (tlt hc31).2.2.1) (by decide) (by decide) ?_
    show Steps p.tables e below (s₁.setTop (mkF m 36 #[.val (.long q1), .second, .val (.long q2), .second] [])) _
    refine XS.lloadN X0.here hx rfl (hb hby d3_36) rfl ?_
    show Steps p.tables e below (s₁.setTop (mkF m 37 #[.val (.long q1), .second, .val (.long q2), .second] [(.long q1)])) _
    refine X0.ldc2Long hx hown (mvT hZ (hw _ (List.mem_of_getElem? (i := 19) rfl))) (g := (mkF m 37 #[.val (.long q1), .second, .val (.long q2), .second] [(.long q1)])) rfl (hb hby d3_37) _ ?_
    show Steps p.tables e below (s₁.setTop (mkF m 40 #[.val (.long q1), .second, .val (.long q2), .second] [(.long (-2147483648 : Int64)), (.long q1)])) _
    refine XS.lcmp X0.here hx rfl (hb hby d3_40) rfl ?_
    show Steps p.tables e below (s₁.setTop (mkF m 41 #[.val (.long q1), .second, .val (.long q2), .second] [(.int (lcmpW q1 (-2147483648 : Int64)))])) _
    refine XS.ifNo X0.here hx rfl (hb hby d3_41) rfl ((if0 _ _).trans (flt hc41).1) ?_
    show Steps p.tables e below (s₁.setTop (mkF m 44 #[.val (.long q1), .second, .val (.long q2), .second] [])) _
    refine XS.lloadN X0.here hx rfl (hb hby d3_44) rfl ?_
    show Steps p.tables e below (s₁.setTop (mkF m 45 #[.val (.long q1), .second, .val (.long q2), .second] [(.long q2)])) _
    refine X0.ldc2Long hx hown (mvT hZ (hw _ (List.mem_of_getElem? (i := 20) rfl))) (g := (mkF m 45 #[.val (.long q1), .second, .val (.long q2), .second] [(.long q2)])) rfl (hb hby d3_45) _ ?_
    show Steps p.tables e below (s₁.setTop (mkF m 48 #[.val (.long q1), .second, .val (.long q2), .second] [(.long (2147483647 : Int64)), (.long q2)])) _
    refine XS.lcmp X0.here hx rfl (hb hby d3_48) rfl ?_
    show Steps p.tables e below (s₁.setTop (mkF m 49 #[.val (.long q1), .second, .val (.long q2), .second] [(.int (lcmpW q2 (2147483647 : Int64)))])) _
    refine XS.ifNo X0.here hx rfl (hb hby d3_49) rfl ((if0 _ _).trans (flt hc49).2.2.1) ?_
    show Steps p.tables e below (s₁.setTop (mkF m 52 #[.val (.long q1), .second, .val (.long q2), .second] [])) _
    refine XS.iconst X0.here hx rfl (hb hby d3_52) ?_
    show Steps p.tables e below (s₁.setTop (mkF m 53 #[.val (.long q1), .second, .val (.long q2), .second] [(.int (4 : Int32))])) _
    refine XS.goto X0.here hx rfl (pc0 := 53) (pc' := 58) rfl (hb hby d3_53) (by decide) (by decide) ?_
    show Steps p.tables e below (s₁.setTop (mkF m 58 #[.val (.long q1), .second, .val (.long q2), .second] [(.int (4 : Int32))])) _
    exact retI X0 hx Bd.returns (hb hby d3_58) hr
  · show QW (4 : Int32) h0 n0 _ s₁.heap _
    rw [e0]
    exact ⟨rfl, N0, rfl⟩


set_option maxRecDepth 65536 in
set_option maxHeartbeats 40000000 in
theorem rm3_tftt (l : Launch) (Z : State) (a0 : Array Value) (hw : ∀ d ∈ tables_1, d.before a0 Z = true) (ws : List Jvm.Cond) (q1 : Int64) (q2 : Int64) (h0 : Heap) (n0 : Nat) (Z0 : n0 ≤ h0.size) (hc5 : (lcmpW q1 (-128 : Int64)) < (0 : Int32)) (hc23 : ¬ ((lcmpW q1 (-32768 : Int64)) < (0 : Int32))) (hc31 : (0 : Int32) < (lcmpW q2 (32767 : Int64))) (hc41 : (lcmpW q1 (-2147483648 : Int64)) < (0 : Int32)) :
    MetFree l (⟨"com/example/ballpark/ballpark/io/StoreFormat", "width", "(JJ)I"⟩ : MethodName) (head1 (Jvm.Cond.code (⟨"com/example/ballpark/ballpark/io/StoreFormat", "width", "(JJ)I"⟩ : MethodName) prog_54_method_3_code 4 (some .int) :: ws) ({ frames := 0, cells := 0, slots := 0, locals := 0 } : Room)) (fun a U => a = #[(.long q1), (.long q2)] ∧ Z.Warmed39 U.vm ∧ U.heap = h0) (fun _ _ _ _ _ => True) (fun _ U o U' => ∃ v L, o = .returned v ∧ QW (8 : Int32) h0 n0 v U'.heap L ∧ FrameEnd U o U' L ({ frames := 0, cells := 0, slots := 0, locals := 0 } : Room).cells ({ frames := 0, cells := 0, slots := 0, locals := 0 } : Room).slots) := by
  refine MetFree.of_bodySF (plainFor_of_name pn_3) hisR ?_
  intro p e s m args below meth c s₁ Bd hml0 hP hK
  obtain ⟨rfl, hZ, hh⟩ := hP
  have hx := Bd.exec
  have hby := Bd.bytes
  have hml : c.maxLocals = 4 := hml0
  have hown : s.vm.findClass "com/example/ballpark/ballpark/io/StoreFormat" = some m.cls := findClass_of_methodNamed Bd.named
  have hnm := (name_of_methodNamed Bd.named Bd.method).1
  have X0 : Stand p l e ({ frames := 0, cells := 0, slots := 0, locals := 0 } : Room) s m #[(.long q1), (.long q2)] below meth c s₁ [] 0 0 := Stand.of_body Bd
  have e0 : s₁.heap = h0 := by rw [← hh, Bd.state]; rfl
  have N0 := Fr.nil n0
  have pre0 : ∀ t, Steps p.tables e below (s₁.setTop (mkF m 0 #[.val (.long q1), .second, .val (.long q2), .second] [])) t → Steps p.tables e below (s₁.setTop (entryFrame m #[(.long q1), (.long q2)] 4)) t := fun t k => castTop (ef_3 m q1 q2) k

  obtain ⟨fs, hr, hrun, hended, hW, hsame⟩ := X0.leave (v := some (.int (8 : Int32))) (fun h => by rw [Bd.returns] at h; cases h)
  refine ⟨_, _, pre0 _ ?_, hrun, hended, _, _, rfl, ?_, ⟨_, rfl⟩, hW, hsame.mono (by decide) (by decide)⟩
  · show Steps p.tables e below (s₁.setTop (mkF m 0 #[.val (.long q1), .second, .val (.long q2), .second] [])) _
    refine XS.lloadN X0.here hx rfl (hb hby d3_0) rfl ?_
    show Steps p.tables e below (s₁.setTop (mkF m 1 #[.val (.long q1), .second, .val (.long q2), .second] [(.long q1)])) _
    refine X0.ldc2Long hx hown (mvT hZ (hw _ (List.mem_of_getElem? (i := 11) rfl))) (g := (mkF m 1 #[.val (.long q1), .second, .val (.long q2), .second] [(.long q1)])) rfl (hb hby d3_1) _ ?_
    show Steps p.tables e below (s₁.setTop (mkF m 4 #[.val (.long q1), .second, .val (.long q2), .second] [(.long (-128 : Int64)), (.long q1)])) _
    refine XS.lcmp X0.here hx rfl (hb hby d3_4) rfl ?_
    show Steps p.tables e below (s₁.setTop (mkF m 5 #[.val (.long q1), .second, .val (.long q2), .second] [(.int (lcmpW q1 (-128 : Int64)))])) _
    refine XS.ifYes X0.here hx rfl (pc0 := 5) (pc' := 18) rfl (hb hby d3_5) rfl ((if0 _ _).trans (tlt hc5).1) (by decide) (by decide) ?_
    show Steps p.tables e below (s₁.setTop (mkF m 18 #[.val (.long q1), .second, .val (.long q2), .second] [])) _
    refine XS.lloadN X0.here hx rfl (hb hby d3_18) rfl ?_
    show Steps p.tables e below (s₁.setTop (mkF m 19 #[.val (.long q1), .second, .val (.long q2), .second] [(.long q1)])) _
    refine X0.ldc2Long hx hown (mvT hZ (hw _ (List.mem_of_getElem? (i := 17) rfl))) (g := (mkF m 19 #[.val (.long q1), .second, .val (.long q2), .second] [(.long q1)])) rfl (hb hby d3_19) _ ?_
    show Steps p.tables e below (s₁.setTop (mkF m 22 #[.val (.long q1), .second, .val (.long q2), .second] [(.long (-32768 : Int64)), (.long q1)])) _
    refine XS.lcmp X0.here hx rfl (hb hby d3_22) rfl ?_
    show Steps p.tables e below (s₁.setTop (mkF m 23 #[.val (.long q1), .second, .val (.long q2), .second] [(.int (lcmpW q1 (-32768 : Int64)))])) _
    refine XS.ifNo X0.here hx rfl (hb hby d3_23) rfl ((if0 _ _).trans (flt hc23).1) ?_
    show Steps p.tables e below (s₁.setTop (mkF m 26 #[.val (.long q1), .second, .val (.long q2), .second] [])) _
    refine XS.lloadN X0.here hx rfl (hb hby d3_26) rfl ?_
    show Steps p.tables e below (s₁.setTop (mkF m 27 #[.val (.long q1), .second, .val (.long q2), .second] [(.long q2)])) _
    refine X0.ldc2Long hx hown (mvT hZ (hw _ (List.mem_of_getElem? (i := 18) rfl))) (g := (mkF m 27 #[.val (.long q1), .second, .val (.long q2), .second] [(.long q2)])) rfl (hb hby d3_27) _ ?_
    show Steps p.tables e below (s₁.setTop (mkF m 30 #[.val (.long q1), .second, .val (.long q2), .second] [(.long (32767 : Int64)), (.long q2)])) _
    refine XS.lcmp X0.here hx rfl (hb hby d3_30) rfl ?_
    show Steps p.tables e below (s₁.setTop (mkF m 31 #[.val (.long q1), .second, .val (.long q2), .second] [(.int (lcmpW q2 (32767 : Int64)))])) _
    refine XS.ifYes X0.here hx rfl (pc0 := 31) (pc' := 36) rfl (hb hby d3_31) rfl ((if0 _ _).trans (tlt hc31).2.2.1) (by decide) (by decide) ?_
    show Steps p.tables e below (s₁.setTop (mkF m 36 #[.val (.long q1), .second, .val (.long q2), .second] [])) _
    refine XS.lloadN X0.here hx rfl (hb hby d3_36) rfl ?_
    show Steps p.tables e below (s₁.setTop (mkF m 37 #[.val (.long q1), .second, .val (.long q2), .second] [(.long q1)])) _
    refine X0.ldc2Long hx hown (mvT hZ (hw _ (List.mem_of_getElem? (i := 19) rfl))) (g := (mkF m 37 #[.val (.long q1), .second, .val (.long q2), .second] [(.long q1)])) rfl (hb hby d3_37) _ ?_
    show Steps p.tables e below (s₁.setTop (mkF m 40 #[.val (.long q1), .second, .val (.long q2), .second] [(.long (-2147483648 : Int64)), (.long q1)])) _
    refine XS.lcmp X0.here hx rfl (hb hby d3_40) rfl ?_
    show Steps p.tables e below (s₁.setTop (mkF m 41 #[.val (.long q1), .second, .val (.long q2), .second] [(.int (lcmpW q1 (-2147483648 : Int64)))])) _
    refine XS.ifYes X0.here hx rfl (pc0 := 41) (pc' := 56) rfl (hb hby d3_41) rfl ((if0 _ _).trans (tlt hc41).1) (by decide) (by decide) ?_
    show Steps p.tables e below (s₁.setTop (mkF m 56 #[.val (.long q1), .second, .val (.long q2), .second] [])) _
    refine XS.bipush X0.here hx rfl (hb hby d3_56) ?_
    show Steps p.tables e below (s₁.setTop (mkF m 58 #[.val (.long q1), .second, .val (.long q2), .second] [(.int (8 : Int32))])) _
    exact retI X0 hx Bd.returns (hb hby d3_58) hr
  · show QW (8 : Int32) h0 n0 _ s₁.heap _
    rw [e0]
    exact ⟨rfl, N0, rfl⟩


set_option maxRecDepth 65536 in
set_option maxHeartbeats 40000000 in
theorem rm3_tftft (l : Launch) (Z : State) (a0 : Array Value) (hw : ∀ d ∈ tables_1, d.before a0 Z = true) (ws : List Jvm.Cond) (q1 : Int64) (q2 : Int64) (h0 : Heap) (n0 : Nat) (Z0 : n0 ≤ h0.size) (hc5 : (lcmpW q1 (-128 : Int64)) < (0 : Int32)) (hc23 : ¬ ((lcmpW q1 (-32768 : Int64)) < (0 : Int32))) (hc31 : (0 : Int32) < (lcmpW q2 (32767 : Int64))) (hc41 : ¬ ((lcmpW q1 (-2147483648 : Int64)) < (0 : Int32))) (hc49 : (0 : Int32) < (lcmpW q2 (2147483647 : Int64))) :
    MetFree l (⟨"com/example/ballpark/ballpark/io/StoreFormat", "width", "(JJ)I"⟩ : MethodName) (head1 (Jvm.Cond.code (⟨"com/example/ballpark/ballpark/io/StoreFormat", "width", "(JJ)I"⟩ : MethodName) prog_54_method_3_code 4 (some .int) :: ws) ({ frames := 0, cells := 0, slots := 0, locals := 0 } : Room)) (fun a U => a = #[(.long q1), (.long q2)] ∧ Z.Warmed39 U.vm ∧ U.heap = h0) (fun _ _ _ _ _ => True) (fun _ U o U' => ∃ v L, o = .returned v ∧ QW (8 : Int32) h0 n0 v U'.heap L ∧ FrameEnd U o U' L ({ frames := 0, cells := 0, slots := 0, locals := 0 } : Room).cells ({ frames := 0, cells := 0, slots := 0, locals := 0 } : Room).slots) := by
  refine MetFree.of_bodySF (plainFor_of_name pn_3) hisR ?_
  intro p e s m args below meth c s₁ Bd hml0 hP hK
  obtain ⟨rfl, hZ, hh⟩ := hP
  have hx := Bd.exec
  have hby := Bd.bytes
  have hml : c.maxLocals = 4 := hml0
  have hown : s.vm.findClass "com/example/ballpark/ballpark/io/StoreFormat" = some m.cls := findClass_of_methodNamed Bd.named
  have hnm := (name_of_methodNamed Bd.named Bd.method).1
  have X0 : Stand p l e ({ frames := 0, cells := 0, slots := 0, locals := 0 } : Room) s m #[(.long q1), (.long q2)] below meth c s₁ [] 0 0 := Stand.of_body Bd
  have e0 : s₁.heap = h0 := by rw [← hh, Bd.state]; rfl
  have N0 := Fr.nil n0
  have pre0 : ∀ t, Steps p.tables e below (s₁.setTop (mkF m 0 #[.val (.long q1), .second, .val (.long q2), .second] [])) t → Steps p.tables e below (s₁.setTop (entryFrame m #[(.long q1), (.long q2)] 4)) t := fun t k => castTop (ef_3 m q1 q2) k

  obtain ⟨fs, hr, hrun, hended, hW, hsame⟩ := X0.leave (v := some (.int (8 : Int32))) (fun h => by rw [Bd.returns] at h; cases h)
  refine ⟨_, _, pre0 _ ?_, hrun, hended, _, _, rfl, ?_, ⟨_, rfl⟩, hW, hsame.mono (by decide) (by decide)⟩
  · show Steps p.tables e below (s₁.setTop (mkF m 0 #[.val (.long q1), .second, .val (.long q2), .second] [])) _
    refine XS.lloadN X0.here hx rfl (hb hby d3_0) rfl ?_
    show Steps p.tables e below (s₁.setTop (mkF m 1 #[.val (.long q1), .second, .val (.long q2), .second] [(.long q1)])) _
    refine X0.ldc2Long hx hown (mvT hZ (hw _ (List.mem_of_getElem? (i := 11) rfl))) (g := (mkF m 1 #[.val (.long q1), .second, .val (.long q2), .second] [(.long q1)])) rfl (hb hby d3_1) _ ?_
    show Steps p.tables e below (s₁.setTop (mkF m 4 #[.val (.long q1), .second, .val (.long q2), .second] [(.long (-128 : Int64)), (.long q1)])) _
    refine XS.lcmp X0.here hx rfl (hb hby d3_4) rfl ?_
    show Steps p.tables e below (s₁.setTop (mkF m 5 #[.val (.long q1), .second, .val (.long q2), .second] [(.int (lcmpW q1 (-128 : Int64)))])) _
    refine XS.ifYes X0.here hx rfl (pc0 := 5) (pc' := 18) rfl (hb hby d3_5) rfl ((if0 _ _).trans (tlt hc5).1) (by decide) (by decide) ?_
    show Steps p.tables e below (s₁.setTop (mkF m 18 #[.val (.long q1), .second, .val (.long q2), .second] [])) _
    refine XS.lloadN X0.here hx rfl (hb hby d3_18) rfl ?_
    show Steps p.tables e below (s₁.setTop (mkF m 19 #[.val (.long q1), .second, .val (.long q2), .second] [(.long q1)])) _
    refine X0.ldc2Long hx hown (mvT hZ (hw _ (List.mem_of_getElem? (i := 17) rfl))) (g := (mkF m 19 #[.val (.long q1), .second, .val (.long q2), .second] [(.long q1)])) rfl (hb hby d3_19) _ ?_
    show Steps p.tables e below (s₁.setTop (mkF m 22 #[.val (.long q1), .second, .val (.long q2), .second] [(.long (-32768 : Int64)), (.long q1)])) _
    refine XS.lcmp X0.here hx rfl (hb hby d3_22) rfl ?_
    show Steps p.tables e below (s₁.setTop (mkF m 23 #[.val (.long q1), .second, .val (.long q2), .second] [(.int (lcmpW q1 (-32768 : Int64)))])) _
    refine XS.ifNo X0.here hx rfl (hb hby d3_23) rfl ((if0 _ _).trans (flt hc23).1) ?_
    show Steps p.tables e below (s₁.setTop (mkF m 26 #[.val (.long q1), .second, .val (.long q2), .second] [])) _
    refine XS.lloadN X0.here hx rfl (hb hby d3_26) rfl ?_
    show Steps p.tables e below (s₁.setTop (mkF m 27 #[.val (.long q1), .second, .val (.long q2), .second] [(.long q2)])) _
    refine X0.ldc2Long hx hown (mvT hZ (hw _ (List.mem_of_getElem? (i := 18) rfl))) (g := (mkF m 27 #[.val (.long q1), .second, .val (.long q2), .second] [(.long q2)])) rfl (hb hby d3_27) _ ?_
    show Steps p.tables e below (s₁.setTop (mkF m 30 #[.val (.long q1), .second, .val (.long q2), .second] [(.long (32767 : Int64)), (.long q2)])) _
    refine XS.lcmp X0.here hx rfl (hb hby d3_30) rfl ?_
    show Steps p.tables e below (s₁.setTop (mkF m 31 #[.val (.long q1), .second, .val (.long q2), .second] [(.int (lcmpW q2 (32767 : Int64)))])) _
    refine XS.ifYes X0.here hx rfl (pc0 := 31) (pc' := 36) rfl (hb hby d3_31) rfl ((if0 _ _).trans (tlt hc31).2.2.1) (by decide) (by decide) ?_
    show Steps p.tables e below (s₁.setTop (mkF m 36 #[.val (.long q1), .second, .val (.long q2), .second] [])) _
    refine XS.lloadN X0.here hx rfl (hb hby d3_36) rfl ?_
    show Steps p.tables e below (s₁.setTop (mkF m 37 #[.val (.long q1), .second, .val (.long q2), .second] [(.long q1)])) _
    refine X0.ldc2Long hx hown (mvT hZ (hw _ (List.mem_of_getElem? (i := 19) rfl))) (g := (mkF m 37 #[.val (.long q1), .second, .val (.long q2), .second] [(.long q1)])) rfl (hb hby d3_37) _ ?_
    show Steps p.tables e below (s₁.setTop (mkF m 40 #[.val (.long q1), .second, .val (.long q2), .second] [(.long (-2147483648 : Int64)), (.long q1)])) _
    refine XS.lcmp X0.here hx rfl (hb hby d3_40) rfl ?_
    show Steps p.tables e below (s₁.setTop (mkF m 41 #[.val (.long q1), .second, .val (.long q2), .second] [(.int (lcmpW q1 (-2147483648 : Int64)))])) _
    refine XS.ifNo X0.here hx rfl (hb hby d3_41) rfl ((if0 _ _).trans (flt hc41).1) ?_
    show Steps p.tables e below (s₁.setTop (mkF m 44 #[.val (.long q1), .second, .val (.long q2), .second] [])) _
    refine XS.lloadN X0.here hx rfl (hb hby d3_44) rfl ?_
    show Steps p.tables e below (s₁.setTop (mkF m 45 #[.val (.long q1), .second, .val (.long q2), .second] [(.long q2)])) _
    refine X0.ldc2Long hx hown (mvT hZ (hw _ (List.mem_of_getElem? (i := 20) rfl))) (g := (mkF m 45 #[.val (.long q1), .second, .val (.long q2), .second] [(.long q2)])) rfl (hb hby d3_45) _ ?_
    show Steps p.tables e below (s₁.setTop (mkF m 48 #[.val (.long q1), .second, .val (.long q2), .second] [(.long (2147483647 : Int64)), (.long q2)])) _
    refine XS.lcmp X0.here hx rfl (hb hby d3_48) rfl ?_
    show Steps p.tables e below (s₁.setTop (mkF m 49 #[.val (.long q1), .second, .val (.long q2), .second] [(.int (lcmpW q2 (2147483647 : Int64)))])) _
    refine XS.ifYes X0.here hx rfl (pc0 := 49) (pc' := 56) rfl (hb hby d3_49) rfl ((if0 _ _).trans (tlt hc49).2.2.1) (by decide) (by decide) ?_
    show Steps p.tables e below (s₁.setTop (mkF m 56 #[.val (.long q1), .second, .val (.long q2), .second] [])) _
    refine XS.bipush X0.here hx rfl (hb hby d3_56) ?_
    show Steps p.tables e below (s₁.setTop (mkF m 58 #[.val (.long q1), .second, .val (.long q2), .second] [(.int (8 : Int32))])) _
    exact retI X0 hx Bd.returns (hb hby d3_58) hr
  · show QW (8 : Int32) h0 n0 _ s₁.heap _
    rw [e0]
    exact ⟨rfl, N0, rfl⟩


set_option maxRecDepth 65536 in
set_option maxHeartbeats 40000000 in
theorem rm3_ftff (l : Launch) (Z : State) (a0 : Array Value) (hw : ∀ d ∈ tables_1, d.before a0 Z = true) (ws : List Jvm.Cond) (q1 : Int64) (q2 : Int64) (h0 : Heap) (n0 : Nat) (Z0 : n0 ≤ h0.size) (hc5 : ¬ ((lcmpW q1 (-128 : Int64)) < (0 : Int32))) (hc13 : (0 : Int32) < (lcmpW q2 (127 : Int64))) (hc23 : ¬ ((lcmpW q1 (-32768 : Int64)) < (0 : Int32))) (hc31 : ¬ ((0 : Int32) < (lcmpW q2 (32767 : Int64)))) :
    MetFree l (⟨"com/example/ballpark/ballpark/io/StoreFormat", "width", "(JJ)I"⟩ : MethodName) (head1 (Jvm.Cond.code (⟨"com/example/ballpark/ballpark/io/StoreFormat", "width", "(JJ)I"⟩ : MethodName) prog_54_method_3_code 4 (some .int) :: ws) ({ frames := 0, cells := 0, slots := 0, locals := 0 } : Room)) (fun a U => a = #[(.long q1), (.long q2)] ∧ Z.Warmed39 U.vm ∧ U.heap = h0) (fun _ _ _ _ _ => True) (fun _ U o U' => ∃ v L, o = .returned v ∧ QW (2 : Int32) h0 n0 v U'.heap L ∧ FrameEnd U o U' L ({ frames := 0, cells := 0, slots := 0, locals := 0 } : Room).cells ({ frames := 0, cells := 0, slots := 0, locals := 0 } : Room).slots) := by
  refine MetFree.of_bodySF (plainFor_of_name pn_3) hisR ?_
  intro p e s m args below meth c s₁ Bd hml0 hP hK
  obtain ⟨rfl, hZ, hh⟩ := hP
  have hx := Bd.exec
  have hby := Bd.bytes
  have hml : c.maxLocals = 4 := hml0
  have hown : s.vm.findClass "com/example/ballpark/ballpark/io/StoreFormat" = some m.cls := findClass_of_methodNamed Bd.named
  have hnm := (name_of_methodNamed Bd.named Bd.method).1
  have X0 : Stand p l e ({ frames := 0, cells := 0, slots := 0, locals := 0 } : Room) s m #[(.long q1), (.long q2)] below meth c s₁ [] 0 0 := Stand.of_body Bd
  have e0 : s₁.heap = h0 := by rw [← hh, Bd.state]; rfl
  have N0 := Fr.nil n0
  have pre0 : ∀ t, Steps p.tables e below (s₁.setTop (mkF m 0 #[.val (.long q1), .second, .val (.long q2), .second] [])) t → Steps p.tables e below (s₁.setTop (entryFrame m #[(.long q1), (.long q2)] 4)) t := fun t k => castTop (ef_3 m q1 q2) k

  obtain ⟨fs, hr, hrun, hended, hW, hsame⟩ := X0.leave (v := some (.int (2 : Int32))) (fun h => by rw [Bd.returns] at h; cases h)
  refine ⟨_, _, pre0 _ ?_, hrun, hended, _, _, rfl, ?_, ⟨_, rfl⟩, hW, hsame.mono (by decide) (by decide)⟩
  · show Steps p.tables e below (s₁.setTop (mkF m 0 #[.val (.long q1), .second, .val (.long q2), .second] [])) _
    refine XS.lloadN X0.here hx rfl (hb hby d3_0) rfl ?_
    show Steps p.tables e below (s₁.setTop (mkF m 1 #[.val (.long q1), .second, .val (.long q2), .second] [(.long q1)])) _
    refine X0.ldc2Long hx hown (mvT hZ (hw _ (List.mem_of_getElem? (i := 11) rfl))) (g := (mkF m 1 #[.val (.long q1), .second, .val (.long q2), .second] [(.long q1)])) rfl (hb hby d3_1) _ ?_
    show Steps p.tables e below (s₁.setTop (mkF m 4 #[.val (.long q1), .second, .val (.long q2), .second] [(.long (-128 : Int64)), (.long q1)])) _
    refine XS.lcmp X0.here hx rfl (hb hby d3_4) rfl ?_
    show Steps p.tables e below (s₁.setTop (mkF m 5 #[.val (.long q1), .second, .val (.long q2), .second] [(.int (lcmpW q1 (-128 : Int64)))])) _
    refine XS.ifNo X0.here hx rfl (hb hby d3_5) rfl ((if0 _ _).trans (flt hc5).1) ?_
    show Steps p.tables e below (s₁.setTop (mkF m 8 #[.val (.long q1), .second, .val (.long q2), .second] [])) _
    refine XS.lloadN X0.here hx rfl (hb hby d3_8) rfl ?_
    show Steps p.tables e below (s₁.setTop (mkF m 9 #[.val (.long q1), .second, .val (.long q2), .second] [(.long q2)])) _
    refine X0.ldc2Long hx hown (mvT hZ (hw _ (List.mem_of_getElem? (i := 12) rfl))) (g := (mkF m 9 #[.val (.long q1), .second, .val (.long q2), .second] [(.long q2)])) rfl (hb hby d3_9) _ ?_
    show Steps p.tables e below (s₁.setTop (mkF m 12 #[.val (.long q1), .second, .val (.long q2), .second] [(.long (127 : Int64)), (.long q2)])) _
    refine XS.lcmp X0.here hx rfl (hb hby d3_12) rfl ?_
    show Steps p.tables e below (s₁.setTop (mkF m 13 #[.val (.long q1), .second, .val (.long q2), .second] [(.int (lcmpW q2 (127 : Int64)))])) _
    refine XS.ifYes X0.here hx rfl (pc0 := 13) (pc' := 18) rfl (hb hby d3_13) rfl ((if0 _ _).trans (tlt hc13).2.2.1) (by decide) (by decide) ?_
    show Steps p.tables e below (s₁.setTop (mkF m 18 #[.val (.long q1), .second, .val (.long q2), .second] [])) _
    refine XS.lloadN X0.here hx rfl (hb hby d3_18) rfl ?_
    show Steps p.tables e below (s₁.setTop (mkF m 19 #[.val (.long q1), .second, .val (.long q2), .second] [(.long q1)])) _
    refine X0.ldc2Long hx hown (mvT hZ (hw _ (List.mem_of_getElem? (i := 17) rfl))) (g := (mkF m 19 #[.val (.long q1), .second, .val (.long q2), .second] [(.long q1)])) rfl (hb hby d3_19) _ ?_
    show Steps p.tables e below (s₁.setTop (mkF m 22 #[.val (.long q1), .second, .val (.long q2), .second] [(.long (-32768 : Int64)), (.long q1)])) _
    refine XS.lcmp X0.here hx rfl (hb hby d3_22) rfl ?_
    show Steps p.tables e below (s₁.setTop (mkF m 23 #[.val (.long q1), .second, .val (.long q2), .second] [(.int (lcmpW q1 (-32768 : Int64)))])) _
    refine XS.ifNo X0.here hx rfl (hb hby d3_23) rfl ((if0 _ _).trans (flt hc23).1) ?_
    show Steps p.tables e below (s₁.setTop (mkF m 26 #[.val (.long q1), .second, .val (.long q2), .second] [])) _
    refine XS.lloadN X0.here hx rfl (hb hby d3_26) rfl ?_
    show Steps p.tables e below (s₁.setTop (mkF m 27 #[.val (.long q1), .second, .val (.long q2), .second] [(.long q2)])) _
    refine X0.ldc2Long hx hown (mvT hZ (hw _ (List.mem_of_getElem? (i := 18) rfl))) (g := (mkF m 27 #[.val (.long q1), .second, .val (.long q2), .second] [(.long q2)])) rfl (hb hby d3_27) _ ?_
    show Steps p.tables e below (s₁.setTop (mkF m 30 #[.val (.long q1), .second, .val (.long q2), .second] [(.long (32767 : Int64)), (.long q2)])) _
    refine XS.lcmp X0.here hx rfl (hb hby d3_30) rfl ?_
    show Steps p.tables e below (s₁.setTop (mkF m 31 #[.val (.long q1), .second, .val (.long q2), .second] [(.int (lcmpW q2 (32767 : Int64)))])) _
    refine XS.ifNo X0.here hx rfl (hb hby d3_31) rfl ((if0 _ _).trans (flt hc31).2.2.1) ?_
    show Steps p.tables e below (s₁.setTop (mkF m 34 #[.val (.long q1), .second, .val (.long q2), .second] [])) _
    refine XS.iconst X0.here hx rfl (hb hby d3_34) ?_
    show Steps p.tables e below (s₁.setTop (mkF m 35 #[.val (.long q1), .second, .val (.long q2), .second] [(.int (2 : Int32))])) _
    exact retI X0 hx Bd.returns (hb hby d3_35) hr
  · show QW (2 : Int32) h0 n0 _ s₁.heap _
    rw [e0]
    exact ⟨rfl, N0, rfl⟩


set_option maxRecDepth 65536 in
set_option maxHeartbeats 40000000 in
theorem rm3_fttff (l : Launch) (Z : State) (a0 : Array Value) (hw : ∀ d ∈ tables_1, d.before a0 Z = true) (ws : List Jvm.Cond) (q1 : Int64) (q2 : Int64) (h0 : Heap) (n0 : Nat) (Z0 : n0 ≤ h0.size) (hc5 : ¬ ((lcmpW q1 (-128 : Int64)) < (0 : Int32))) (hc13 : (0 : Int32) < (lcmpW q2 (127 : Int64))) (hc23 : (lcmpW q1 (-32768 : Int64)) < (0 : Int32)) (hc41 : ¬ ((lcmpW q1 (-2147483648 : Int64)) < (0 : Int32))) (hc49 : ¬ ((0 : Int32) < (lcmpW q2 (2147483647 : Int64)))) :
    MetFree l (⟨"com/example/ballpark/ballpark/io/StoreFormat", "width", "(JJ)I"⟩ : MethodName) (head1 (Jvm.Cond.code (⟨"com/example/ballpark/ballpark/io/StoreFormat", "width", "(JJ)I"⟩ : MethodName) prog_54_method_3_code 4 (some .int) :: ws) ({ frames := 0, cells := 0, slots := 0, locals := 0 } : Room)) (fun a U => a = #[(.long q1), (.long q2)] ∧ Z.Warmed39 U.vm ∧ U.heap = h0) (fun _ _ _ _ _ => True) (fun _ U o U' => ∃ v L, o = .returned v ∧ QW (4 : Int32) h0 n0 v U'.heap L ∧ FrameEnd U o U' L ({ frames := 0, cells := 0, slots := 0, locals := 0 } : Room).cells ({ frames := 0, cells := 0, slots := 0, locals := 0 } : Room).slots) := by
  refine MetFree.of_bodySF (plainFor_of_name pn_3) hisR ?_
  intro p e s m args below meth c s₁ Bd hml0 hP hK
  obtain ⟨rfl, hZ, hh⟩ := hP
  have hx := Bd.exec
  have hby := Bd.bytes
  have hml : c.maxLocals = 4 := hml0
  have hown : s.vm.findClass "com/example/ballpark/ballpark/io/StoreFormat" = some m.cls := findClass_of_methodNamed Bd.named
  have hnm := (name_of_methodNamed Bd.named Bd.method).1
  have X0 : Stand p l e ({ frames := 0, cells := 0, slots := 0, locals := 0 } : Room) s m #[(.long q1), (.long q2)] below meth c s₁ [] 0 0 := Stand.of_body Bd
  have e0 : s₁.heap = h0 := by rw [← hh, Bd.state]; rfl
  have N0 := Fr.nil n0
  have pre0 : ∀ t, Steps p.tables e below (s₁.setTop (mkF m 0 #[.val (.long q1), .second, .val (.long q2), .second] [])) t → Steps p.tables e below (s₁.setTop (entryFrame m #[(.long q1), (.long q2)] 4)) t := fun t k => castTop (ef_3 m q1 q2) k

  obtain ⟨fs, hr, hrun, hended, hW, hsame⟩ := X0.leave (v := some (.int (4 : Int32))) (fun h => by rw [Bd.returns] at h; cases h)
  refine ⟨_, _, pre0 _ ?_, hrun, hended, _, _, rfl, ?_, ⟨_, rfl⟩, hW, hsame.mono (by decide) (by decide)⟩
  · show Steps p.tables e below (s₁.setTop (mkF m 0 #[.val (.long q1), .second, .val (.long q2), .second] [])) _
    refine XS.lloadN X0.here hx rfl (hb hby d3_0) rfl ?_
    show Steps p.tables e below (s₁.setTop (mkF m 1 #[.val (.long q1), .second, .val (.long q2), .second] [(.long q1)])) _
    refine X0.ldc2Long hx hown (mvT hZ (hw _ (List.mem_of_getElem? (i := 11) rfl))) (g := (mkF m 1 #[.val (.long q1), .second, .val (.long q2), .second] [(.long q1)])) rfl (hb hby d3_1) _ ?_
    show Steps p.tables e below (s₁.setTop (mkF m 4 #[.val (.long q1), .second, .val (.long q2), .second] [(.long (-128 : Int64)), (.long q1)])) _
    refine XS.lcmp X0.here hx rfl (hb hby d3_4) rfl ?_
    show Steps p.tables e below (s₁.setTop (mkF m 5 #[.val (.long q1), .second, .val (.long q2), .second] [(.int (lcmpW q1 (-128 : Int64)))])) _
    refine XS.ifNo X0.here hx rfl (hb hby d3_5) rfl ((if0 _ _).trans (flt hc5).1) ?_
    show Steps p.tables e below (s₁.setTop (mkF m 8 #[.val (.long q1), .second, .val (.long q2), .second] [])) _
    refine XS.lloadN X0.here hx rfl (hb hby d3_8) rfl ?_
    show Steps p.tables e below (s₁.setTop (mkF m 9 #[.val (.long q1), .second, .val (.long q2), .second] [(.long q2)])) _
    refine X0.ldc2Long hx hown (mvT hZ (hw _ (List.mem_of_getElem? (i := 12) rfl))) (g := (mkF m 9 #[.val (.long q1), .second, .val (.long q2), .second] [(.long q2)])) rfl (hb hby d3_9) _ ?_
    show Steps p.tables e below (s₁.setTop (mkF m 12 #[.val (.long q1), .second, .val (.long q2), .second] [(.long (127 : Int64)), (.long q2)])) _
    refine XS.lcmp X0.here hx rfl (hb hby d3_12) rfl ?_
    show Steps p.tables e below (s₁.setTop (mkF m 13 #[.val (.long q1), .second, .val (.long q2), .second] [(.int (lcmpW q2 (127 : Int64)))])) _
    refine XS.ifYes X0.here hx rfl (pc0 := 13) (pc' := 18) rfl (hb hby d3_13) rfl ((if0 _ _).trans (tlt hc13).2.2.1) (by decide) (by decide) ?_
    show Steps p.tables e below (s₁.setTop (mkF m 18 #[.val (.long q1), .second, .val (.long q2), .second] [])) _
    refine XS.lloadN X0.here hx rfl (hb hby d3_18) rfl ?_
    show Steps p.tables e below (s₁.setTop (mkF m 19 #[.val (.long q1), .second, .val (.long q2), .second] [(.long q1)])) _
    refine X0.ldc2Long hx hown (mvT hZ (hw _ (List.mem_of_getElem? (i := 17) rfl))) (g := (mkF m 19 #[.val (.long q1), .second, .val (.long q2), .second] [(.long q1)])) rfl (hb hby d3_19) _ ?_
    show Steps p.tables e below (s₁.setTop (mkF m 22 #[.val (.long q1), .second, .val (.long q2), .second] [(.long (-32768 : Int64)), (.long q1)])) _
    refine XS.lcmp X0.here hx rfl (hb hby d3_22) rfl ?_
    show Steps p.tables e below (s₁.setTop (mkF m 23 #[.val (.long q1), .second, .val (.long q2), .second] [(.int (lcmpW q1 (-32768 : Int64)))])) _
    refine XS.ifYes X0.here hx rfl (pc0 := 23) (pc' := 36) rfl (hb hby d3_23) rfl ((if0 _ _).trans (tlt hc23).1) (by decide) (by decide) ?_
    show Steps p.tables e below (s₁.setTop (mkF m 36 #[.val (.long q1), .second, .val (.long q2), .second] [])) _
    refine XS.lloadN X0.here hx rfl (hb hby d3_36) rfl ?_
    show Steps p.tables e below (s₁.setTop (mkF m 37 #[.val (.long q1), .second, .val (.long q2), .second] [(.long q1)])) _
    refine X0.ldc2Long hx hown (mvT hZ (hw _ (List.mem_of_getElem? (i := 19) rfl))) (g := (mkF m 37 #[.val (.long q1), .second, .val (.long q2), .second] [(.long q1)])) rfl (hb hby d3_37) _ ?_
    show Steps p.tables e below (s₁.setTop (mkF m 40 #[.val (.long q1), .second, .val (.long q2), .second] [(.long (-2147483648 : Int64)), (.long q1)])) _
    refine XS.lcmp X0.here hx rfl (hb hby d3_40) rfl ?_
    show Steps p.tables e below (s₁.setTop (mkF m 41 #[.val (.long q1), .second, .val (.long q2), .second] [(.int (lcmpW q1 (-2147483648 : Int64)))])) _
    refine XS.ifNo X0.here hx rfl (hb hby d3_41) rfl ((if0 _ _).trans (flt hc41).1) ?_
    show Steps p.tables e below (s₁.setTop (mkF m 44 #[.val (.long q1), .second, .val (.long q2), .second] [])) _
    refine XS.lloadN X0.here hx rfl (hb hby d3_44) rfl ?_
    show Steps p.tables e below (s₁.setTop (mkF m 45 #[.val (.long q1), .second, .val (.long q2), .second] [(.long q2)])) _
    refine X0.ldc2Long hx hown (mvT hZ (hw _ (List.mem_of_getElem? (i := 20) rfl))) (g := (mkF m 45 #[.val (.long q1), .second, .val (.long q2), .second] [(.long q2)])) rfl (hb hby d3_45) _ ?_
    show Steps p.tables e below (s₁.setTop (mkF m 48 #[.val (.long q1), .second, .val (.long q2), .second] [(.long (2147483647 : Int64)), (.long q2)])) _
    refine XS.lcmp X0.here hx rfl (hb hby d3_48) rfl ?_
    show Steps p.tables e below (s₁.setTop (mkF m 49 #[.val (.long q1), .second, .val (.long q2), .second] [(.int (lcmpW q2 (2147483647 : Int64)))])) _
    refine XS.ifNo X0.here hx rfl (hb hby d3_49) rfl ((if0 _ _).trans (flt hc49).2.2.1) ?_
    show Steps p.tables e below (s₁.setTop (mkF m 52 #[.val (.long q1), .second, .val (.long q2), .second] [])) _
    refine XS.iconst X0.here hx rfl (hb hby d3_52) ?_
    show Steps p.tables e below (s₁.setTop (mkF m 53 #[.val (.long q1), .second, .val (.long q2), .second] [(.int (4 : Int32))])) _
    refine XS.goto X0.here hx rfl (pc0 := 53) (pc' := 58) rfl (hb hby d3_53) (by decide) (by decide) ?_
    show Steps p.tables e below (s₁.setTop (mkF m 58 #[.val (.long q1), .second, .val (.long q2), .second] [(.int (4 : Int32))])) _
    exact retI X0 hx Bd.returns (hb hby d3_58) hr
  · show QW (4 : Int32) h0 n0 _ s₁.heap _
    rw [e0]
    exact ⟨rfl, N0, rfl⟩


set_option maxRecDepth 65536 in
set_option maxHeartbeats 40000000 in
theorem rm3_fttt (l : Launch) (Z : State) (a0 : Array Value) (hw : ∀ d ∈ tables_1, d.before a0 Z = true) (ws : List Jvm.Cond) (q1 : Int64) (q2 : Int64) (h0 : Heap) (n0 : Nat) (Z0 : n0 ≤ h0.size) (hc5 : ¬ ((lcmpW q1 (-128 : Int64)) < (0 : Int32))) (hc13 : (0 : Int32) < (lcmpW q2 (127 : Int64))) (hc23 : (lcmpW q1 (-32768 : Int64)) < (0 : Int32)) (hc41 : (lcmpW q1 (-2147483648 : Int64)) < (0 : Int32)) :
    MetFree l (⟨"com/example/ballpark/ballpark/io/StoreFormat", "width", "(JJ)I"⟩ : MethodName) (head1 (Jvm.Cond.code (⟨"com/example/ballpark/ballpark/io/StoreFormat", "width", "(JJ)I"⟩ : MethodName) prog_54_method_3_code 4 (some .int) :: ws) ({ frames := 0, cells := 0, slots := 0, locals := 0 } : Room)) (fun a U => a = #[(.long q1), (.long q2)] ∧ Z.Warmed39 U.vm ∧ U.heap = h0) (fun _ _ _ _ _ => True) (fun _ U o U' => ∃ v L, o = .returned v ∧ QW (8 : Int32) h0 n0 v U'.heap L ∧ FrameEnd U o U' L ({ frames := 0, cells := 0, slots := 0, locals := 0 } : Room).cells ({ frames := 0, cells := 0, slots := 0, locals := 0 } : Room).slots) := by
  refine MetFree.of_bodySF (plainFor_of_name pn_3) hisR ?_
  intro p e s m args below meth c s₁ Bd hml0 hP hK
  obtain ⟨rfl, hZ, hh⟩ := hP
  have hx := Bd.exec
  have hby := Bd.bytes
  have hml : c.maxLocals = 4 := hml0
  have hown : s.vm.findClass "com/example/ballpark/ballpark/io/StoreFormat" = some m.cls := findClass_of_methodNamed Bd.named
  have hnm := (name_of_methodNamed Bd.named Bd.method).1
  have X0 : Stand p l e ({ frames := 0, cells := 0, slots := 0, locals := 0 } : Room) s m #[(.long q1), (.long q2)] below meth c s₁ [] 0 0 := Stand.of_body Bd
  have e0 : s₁.heap = h0 := by rw [← hh, Bd.state]; rfl
  have N0 := Fr.nil n0
  have pre0 : ∀ t, Steps p.tables e below (s₁.setTop (mkF m 0 #[.val (.long q1), .second, .val (.long q2), .second] [])) t → Steps p.tables e below (s₁.setTop (entryFrame m #[(.long q1), (.long q2)] 4)) t := fun t k => castTop (ef_3 m q1 q2) k

  obtain ⟨fs, hr, hrun, hended, hW, hsame⟩ := X0.leave (v := some (.int (8 : Int32))) (fun h => by rw [Bd.returns] at h; cases h)
  refine ⟨_, _, pre0 _ ?_, hrun, hended, _, _, rfl, ?_, ⟨_, rfl⟩, hW, hsame.mono (by decide) (by decide)⟩
  · show Steps p.tables e below (s₁.setTop (mkF m 0 #[.val (.long q1), .second, .val (.long q2), .second] [])) _
    refine XS.lloadN X0.here hx rfl (hb hby d3_0) rfl ?_
    show Steps p.tables e below (s₁.setTop (mkF m 1 #[.val (.long q1), .second, .val (.long q2), .second] [(.long q1)])) _
    refine X0.ldc2Long hx hown (mvT hZ (hw _ (List.mem_of_getElem? (i := 11) rfl))) (g := (mkF m 1 #[.val (.long q1), .second, .val (.long q2), .second] [(.long q1)])) rfl (hb hby d3_1) _ ?_
    show Steps p.tables e below (s₁.setTop (mkF m 4 #[.val (.long q1), .second, .val (.long q2), .second] [(.long (-128 : Int64)), (.long q1)])) _
    refine XS.lcmp X0.here hx rfl (hb hby d3_4) rfl ?_
    show Steps p.tables e below (s₁.setTop (mkF m 5 #[.val (.long q1), .second, .val (.long q2), .second] [(.int (lcmpW q1 (-128 : Int64)))])) _
    refine XS.ifNo X0.here hx rfl (hb hby d3_5) rfl ((if0 _ _).trans (flt hc5).1) ?_
    show Steps p.tables e below (s₁.setTop (mkF m 8 #[.val (.long q1), .second, .val (.long q2), .second] [])) _
    refine XS.lloadN X0.here hx rfl (hb hby d3_8) rfl ?_
    show Steps p.tables e below (s₁.setTop (mkF m 9 #[.val (.long q1), .second, .val (.long q2), .second] [(.long q2)])) _
    refine X0.ldc2Long hx hown (mvT hZ (hw _ (List.mem_of_getElem? (i := 12) rfl))) (g := (mkF m 9 #[.val (.long q1), .second, .val (.long q2), .second] [(.long q2)])) rfl (hb hby d3_9) _ ?_
    show Steps p.tables e below (s₁.setTop (mkF m 12 #[.val (.long q1), .second, .val (.long q2), .second] [(.long (127 : Int64)), (.long q2)])) _
    refine XS.lcmp X0.here hx rfl (hb hby d3_12) rfl ?_
    show Steps p.tables e below (s₁.setTop (mkF m 13 #[.val (.long q1), .second, .val (.long q2), .second] [(.int (lcmpW q2 (127 : Int64)))])) _
    refine XS.ifYes X0.here hx rfl (pc0 := 13) (pc' := 18) rfl (hb hby d3_13) rfl ((if0 _ _).trans (tlt hc13).2.2.1) (by decide) (by decide) ?_
    show Steps p.tables e below (s₁.setTop (mkF m 18 #[.val (.long q1), .second, .val (.long q2), .second] [])) _
    refine XS.lloadN X0.here hx rfl (hb hby d3_18) rfl ?_
    show Steps p.tables e below (s₁.setTop (mkF m 19 #[.val (.long q1), .second, .val (.long q2), .second] [(.long q1)])) _
    refine X0.ldc2Long hx hown (mvT hZ (hw _ (List.mem_of_getElem? (i := 17) rfl))) (g := (mkF m 19 #[.val (.long q1), .second, .val (.long q2), .second] [(.long q1)])) rfl (hb hby d3_19) _ ?_
    show Steps p.tables e below (s₁.setTop (mkF m 22 #[.val (.long q1), .second, .val (.long q2), .second] [(.long (-32768 : Int64)), (.long q1)])) _
    refine XS.lcmp X0.here hx rfl (hb hby d3_22) rfl ?_
    show Steps p.tables e below (s₁.setTop (mkF m 23 #[.val (.long q1), .second, .val (.long q2), .second] [(.int (lcmpW q1 (-32768 : Int64)))])) _
    refine XS.ifYes X0.here hx rfl (pc0 := 23) (pc' := 36) rfl (hb hby d3_23) rfl ((if0 _ _).trans (tlt hc23).1) (by decide) (by decide) ?_
    show Steps p.tables e below (s₁.setTop (mkF m 36 #[.val (.long q1), .second, .val (.long q2), .second] [])) _
    refine XS.lloadN X0.here hx rfl (hb hby d3_36) rfl ?_
    show Steps p.tables e below (s₁.setTop (mkF m 37 #[.val (.long q1), .second, .val (.long q2), .second] [(.long q1)])) _
    refine X0.ldc2Long hx hown (mvT hZ (hw _ (List.mem_of_getElem? (i := 19) rfl))) (g := (mkF m 37 #[.val (.long q1), .second, .val (.long q2), .second] [(.long q1)])) rfl (hb hby d3_37) _ ?_
    show Steps p.tables e below (s₁.setTop (mkF m 40 #[.val (.long q1), .second, .val (.long q2), .second] [(.long (-2147483648 : Int64)), (.long q1)])) _
    refine XS.lcmp X0.here hx rfl (hb hby d3_40) rfl ?_
    show Steps p.tables e below (s₁.setTop (mkF m 41 #[.val (.long q1), .second, .val (.long q2), .second] [(.int (lcmpW q1 (-2147483648 : Int64)))])) _
    refine XS.ifYes X0.here hx rfl (pc0 := 41) (pc' := 56) rfl (hb hby d3_41) rfl ((if0 _ _).trans (tlt hc41).1) (by decide) (by decide) ?_
    show Steps p.tables e below (s₁.setTop (mkF m 56 #[.val (.long q1), .second, .val (.long q2), .second] [])) _
    refine XS.bipush X0.here hx rfl (hb hby d3_56) ?_
    show Steps p.tables e below (s₁.setTop (mkF m 58 #[.val (.long q1), .second, .val (.long q2), .second] [(.int (8 : Int32))])) _
    exact retI X0 hx Bd.returns (hb hby d3_58) hr
  · show QW (8 : Int32) h0 n0 _ s₁.heap _
    rw [e0]
    exact ⟨rfl, N0, rfl⟩


set_option maxRecDepth 65536 in
set_option maxHeartbeats 40000000 in
theorem rm3_fttft (l : Launch) (Z : State) (a0 : Array Value) (hw : ∀ d ∈ tables_1, d.before a0 Z = true) (ws : List Jvm.Cond) (q1 : Int64) (q2 : Int64) (h0 : Heap) (n0 : Nat) (Z0 : n0 ≤ h0.size) (hc5 : ¬ ((lcmpW q1 (-128 : Int64)) < (0 : Int32))) (hc13 : (0 : Int32) < (lcmpW q2 (127 : Int64))) (hc23 : (lcmpW q1 (-32768 : Int64)) < (0 : Int32)) (hc41 : ¬ ((lcmpW q1 (-2147483648 : Int64)) < (0 : Int32))) (hc49 : (0 : Int32) < (lcmpW q2 (2147483647 : Int64))) :
    MetFree l (⟨"com/example/ballpark/ballpark/io/StoreFormat", "width", "(JJ)I"⟩ : MethodName) (head1 (Jvm.Cond.code (⟨"com/example/ballpark/ballpark/io/StoreFormat", "width", "(JJ)I"⟩ : MethodName) prog_54_method_3_code 4 (some .int) :: ws) ({ frames := 0, cells := 0, slots := 0, locals := 0 } : Room)) (fun a U => a = #[(.long q1), (.long q2)] ∧ Z.Warmed39 U.vm ∧ U.heap = h0) (fun _ _ _ _ _ => True) (fun _ U o U' => ∃ v L, o = .returned v ∧ QW (8 : Int32) h0 n0 v U'.heap L ∧ FrameEnd U o U' L ({ frames := 0, cells := 0, slots := 0, locals := 0 } : Room).cells ({ frames := 0, cells := 0, slots := 0, locals := 0 } : Room).slots) := by
  refine MetFree.of_bodySF (plainFor_of_name pn_3) hisR ?_
  intro p e s m args below meth c s₁ Bd hml0 hP hK
  obtain ⟨rfl, hZ, hh⟩ := hP
  have hx := Bd.exec
  have hby := Bd.bytes
  have hml : c.maxLocals = 4 := hml0
  have hown : s.vm.findClass "com/example/ballpark/ballpark/io/StoreFormat" = some m.cls := findClass_of_methodNamed Bd.named
  have hnm := (name_of_methodNamed Bd.named Bd.method).1
  have X0 : Stand p l e ({ frames := 0, cells := 0, slots := 0, locals := 0 } : Room) s m #[(.long q1), (.long q2)] below meth c s₁ [] 0 0 := Stand.of_body Bd
  have e0 : s₁.heap = h0 := by rw [← hh, Bd.state]; rfl
  have N0 := Fr.nil n0
  have pre0 : ∀ t, Steps p.tables e below (s₁.setTop (mkF m 0 #[.val (.long q1), .second, .val (.long q2), .second] [])) t → Steps p.tables e below (s₁.setTop (entryFrame m #[(.long q1), (.long q2)] 4)) t := fun t k => castTop (ef_3 m q1 q2) k

  obtain ⟨fs, hr, hrun, hended, hW, hsame⟩ := X0.leave (v := some (.int (8 : Int32))) (fun h => by rw [Bd.returns] at h; cases h)
  refine ⟨_, _, pre0 _ ?_, hrun, hended, _, _, rfl, ?_, ⟨_, rfl⟩, hW, hsame.mono (by decide) (by decide)⟩
  · show Steps p.tables e below (s₁.setTop (mkF m 0 #[.val (.long q1), .second, .val (.long q2), .second] [])) _
    refine XS.lloadN X0.here hx rfl (hb hby d3_0) rfl ?_
    show Steps p.tables e below (s₁.setTop (mkF m 1 #[.val (.long q1), .second, .val (.long q2), .second] [(.long q1)])) _
    refine X0.ldc2Long hx hown (mvT hZ (hw _ (List.mem_of_getElem? (i := 11) rfl))) (g := (mkF m 1 #[.val (.long q1), .second, .val (.long q2), .second] [(.long q1)])) rfl (hb hby d3_1) _ ?_
    show Steps p.tables e below (s₁.setTop (mkF m 4 #[.val (.long q1), .second, .val (.long q2), .second] [(.long (-128 : Int64)), (.long q1)])) _
    refine XS.lcmp X0.here hx rfl (hb hby d3_4) rfl ?_
    show Steps p.tables e below (s₁.setTop (mkF m 5 #[.val (.long q1), .second, .val (.long q2), .second] [(.int (lcmpW q1 (-128 : Int64)))])) _
    refine XS.ifNo X0.here hx rfl (hb hby d3_5) rfl ((if0 _ _).trans (flt hc5).1) ?_
    show Steps p.tables e below (s₁.setTop (mkF m 8 #[.val (.long q1), .second, .val (.long q2), .second] [])) _
    refine XS.lloadN X0.here hx rfl (hb hby d3_8) rfl ?_
    show Steps p.tables e below (s₁.setTop (mkF m 9 #[.val (.long q1), .second, .val (.long q2), .second] [(.long q2)])) _
    refine X0.ldc2Long hx hown (mvT hZ (hw _ (List.mem_of_getElem? (i := 12) rfl))) (g := (mkF m 9 #[.val (.long q1), .second, .val (.long q2), .second] [(.long q2)])) rfl (hb hby d3_9) _ ?_
    show Steps p.tables e below (s₁.setTop (mkF m 12 #[.val (.long q1), .second, .val (.long q2), .second] [(.long (127 : Int64)), (.long q2)])) _
    refine XS.lcmp X0.here hx rfl (hb hby d3_12) rfl ?_
    show Steps p.tables e below (s₁.setTop (mkF m 13 #[.val (.long q1), .second, .val (.long q2), .second] [(.int (lcmpW q2 (127 : Int64)))])) _
    refine XS.ifYes X0.here hx rfl (pc0 := 13) (pc' := 18) rfl (hb hby d3_13) rfl ((if0 _ _).trans (tlt hc13).2.2.1) (by decide) (by decide) ?_
    show Steps p.tables e below (s₁.setTop (mkF m 18 #[.val (.long q1), .second, .val (.long q2), .second] [])) _
    refine XS.lloadN X0.here hx rfl (hb hby d3_18) rfl ?_
    show Steps p.tables e below (s₁.setTop (mkF m 19 #[.val (.long q1), .second, .val (.long q2), .second] [(.long q1)])) _
    refine X0.ldc2Long hx hown (mvT hZ (hw _ (List.mem_of_getElem? (i := 17) rfl))) (g := (mkF m 19 #[.val (.long q1), .second, .val (.long q2), .second] [(.long q1)])) rfl (hb hby d3_19) _ ?_
    show Steps p.tables e below (s₁.setTop (mkF m 22 #[.val (.long q1), .second, .val (.long q2), .second] [(.long (-32768 : Int64)), (.long q1)])) _
    refine XS.lcmp X0.here hx rfl (hb hby d3_22) rfl ?_
    show Steps p.tables e below (s₁.setTop (mkF m 23 #[.val (.long q1), .second, .val (.long q2), .second] [(.int (lcmpW q1 (-32768 : Int64)))])) _
    refine XS.ifYes X0.here hx rfl (pc0 := 23) (pc' := 36) rfl (hb hby d3_23) rfl ((if0 _ _).trans (tlt hc23).1) (by decide) (by decide) ?_
    show Steps p.tables e below (s₁.setTop (mkF m 36 #[.val (.long q1), .second, .val (.long q2), .second] [])) _
    refine XS.lloadN X0.here hx rfl (hb hby d3_36) rfl ?_
    show Steps p.tables e below (s₁.setTop (mkF m 37 #[.val (.long q1), .second, .val (.long q2), .second] [(.long q1)])) _
    refine X0.ldc2Long hx hown (mvT hZ (hw _ (List.mem_of_getElem? (i := 19) rfl))) (g := (mkF m 37 #[.val (.long q1), .second, .val (.long q2), .second] [(.long q1)])) rfl (hb hby d3_37) _ ?_
    show Steps p.tables e below (s₁.setTop (mkF m 40 #[.val (.long q1), .second, .val (.long q2), .second] [(.long (-2147483648 : Int64)), (.long q1)])) _
    refine XS.lcmp X0.here hx rfl (hb hby d3_40) rfl ?_
    show Steps p.tables e below (s₁.setTop (mkF m 41 #[.val (.long q1), .second, .val (.long q2), .second] [(.int (lcmpW q1 (-2147483648 : Int64)))])) _
    refine XS.ifNo X0.here hx rfl (hb hby d3_41) rfl ((if0 _ _).trans (flt hc41).1) ?_
    show Steps p.tables e below (s₁.setTop (mkF m 44 #[.val (.long q1), .second, .val (.long q2), .second] [])) _
    refine XS.lloadN X0.here hx rfl (hb hby d3_44) rfl ?_
    show Steps p.tables e below (s₁.setTop (mkF m 45 #[.val (.long q1), .second, .val (.long q2), .second] [(.long q2)])) _
    refine X0.ldc2Long hx hown (mvT hZ (hw _ (List.mem_of_getElem? (i := 20) rfl))) (g := (mkF m 45 #[.val (.long q1), .second, .val (.long q2), .second] [(.long q2)])) rfl (hb hby d3_45) _ ?_
    show Steps p.tables e below (s₁.setTop (mkF m 48 #[.val (.long q1), .second, .val (.long q2), .second] [(.long (2147483647 : Int64)), (.long q2)])) _
    refine XS.lcmp X0.here hx rfl (hb hby d3_48) rfl ?_
    show Steps p.tables e below (s₁.setTop (mkF m 49 #[.val (.long q1), .second, .val (.long q2), .second] [(.int (lcmpW q2 (2147483647 : Int64)))])) _
    refine XS.ifYes X0.here hx rfl (pc0 := 49) (pc' := 56) rfl (hb hby d3_49) rfl ((if0 _ _).trans (tlt hc49).2.2.1) (by decide) (by decide) ?_
    show Steps p.tables e below (s₁.setTop (mkF m 56 #[.val (.long q1), .second, .val (.long q2), .second] [])) _
    refine XS.bipush X0.here hx rfl (hb hby d3_56) ?_
    show Steps p.tables e below (s₁.setTop (mkF m 58 #[.val (.long q1), .second, .val (.long q2), .second] [(.int (8 : Int32))])) _
    exact retI X0 hx Bd.returns (hb hby d3_58) hr
  · show QW (8 : Int32) h0 n0 _ s₁.heap _
    rw [e0]
    exact ⟨rfl, N0, rfl⟩


set_option maxRecDepth 65536 in
set_option maxHeartbeats 40000000 in
theorem rm3_ftftff (l : Launch) (Z : State) (a0 : Array Value) (hw : ∀ d ∈ tables_1, d.before a0 Z = true) (ws : List Jvm.Cond) (q1 : Int64) (q2 : Int64) (h0 : Heap) (n0 : Nat) (Z0 : n0 ≤ h0.size) (hc5 : ¬ ((lcmpW q1 (-128 : Int64)) < (0 : Int32))) (hc13 : (0 : Int32) < (lcmpW q2 (127 : Int64))) (hc23 : ¬ ((lcmpW q1 (-32768 : Int64)) < (0 : Int32))) (hc31 : (0 : Int32) < (lcmpW q2 (32767 : Int64))) (hc41 : ¬ ((lcmpW q1 (-2147483648 : Int64)) < (0 : Int32))) (hc49 : ¬ ((0 : Int32) < (lcmpW q2 (2147483647 : Int64)))) :
    MetFree l (⟨"com/example/ballpark/ballpark/io/StoreFormat", "width", "(JJ)I"⟩ : MethodName) (head1 (Jvm.Cond.code (⟨"com/example/ballpark/ballpark/io/StoreFormat", "width", "(JJ)I"⟩ : MethodName) prog_54_method_3_code 4 (some .int) :: ws) ({ frames := 0, cells := 0, slots := 0, locals := 0 } : Room)) (fun a U => a = #[(.long q1), (.long q2)] ∧ Z.Warmed39 U.vm ∧ U.heap = h0) (fun _ _ _ _ _ => True) (fun _ U o U' => ∃ v L, o = .returned v ∧ QW (4 : Int32) h0 n0 v U'.heap L ∧ FrameEnd U o U' L ({ frames := 0, cells := 0, slots := 0, locals := 0 } : Room).cells ({ frames := 0, cells := 0, slots := 0, locals := 0 } : Room).slots) := by
  refine MetFree.of_bodySF (plainFor_of_name pn_3) hisR ?_
  intro p e s m args below meth c s₁ Bd hml0 hP hK
  obtain ⟨rfl, hZ, hh⟩ := hP
  have hx := Bd.exec
  have hby := Bd.bytes
  have hml : c.maxLocals = 4 := hml0
  have hown : s.vm.findClass "com/example/ballpark/ballpark/io/StoreFormat" = some m.cls := findClass_of_methodNamed Bd.named
  have hnm := (name_of_methodNamed Bd.named Bd.method).1
  have X0 : Stand p l e ({ frames := 0, cells := 0, slots := 0, locals := 0 } : Room) s m #[(.long q1), (.long q2)] below meth c s₁ [] 0 0 := Stand.of_body Bd
  have e0 : s₁.heap = h0 := by rw [← hh, Bd.state]; rfl
  have N0 := Fr.nil n0
  have pre0 : ∀ t, Steps p.tables e below (s₁.setTop (mkF m 0 #[.val (.long q1), .second, .val (.long q2), .second] [])) t → Steps p.tables e below (s₁.setTop (entryFrame m #[(.long q1), (.long q2)] 4)) t := fun t k => castTop (ef_3 m q1 q2) k

  obtain ⟨fs, hr, hrun, hended, hW, hsame⟩ := X0.leave (v := some (.int (4 : Int32))) (fun h => by rw [Bd.returns] at h; cases h)
  refine ⟨_, _, pre0 _ ?_, hrun, hended, _, _, rfl, ?_, ⟨_, rfl⟩, hW, hsame.mono (by decide) (by decide)⟩
  · show Steps p.tables e below (s₁.setTop (mkF m 0 #[.val (.long q1), .second, .val (.long q2), .second] [])) _
    refine XS.lloadN X0.here hx rfl (hb hby d3_0) rfl ?_
    show Steps p.tables e below (s₁.setTop (mkF m 1 #[.val (.long q1), .second, .val (.long q2), .second] [(.long q1)])) _
    refine X0.ldc2Long hx hown (mvT hZ (hw _ (List.mem_of_getElem? (i := 11) rfl))) (g := (mkF m 1 #[.val (.long q1), .second, .val (.long q2), .second] [(.long q1)])) rfl (hb hby d3_1) _ ?_
    show Steps p.tables e below (s₁.setTop (mkF m 4 #[.val (.long q1), .second, .val (.long q2), .second] [(.long (-128 : Int64)), (.long q1)])) _
    refine XS.lcmp X0.here hx rfl (hb hby d3_4) rfl ?_
    show Steps p.tables e below (s₁.setTop (mkF m 5 #[.val (.long q1), .second, .val (.long q2), .second] [(.int (lcmpW q1 (-128 : Int64)))])) _
    refine XS.ifNo X0.here hx rfl (hb hby d3_5) rfl ((if0 _ _).trans (flt hc5).1) ?_
    show Steps p.tables e below (s₁.setTop (mkF m 8 #[.val (.long q1), .second, .val (.long q2), .second] [])) _
    refine XS.lloadN X0.here hx rfl (hb hby d3_8) rfl ?_
    show Steps p.tables e below (s₁.setTop (mkF m 9 #[.val (.long q1), .second, .val (.long q2), .second] [(.long q2)])) _
    refine X0.ldc2Long hx hown (mvT hZ (hw _ (List.mem_of_getElem? (i := 12) rfl))) (g := (mkF m 9 #[.val (.long q1), .second, .val (.long q2), .second] [(.long q2)])) rfl (hb hby d3_9) _ ?_
    show Steps p.tables e below (s₁.setTop (mkF m 12 #[.val (.long q1), .second, .val (.long q2), .second] [(.long (127 : Int64)), (.long q2)])) _
    refine XS.lcmp X0.here hx rfl (hb hby d3_12) rfl ?_
    show Steps p.tables e below (s₁.setTop (mkF m 13 #[.val (.long q1), .second, .val (.long q2), .second] [(.int (lcmpW q2 (127 : Int64)))])) _
    refine XS.ifYes X0.here hx rfl (pc0 := 13) (pc' := 18) rfl (hb hby d3_13) rfl ((if0 _ _).trans (tlt hc13).2.2.1) (by decide) (by decide) ?_
    show Steps p.tables e below (s₁.setTop (mkF m 18 #[.val (.long q1), .second, .val (.long q2), .second] [])) _
    refine XS.lloadN X0.here hx rfl (hb hby d3_18) rfl ?_
    show Steps p.tables e below (s₁.setTop (mkF m 19 #[.val (.long q1), .second, .val (.long q2), .second] [(.long q1)])) _
    refine X0.ldc2Long hx hown (mvT hZ (hw _ (List.mem_of_getElem? (i := 17) rfl))) (g := (mkF m 19 #[.val (.long q1), .second, .val (.long q2), .second] [(.long q1)])) rfl (hb hby d3_19) _ ?_
    show Steps p.tables e below (s₁.setTop (mkF m 22 #[.val (.long q1), .second, .val (.long q2), .second] [(.long (-32768 : Int64)), (.long q1)])) _
    refine XS.lcmp X0.here hx rfl (hb hby d3_22) rfl ?_
    show Steps p.tables e below (s₁.setTop (mkF m 23 #[.val (.long q1), .second, .val (.long q2), .second] [(.int (lcmpW q1 (-32768 : Int64)))])) _
    refine XS.ifNo X0.here hx rfl (hb hby d3_23) rfl ((if0 _ _).trans (flt hc23).1) ?_
    show Steps p.tables e below (s₁.setTop (mkF m 26 #[.val (.long q1), .second, .val (.long q2), .second] [])) _
    refine XS.lloadN X0.here hx rfl (hb hby d3_26) rfl ?_
    show Steps p.tables e below (s₁.setTop (mkF m 27 #[.val (.long q1), .second, .val (.long q2), .second] [(.long q2)])) _
    refine X0.ldc2Long hx hown (mvT hZ (hw _ (List.mem_of_getElem? (i := 18) rfl))) (g := (mkF m 27 #[.val (.long q1), .second, .val (.long q2), .second] [(.long q2)])) rfl (hb hby d3_27) _ ?_
    show Steps p.tables e below (s₁.setTop (mkF m 30 #[.val (.long q1), .second, .val (.long q2), .second] [(.long (32767 : Int64)), (.long q2)])) _
    refine XS.lcmp X0.here hx rfl (hb hby d3_30) rfl ?_
    show Steps p.tables e below (s₁.setTop (mkF m 31 #[.val (.long q1), .second, .val (.long q2), .second] [(.int (lcmpW q2 (32767 : Int64)))])) _
    refine XS.ifYes X0.here hx rfl (pc0 := 31) (pc' := 36) rfl (hb hby d3_31) rfl ((if0 _ _).trans (tlt hc31).2.2.1) (by decide) (by decide) ?_
    show Steps p.tables e below (s₁.setTop (mkF m 36 #[.val (.long q1), .second, .val (.long q2), .second] [])) _
    refine XS.lloadN X0.here hx rfl (hb hby d3_36) rfl ?_
    show Steps p.tables e below (s₁.setTop (mkF m 37 #[.val (.long q1), .second, .val (.long q2), .second] [(.long q1)])) _
    refine X0.ldc2Long hx hown (mvT hZ (hw _ (List.mem_of_getElem? (i := 19) rfl))) (g := (mkF m 37 #[.val (.long q1), .second, .val (.long q2), .second] [(.long q1)])) rfl (hb hby d3_37) _ ?_
    show Steps p.tables e below (s₁.setTop (mkF m 40 #[.val (.long q1), .second, .val (.long q2), .second] [(.long (-2147483648 : Int64)), (.long q1)])) _
    refine XS.lcmp X0.here hx rfl (hb hby d3_40) rfl ?_
    show Steps p.tables e below (s₁.setTop (mkF m 41 #[.val (.long q1), .second, .val (.long q2), .second] [(.int (lcmpW q1 (-2147483648 : Int64)))])) _
    refine XS.ifNo X0.here hx rfl (hb hby d3_41) rfl ((if0 _ _).trans (flt hc41).1) ?_
    show Steps p.tables e below (s₁.setTop (mkF m 44 #[.val (.long q1), .second, .val (.long q2), .second] [])) _
    refine XS.lloadN X0.here hx rfl (hb hby d3_44) rfl ?_
    show Steps p.tables e below (s₁.setTop (mkF m 45 #[.val (.long q1), .second, .val (.long q2), .second] [(.long q2)])) _
    refine X0.ldc2Long hx hown (mvT hZ (hw _ (List.mem_of_getElem? (i := 20) rfl))) (g := (mkF m 45 #[.val (.long q1), .second, .val (.long q2), .second] [(.long q2)])) rfl (hb hby d3_45) _ ?_
    show Steps p.tables e below (s₁.setTop (mkF m 48 #[.val (.long q1), .second, .val (.long q2), .second] [(.long (2147483647 : Int64)), (.long q2)])) _
    refine XS.lcmp X0.here hx rfl (hb hby d3_48) rfl ?_
    show Steps p.tables e below (s₁.setTop (mkF m 49 #[.val (.long q1), .second, .val (.long q2), .second] [(.int (lcmpW q2 (2147483647 : Int64)))])) _
    refine XS.ifNo X0.here hx rfl (hb hby d3_49) rfl ((if0 _ _).trans (flt hc49).2.2.1) ?_
    show Steps p.tables e below (s₁.setTop (mkF m 52 #[.val (.long q1), .second, .val (.long q2), .second] [])) _
    refine XS.iconst X0.here hx rfl (hb hby d3_52) ?_
    show Steps p.tables e below (s₁.setTop (mkF m 53 #[.val (.long q1), .second, .val (.long q2), .second] [(.int (4 : Int32))])) _
    refine XS.goto X0.here hx rfl (pc0 := 53) (pc' := 58) rfl (hb hby d3_53) (by decide) (by decide) ?_
    show Steps p.tables e below (s₁.setTop (mkF m 58 #[.val (.long q1), .second, .val (.long q2), .second] [(.int (4 : Int32))])) _
    exact retI X0 hx Bd.returns (hb hby d3_58) hr
  · show QW (4 : Int32) h0 n0 _ s₁.heap _
    rw [e0]
    exact ⟨rfl, N0, rfl⟩


set_option maxRecDepth 65536 in
set_option maxHeartbeats 40000000 in
theorem rm3_ftftt (l : Launch) (Z : State) (a0 : Array Value) (hw : ∀ d ∈ tables_1, d.before a0 Z = true) (ws : List Jvm.Cond) (q1 : Int64) (q2 : Int64) (h0 : Heap) (n0 : Nat) (Z0 : n0 ≤ h0.size) (hc5 : ¬ ((lcmpW q1 (-128 : Int64)) < (0 : Int32))) (hc13 : (0 : Int32) < (lcmpW q2 (127 : Int64))) (hc23 : ¬ ((lcmpW q1 (-32768 : Int64)) < (0 : Int32))) (hc31 : (0 : Int32) < (lcmpW q2 (32767 : Int64))) (hc41 : (lcmpW q1 (-2147483648 : Int64)) < (0 : Int32)) :
    MetFree l (⟨"com/example/ballpark/ballpark/io/StoreFormat", "width", "(JJ)I"⟩ : MethodName) (head1 (Jvm.Cond.code (⟨"com/example/ballpark/ballpark/io/StoreFormat", "width", "(JJ)I"⟩ : MethodName) prog_54_method_3_code 4 (some .int) :: ws) ({ frames := 0, cells := 0, slots := 0, locals := 0 } : Room)) (fun a U => a = #[(.long q1), (.long q2)] ∧ Z.Warmed39 U.vm ∧ U.heap = h0) (fun _ _ _ _ _ => True) (fun _ U o U' => ∃ v L, o = .returned v ∧ QW (8 : Int32) h0 n0 v U'.heap L ∧ FrameEnd U o U' L ({ frames := 0, cells := 0, slots := 0, locals := 0 } : Room).cells ({ frames := 0, cells := 0, slots := 0, locals := 0 } : Room).slots) := by
  refine MetFree.of_bodySF (plainFor_of_name pn_3) hisR ?_
  intro p e s m args below meth c s₁ Bd hml0 hP hK
  obtain ⟨rfl, hZ, hh⟩ := hP
  have hx := Bd.exec
  have hby := Bd.bytes
  have hml : c.maxLocals = 4 := hml0
  have hown : s.vm.findClass "com/example/ballpark/ballpark/io/StoreFormat" = some m.cls := findClass_of_methodNamed Bd.named
  have hnm := (name_of_methodNamed Bd.named Bd.method).1
  have X0 : Stand p l e ({ frames := 0, cells := 0, slots := 0, locals := 0 } : Room) s m #[(.long q1), (.long q2)] below meth c s₁ [] 0 0 := Stand.of_body Bd
  have e0 : s₁.heap = h0 := by rw [← hh, Bd.state]; rfl
  have N0 := Fr.nil n0
  have pre0 : ∀ t, Steps p.tables e below (s₁.setTop (mkF m 0 #[.val (.long q1), .second, .val (.long q2), .second] [])) t → Steps p.tables e below (s₁.setTop (entryFrame m #[(.long q1), (.long q2)] 4)) t := fun t k => castTop (ef_3 m q1 q2) k

  obtain ⟨fs, hr, hrun, hended, hW, hsame⟩ := X0.leave (v := some (.int (8 : Int32))) (fun h => by rw [Bd.returns] at h; cases h)
  refine ⟨_, _, pre0 _ ?_, hrun, hended, _, _, rfl, ?_, ⟨_, rfl⟩, hW, hsame.mono (by decide) (by decide)⟩
  · show Steps p.tables e below (s₁.setTop (mkF m 0 #[.val (.long q1), .second, .val (.long q2), .second] [])) _
    refine XS.lloadN X0.here hx rfl (hb hby d3_0) rfl ?_
    show Steps p.tables e below (s₁.setTop (mkF m 1 #[.val (.long q1), .second, .val (.long q2), .second] [(.long q1)])) _
    refine X0.ldc2Long hx hown (mvT hZ (hw _ (List.mem_of_getElem? (i := 11) rfl))) (g := (mkF m 1 #[.val (.long q1), .second, .val (.long q2), .second] [(.long q1)])) rfl (hb hby d3_1) _ ?_
    show Steps p.tables e below (s₁.setTop (mkF m 4 #[.val (.long q1), .second, .val (.long q2), .second] [(.long (-128 : Int64)), (.long q1)])) _
    refine XS.lcmp X0.here hx rfl (hb hby d3_4) rfl ?_
    show Steps p.tables e below (s₁.setTop (mkF m 5 #[.val (.long q1), .second, .val (.long q2), .second] [(.int (lcmpW q1 (-128 : Int64)))])) _
    refine XS.ifNo X0.here hx rfl (hb hby d3_5) rfl ((if0 _ _).trans (flt hc5).1) ?_
    show Steps p.tables e below (s₁.setTop (mkF m 8 #[.val (.long q1), .second, .val (.long q2), .second] [])) _
    refine XS.lloadN X0.here hx rfl (hb hby d3_8) rfl ?_
    show Steps p.tables e below (s₁.setTop (mkF m 9 #[.val (.long q1), .second, .val (.long q2), .second] [(.long q2)])) _
    refine X0.ldc2Long hx hown (mvT hZ (hw _ (List.mem_of_getElem? (i := 12) rfl))) (g := (mkF m 9 #[.val (.long q1), .second, .val (.long q2), .second] [(.long q2)])) rfl (hb hby d3_9) _ ?_
    show Steps p.tables e below (s₁.setTop (mkF m 12 #[.val (.long q1), .second, .val (.long q2), .second] [(.long (127 : Int64)), (.long q2)])) _
    refine XS.lcmp X0.here hx rfl (hb hby d3_12) rfl ?_
    show Steps p.tables e below (s₁.setTop (mkF m 13 #[.val (.long q1), .second, .val (.long q2), .second] [(.int (lcmpW q2 (127 : Int64)))])) _
    refine XS.ifYes X0.here hx rfl (pc0 := 13) (pc' := 18) rfl (hb hby d3_13) rfl ((if0 _ _).trans (tlt hc13).2.2.1) (by decide) (by decide) ?_
    show Steps p.tables e below (s₁.setTop (mkF m 18 #[.val (.long q1), .second, .val (.long q2), .second] [])) _
    refine XS.lloadN X0.here hx rfl (hb hby d3_18) rfl ?_
    show Steps p.tables e below (s₁.setTop (mkF m 19 #[.val (.long q1), .second, .val (.long q2), .second] [(.long q1)])) _
    refine X0.ldc2Long hx hown (mvT hZ (hw _ (List.mem_of_getElem? (i := 17) rfl))) (g := (mkF m 19 #[.val (.long q1), .second, .val (.long q2), .second] [(.long q1)])) rfl (hb hby d3_19) _ ?_
    show Steps p.tables e below (s₁.setTop (mkF m 22 #[.val (.long q1), .second, .val (.long q2), .second] [(.long (-32768 : Int64)), (.long q1)])) _
    refine XS.lcmp X0.here hx rfl (hb hby d3_22) rfl ?_
    show Steps p.tables e below (s₁.setTop (mkF m 23 #[.val (.long q1), .second, .val (.long q2), .second] [(.int (lcmpW q1 (-32768 : Int64)))])) _
    refine XS.ifNo X0.here hx rfl (hb hby d3_23) rfl ((if0 _ _).trans (flt hc23).1) ?_
    show Steps p.tables e below (s₁.setTop (mkF m 26 #[.val (.long q1), .second, .val (.long q2), .second] [])) _
    refine XS.lloadN X0.here hx rfl (hb hby d3_26) rfl ?_
    show Steps p.tables e below (s₁.setTop (mkF m 27 #[.val (.long q1), .second, .val (.long q2), .second] [(.long q2)])) _
    refine X0.ldc2Long hx hown (mvT hZ (hw _ (List.mem_of_getElem? (i := 18) rfl))) (g := (mkF m 27 #[.val (.long q1), .second, .val (.long q2), .second] [(.long q2)])) rfl (hb hby d3_27) _ ?_
    show Steps p.tables e below (s₁.setTop (mkF m 30 #[.val (.long q1), .second, .val (.long q2), .second] [(.long (32767 : Int64)), (.long q2)])) _
    refine XS.lcmp X0.here hx rfl (hb hby d3_30) rfl ?_
    show Steps p.tables e below (s₁.setTop (mkF m 31 #[.val (.long q1), .second, .val (.long q2), .second] [(.int (lcmpW q2 (32767 : Int64)))])) _
    refine XS.ifYes X0.here hx rfl (pc0 := 31) (pc' := 36) rfl (hb hby d3_31) rfl ((if0 _ _).trans (tlt hc31).2.2.1) (by decide) (by decide) ?_
    show Steps p.tables e below (s₁.setTop (mkF m 36 #[.val (.long q1), .second, .val (.long q2), .second] [])) _
    refine XS.lloadN X0.here hx rfl (hb hby d3_36) rfl ?_
    show Steps p.tables e below (s₁.setTop (mkF m 37 #[.val (.long q1), .second, .val (.long q2), .second] [(.long q1)])) _
    refine X0.ldc2Long hx hown (mvT hZ (hw _ (List.mem_of_getElem? (i := 19) rfl))) (g := (mkF m 37 #[.val (.long q1), .second, .val (.long q2), .second] [(.long q1)])) rfl (hb hby d3_37) _ ?_
    show Steps p.tables e below (s₁.setTop (mkF m 40 #[.val (.long q1), .second, .val (.long q2), .second] [(.long (-2147483648 : Int64)), (.long q1)])) _
    refine XS.lcmp X0.here hx rfl (hb hby d3_40) rfl ?_
    show Steps p.tables e below (s₁.setTop (mkF m 41 #[.val (.long q1), .second, .val (.long q2), .second] [(.int (lcmpW q1 (-2147483648 : Int64)))])) _
    refine XS.ifYes X0.here hx rfl (pc0 := 41) (pc' := 56) rfl (hb hby d3_41) rfl ((if0 _ _).trans (tlt hc41).1) (by decide) (by decide) ?_
    show Steps p.tables e below (s₁.setTop (mkF m 56 #[.val (.long q1), .second, .val (.long q2), .second] [])) _
    refine XS.bipush X0.here hx rfl (hb hby d3_56) ?_
    show Steps p.tables e below (s₁.setTop (mkF m 58 #[.val (.long q1), .second, .val (.long q2), .second] [(.int (8 : Int32))])) _
    exact retI X0 hx Bd.returns (hb hby d3_58) hr
  · show QW (8 : Int32) h0 n0 _ s₁.heap _
    rw [e0]
    exact ⟨rfl, N0, rfl⟩


set_option maxRecDepth 65536 in
set_option maxHeartbeats 40000000 in
theorem rm3_ftftft (l : Launch) (Z : State) (a0 : Array Value) (hw : ∀ d ∈ tables_1, d.before a0 Z = true) (ws : List Jvm.Cond) (q1 : Int64) (q2 : Int64) (h0 : Heap) (n0 : Nat) (Z0 : n0 ≤ h0.size) (hc5 : ¬ ((lcmpW q1 (-128 : Int64)) < (0 : Int32))) (hc13 : (0 : Int32) < (lcmpW q2 (127 : Int64))) (hc23 : ¬ ((lcmpW q1 (-32768 : Int64)) < (0 : Int32))) (hc31 : (0 : Int32) < (lcmpW q2 (32767 : Int64))) (hc41 : ¬ ((lcmpW q1 (-2147483648 : Int64)) < (0 : Int32))) (hc49 : (0 : Int32) < (lcmpW q2 (2147483647 : Int64))) :
    MetFree l (⟨"com/example/ballpark/ballpark/io/StoreFormat", "width", "(JJ)I"⟩ : MethodName) (head1 (Jvm.Cond.code (⟨"com/example/ballpark/ballpark/io/StoreFormat", "width", "(JJ)I"⟩ : MethodName) prog_54_method_3_code 4 (some .int) :: ws) ({ frames := 0, cells := 0, slots := 0, locals := 0 } : Room)) (fun a U => a = #[(.long q1), (.long q2)] ∧ Z.Warmed39 U.vm ∧ U.heap = h0) (fun _ _ _ _ _ => True) (fun _ U o U' => ∃ v L, o = .returned v ∧ QW (8 : Int32) h0 n0 v U'.heap L ∧ FrameEnd U o U' L ({ frames := 0, cells := 0, slots := 0, locals := 0 } : Room).cells ({ frames := 0, cells := 0, slots := 0, locals := 0 } : Room).slots) := by
  refine MetFree.of_bodySF (plainFor_of_name pn_3) hisR ?_
  intro p e s m args below meth c s₁ Bd hml0 hP hK
  obtain ⟨rfl, hZ, hh⟩ := hP
  have hx := Bd.exec
  have hby := Bd.bytes
  have hml : c.maxLocals = 4 := hml0
  have hown : s.vm.findClass "com/example/ballpark/ballpark/io/StoreFormat" = some m.cls := findClass_of_methodNamed Bd.named
  have hnm := (name_of_methodNamed Bd.named Bd.method).1
  have X0 : Stand p l e ({ frames := 0, cells := 0, slots := 0, locals := 0 } : Room) s m #[(.long q1), (.long q2)] below meth c s₁ [] 0 0 := Stand.of_body Bd
  have e0 : s₁.heap = h0 := by rw [← hh, Bd.state]; rfl
  have N0 := Fr.nil n0
  have pre0 : ∀ t, Steps p.tables e below (s₁.setTop (mkF m 0 #[.val (.long q1), .second, .val (.long q2), .second] [])) t → Steps p.tables e below (s₁.setTop (entryFrame m #[(.long q1), (.long q2)] 4)) t := fun t k => castTop (ef_3 m q1 q2) k

  obtain ⟨fs, hr, hrun, hended, hW, hsame⟩ := X0.leave (v := some (.int (8 : Int32))) (fun h => by rw [Bd.returns] at h; cases h)
  refine ⟨_, _, pre0 _ ?_, hrun, hended, _, _, rfl, ?_, ⟨_, rfl⟩, hW, hsame.mono (by decide) (by decide)⟩
  · show Steps p.tables e below (s₁.setTop (mkF m 0 #[.val (.long q1), .second, .val (.long q2), .second] [])) _
    refine XS.lloadN X0.here hx rfl (hb hby d3_0) rfl ?_
    show Steps p.tables e below (s₁.setTop (mkF m 1 #[.val (.long q1), .second, .val (.long q2), .second] [(.long q1)])) _
    refine X0.ldc2Long hx hown (mvT hZ (hw _ (List.mem_of_getElem? (i := 11) rfl))) (g := (mkF m 1 #[.val (.long q1), .second, .val (.long q2), .second] [(.long q1)])) rfl (hb hby d3_1) _ ?_
    show Steps p.tables e below (s₁.setTop (mkF m 4 #[.val (.long q1), .second, .val (.long q2), .second] [(.long (-128 : Int64)), (.long q1)])) _
    refine XS.lcmp X0.here hx rfl (hb hby d3_4) rfl ?_
    show Steps p.tables e below (s₁.setTop (mkF m 5 #[.val (.long q1), .second, .val (.long q2), .second] [(.int (lcmpW q1 (-128 : Int64)))])) _
    refine XS.ifNo X0.here hx rfl (hb hby d3_5) rfl ((if0 _ _).trans (flt hc5).1) ?_
    show Steps p.tables e below (s₁.setTop (mkF m 8 #[.val (.long q1), .second, .val (.long q2), .second] [])) _
    refine XS.lloadN X0.here hx rfl (hb hby d3_8) rfl ?_
    show Steps p.tables e below (s₁.setTop (mkF m 9 #[.val (.long q1), .second, .val (.long q2), .second] [(.long q2)])) _
    refine X0.ldc2Long hx hown (mvT hZ (hw _ (List.mem_of_getElem? (i := 12) rfl))) (g := (mkF m 9 #[.val (.long q1), .second, .val (.long q2), .second] [(.long q2)])) rfl (hb hby d3_9) _ ?_
    show Steps p.tables e below (s₁.setTop (mkF m 12 #[.val (.long q1), .second, .val (.long q2), .second] [(.long (127 : Int64)), (.long q2)])) _
    refine XS.lcmp X0.here hx rfl (hb hby d3_12) rfl ?_
    show Steps p.tables e below (s₁.setTop (mkF m 13 #[.val (.long q1), .second, .val (.long q2), .second] [(.int (lcmpW q2 (127 : Int64)))])) _
    refine XS.ifYes X0.here hx rfl (pc0 := 13) (pc' := 18) rfl (hb hby d3_13) rfl ((if0 _ _).trans (tlt hc13).2.2.1) (by decide) (by decide) ?_
    show Steps p.tables e below (s₁.setTop (mkF m 18 #[.val (.long q1), .second, .val (.long q2), .second] [])) _
    refine XS.lloadN X0.here hx rfl (hb hby d3_18) rfl ?_
    show Steps p.tables e below (s₁.setTop (mkF m 19 #[.val (.long q1), .second, .val (.long q2), .second] [(.long q1)])) _
    refine X0.ldc2Long hx hown (mvT hZ (hw _ (List.mem_of_getElem? (i := 17) rfl))) (g := (mkF m 19 #[.val (.long q1), .second, .val (.long q2), .second] [(.long q1)])) rfl (hb hby d3_19) _ ?_
    show Steps p.tables e below (s₁.setTop (mkF m 22 #[.val (.long q1), .second, .val (.long q2), .second] [(.long (-32768 : Int64)), (.long q1)])) _
    refine XS.lcmp X0.here hx rfl (hb hby d3_22) rfl ?_
    show Steps p.tables e below (s₁.setTop (mkF m 23 #[.val (.long q1), .second, .val (.long q2), .second] [(.int (lcmpW q1 (-32768 : Int64)))])) _
    refine XS.ifNo X0.here hx rfl (hb hby d3_23) rfl ((if0 _ _).trans (flt hc23).1) ?_
    show Steps p.tables e below (s₁.setTop (mkF m 26 #[.val (.long q1), .second, .val (.long q2), .second] [])) _
    refine XS.lloadN X0.here hx rfl (hb hby d3_26) rfl ?_
    show Steps p.tables e below (s₁.setTop (mkF m 27 #[.val (.long q1), .second, .val (.long q2), .second] [(.long q2)])) _
    refine X0.ldc2Long hx hown (mvT hZ (hw _ (List.mem_of_getElem? (i := 18) rfl))) (g := (mkF m 27 #[.val (.long q1), .second, .val (.long q2), .second] [(.long q2)])) rfl (hb hby d3_27) _ ?_
    show Steps p.tables e below (s₁.setTop (mkF m 30 #[.val (.long q1), .second, .val (.long q2), .second] [(.long (32767 : Int64)), (.long q2)])) _
    refine XS.lcmp X0.here hx rfl (hb hby d3_30) rfl ?_
    show Steps p.tables e below (s₁.setTop (mkF m 31 #[.val (.long q1), .second, .val (.long q2), .second] [(.int (lcmpW q2 (32767 : Int64)))])) _
    refine XS.ifYes X0.here hx rfl (pc0 := 31) (pc' := 36) rfl (hb hby d3_31) rfl ((if0 _ _).trans (tlt hc31).2.2.1) (by decide) (by decide) ?_
    show Steps p.tables e below (s₁.setTop (mkF m 36 #[.val (.long q1), .second, .val (.long q2), .second] [])) _
    refine XS.lloadN X0.here hx rfl (hb hby d3_36) rfl ?_
    show Steps p.tables e below (s₁.setTop (mkF m 37 #[.val (.long q1), .second, .val (.long q2), .second] [(.long q1)])) _
    refine X0.ldc2Long hx hown (mvT hZ (hw _ (List.mem_of_getElem? (i := 19) rfl))) (g := (mkF m 37 #[.val (.long q1), .second, .val (.long q2), .second] [(.long q1)])) rfl (hb hby d3_37) _ ?_
    show Steps p.tables e below (s₁.setTop (mkF m 40 #[.val (.long q1), .second, .val (.long q2), .second] [(.long (-2147483648 : Int64)), (.long q1)])) _
    refine XS.lcmp X0.here hx rfl (hb hby d3_40) rfl ?_
    show Steps p.tables e below (s₁.setTop (mkF m 41 #[.val (.long q1), .second, .val (.long q2), .second] [(.int (lcmpW q1 (-2147483648 : Int64)))])) _
    refine XS.ifNo X0.here hx rfl (hb hby d3_41) rfl ((if0 _ _).trans (flt hc41).1) ?_
    show Steps p.tables e below (s₁.setTop (mkF m 44 #[.val (.long q1), .second, .val (.long q2), .second] [])) _
    refine XS.lloadN X0.here hx rfl (hb hby d3_44) rfl ?_
    show Steps p.tables e below (s₁.setTop (mkF m 45 #[.val (.long q1), .second, .val (.long q2), .second] [(.long q2)])) _
    refine X0.ldc2Long hx hown (mvT hZ (hw _ (List.mem_of_getElem? (i := 20) rfl))) (g := (mkF m 45 #[.val (.long q1), .second, .val (.long q2), .second] [(.long q2)])) rfl (hb hby d3_45) _ ?_
    show Steps p.tables e below (s₁.setTop (mkF m 48 #[.val (.long q1), .second, .val (.long q2), .second] [(.long (2147483647 : Int64)), (.long q2)])) _
    refine XS.lcmp X0.here hx rfl (hb hby d3_48) rfl ?_
    show Steps p.tables e below (s₁.setTop (mkF m 49 #[.val (.long q1), .second, .val (.long q2), .second] [(.int (lcmpW q2 (2147483647 : Int64)))])) _
    refine XS.ifYes X0.here hx rfl (pc0 := 49) (pc' := 56) rfl (hb hby d3_49) rfl ((if0 _ _).trans (tlt hc49).2.2.1) (by decide) (by decide) ?_
    show Steps p.tables e below (s₁.setTop (mkF m 56 #[.val (.long q1), .second, .val (.long q2), .second] [])) _
    refine XS.bipush X0.here hx rfl (hb hby d3_56) ?_
    show Steps p.tables e below (s₁.setTop (mkF m 58 #[.val (.long q1), .second, .val (.long q2), .second] [(.int (8 : Int32))])) _
    exact retI X0 hx Bd.returns (hb hby d3_58) hr
  · show QW (8 : Int32) h0 n0 _ s₁.heap _
    rw [e0]
    exact ⟨rfl, N0, rfl⟩

set_option maxRecDepth 65536 in
set_option maxHeartbeats 40000000 in
theorem rm3 (l : Launch) (Z : State) (a0 : Array Value) (hw : ∀ d ∈ tables_1, d.before a0 Z = true) (ws : List Jvm.Cond) (q1 : Int64) (q2 : Int64) (h0 : Heap) (n0 : Nat) (Z0 : n0 ≤ h0.size) :
    MetFree l (⟨"com/example/ballpark/ballpark/io/StoreFormat", "width", "(JJ)I"⟩ : MethodName) (head1 (Jvm.Cond.code (⟨"com/example/ballpark/ballpark/io/StoreFormat", "width", "(JJ)I"⟩ : MethodName) prog_54_method_3_code 4 (some .int) :: ws) ({ frames := 0, cells := 0, slots := 0, locals := 0 } : Room)) (fun a U => a = #[(.long q1), (.long q2)] ∧ Z.Warmed39 U.vm ∧ U.heap = h0) (fun _ _ _ _ _ => True) (fun _ U o U' => ∃ v L, o = .returned v ∧ QW (own_W q1 q2) h0 n0 v U'.heap L ∧ FrameEnd U o U' L ({ frames := 0, cells := 0, slots := 0, locals := 0 } : Room).cells ({ frames := 0, cells := 0, slots := 0, locals := 0 } : Room).slots) := by
  by_cases h5 : lcmpW q1 (-128 : Int64) < (0 : Int32)
  · have e5 := (own_wl0 q1).mp h5
    by_cases h23 : lcmpW q1 (-32768 : Int64) < (0 : Int32)
    · have e23 := (own_wl1 q1).mp h23
      by_cases h41 : lcmpW q1 (-2147483648 : Int64) < (0 : Int32)
      · have e41 := (own_wl2 q1).mp h41
        rw [own_W8 (by omega) (by omega) (by omega)]
        exact rm3_ttt l Z a0 hw ws q1 q2 h0 n0 Z0 h5 h23 h41
      · have e41 := (not_congr (own_wl2 q1)).mp h41
        by_cases h49 : (0 : Int32) < lcmpW q2 (2147483647 : Int64)
        · have e49 := (own_wh2 q2).mp h49
          rw [own_W8 (by omega) (by omega) (by omega)]
          exact rm3_ttft l Z a0 hw ws q1 q2 h0 n0 Z0 h5 h23 h41 h49
        · have e49 := (not_congr (own_wh2 q2)).mp h49
          rw [own_W4 (by omega) (by omega) (by omega)]
          exact rm3_ttff l Z a0 hw ws q1 q2 h0 n0 Z0 h5 h23 h41 h49
    · have e23 := (not_congr (own_wl1 q1)).mp h23
      by_cases h31 : (0 : Int32) < lcmpW q2 (32767 : Int64)
      · have e31 := (own_wh1 q2).mp h31
        by_cases h41 : lcmpW q1 (-2147483648 : Int64) < (0 : Int32)
        · have e41 := (own_wl2 q1).mp h41
          rw [own_W8 (by omega) (by omega) (by omega)]
          exact rm3_tftt l Z a0 hw ws q1 q2 h0 n0 Z0 h5 h23 h31 h41
        · have e41 := (not_congr (own_wl2 q1)).mp h41
          by_cases h49 : (0 : Int32) < lcmpW q2 (2147483647 : Int64)
          · have e49 := (own_wh2 q2).mp h49
            rw [own_W8 (by omega) (by omega) (by omega)]
            exact rm3_tftft l Z a0 hw ws q1 q2 h0 n0 Z0 h5 h23 h31 h41 h49
          · have e49 := (not_congr (own_wh2 q2)).mp h49
            rw [own_W4 (by omega) (by omega) (by omega)]
            exact rm3_tftff l Z a0 hw ws q1 q2 h0 n0 Z0 h5 h23 h31 h41 h49
      · have e31 := (not_congr (own_wh1 q2)).mp h31
        rw [own_W2 (by omega) (by omega)]
        exact rm3_tff l Z a0 hw ws q1 q2 h0 n0 Z0 h5 h23 h31
  · have e5 := (not_congr (own_wl0 q1)).mp h5
    by_cases h13 : (0 : Int32) < lcmpW q2 (127 : Int64)
    · have e13 := (own_wh0 q2).mp h13
      by_cases h23 : lcmpW q1 (-32768 : Int64) < (0 : Int32)
      · have e23 := (own_wl1 q1).mp h23
        by_cases h41 : lcmpW q1 (-2147483648 : Int64) < (0 : Int32)
        · have e41 := (own_wl2 q1).mp h41
          rw [own_W8 (by omega) (by omega) (by omega)]
          exact rm3_fttt l Z a0 hw ws q1 q2 h0 n0 Z0 h5 h13 h23 h41
        · have e41 := (not_congr (own_wl2 q1)).mp h41
          by_cases h49 : (0 : Int32) < lcmpW q2 (2147483647 : Int64)
          · have e49 := (own_wh2 q2).mp h49
            rw [own_W8 (by omega) (by omega) (by omega)]
            exact rm3_fttft l Z a0 hw ws q1 q2 h0 n0 Z0 h5 h13 h23 h41 h49
          · have e49 := (not_congr (own_wh2 q2)).mp h49
            rw [own_W4 (by omega) (by omega) (by omega)]
            exact rm3_fttff l Z a0 hw ws q1 q2 h0 n0 Z0 h5 h13 h23 h41 h49
      · have e23 := (not_congr (own_wl1 q1)).mp h23
        by_cases h31 : (0 : Int32) < lcmpW q2 (32767 : Int64)
        · have e31 := (own_wh1 q2).mp h31
          by_cases h41 : lcmpW q1 (-2147483648 : Int64) < (0 : Int32)
          · have e41 := (own_wl2 q1).mp h41
            rw [own_W8 (by omega) (by omega) (by omega)]
            exact rm3_ftftt l Z a0 hw ws q1 q2 h0 n0 Z0 h5 h13 h23 h31 h41
          · have e41 := (not_congr (own_wl2 q1)).mp h41
            by_cases h49 : (0 : Int32) < lcmpW q2 (2147483647 : Int64)
            · have e49 := (own_wh2 q2).mp h49
              rw [own_W8 (by omega) (by omega) (by omega)]
              exact rm3_ftftft l Z a0 hw ws q1 q2 h0 n0 Z0 h5 h13 h23 h31 h41 h49
            · have e49 := (not_congr (own_wh2 q2)).mp h49
              rw [own_W4 (by omega) (by omega) (by omega)]
              exact rm3_ftftff l Z a0 hw ws q1 q2 h0 n0 Z0 h5 h13 h23 h31 h41 h49
        · have e31 := (not_congr (own_wh1 q2)).mp h31
          rw [own_W2 (by omega) (by omega)]
          exact rm3_ftff l Z a0 hw ws q1 q2 h0 n0 Z0 h5 h13 h23 h31
    · have e13 := (not_congr (own_wh0 q2)).mp h13
      rw [own_W1 (by omega)]
      exact rm3_ff l Z a0 hw ws q1 q2 h0 n0 Z0 h5 h13
theorem d4_0 : decode method_2_code 0 = .ok (.lload_n 0, 1) := by decide +kernel
theorem d4_1 : decode method_2_code 1 = .ok (.l2i, 1) := by decide +kernel
theorem d4_2 : decode method_2_code 2 = .ok (.i2b, 1) := by decide +kernel
theorem d4_3 : decode method_2_code 3 = .ok (.i2l, 1) := by decide +kernel
theorem d4_4 : decode method_2_code 4 = .ok (.lload_n 0, 1) := by decide +kernel
theorem d4_5 : decode method_2_code 5 = .ok (.lcmp, 1) := by decide +kernel
theorem d4_6 : decode method_2_code 6 = .ok (.ifCond .ne 14, 3) := by decide +kernel
theorem d4_9 : decode method_2_code 9 = .ok (.lload_n 2, 1) := by decide +kernel
theorem d4_10 : decode method_2_code 10 = .ok (.l2i, 1) := by decide +kernel
theorem d4_11 : decode method_2_code 11 = .ok (.i2b, 1) := by decide +kernel
theorem d4_12 : decode method_2_code 12 = .ok (.i2l, 1) := by decide +kernel
theorem d4_13 : decode method_2_code 13 = .ok (.lload_n 2, 1) := by decide +kernel
theorem d4_14 : decode method_2_code 14 = .ok (.lcmp, 1) := by decide +kernel
theorem d4_15 : decode method_2_code 15 = .ok (.ifCond .ne 5, 3) := by decide +kernel
theorem d4_18 : decode method_2_code 18 = .ok (.iconst 1, 1) := by decide +kernel
theorem d4_19 : decode method_2_code 19 = .ok (.ireturn, 1) := by decide +kernel
theorem pn_4 : plainName "com/example/ballpark/ballpark/io/StoreFormatWidthPinLaw" = true := by first | (simp [plainName, overriddenIn]; done) | decide +kernel
theorem ef_4 (m : MethodId) (x0 : Int64) (x1 : Int64) : entryFrame m #[(.long x0), (.long x1)] 4 = mkF m 0 #[.val (.long x0), .second, .val (.long x1), .second] [] := by first | (simp [entryFrame, mkF, argsToLocals, Value.category]; done) | rfl

set_option maxRecDepth 65536 in
set_option maxHeartbeats 40000000 in
theorem rm4_ff (l : Launch) (Z : State) (a0 : Array Value) (hw : ∀ d ∈ tables_1, d.before a0 Z = true) (ws : List Jvm.Cond) (q1 : Int64) (q2 : Int64) (h0 : Heap) (n0 : Nat) (Z0 : n0 ≤ h0.size) (hc6 : (lcmpW (((q1.toInt32).toInt8.toInt32).toInt64) q1) = (0 : Int32)) (hc15 : (lcmpW (((q2.toInt32).toInt8.toInt32).toInt64) q2) = (0 : Int32)) :
    MetFree l (⟨"com/example/ballpark/ballpark/io/StoreFormatWidthPinLaw", "reference", "(JJ)I"⟩ : MethodName) (head1 (Jvm.Cond.code (⟨"com/example/ballpark/ballpark/io/StoreFormatWidthPinLaw", "reference", "(JJ)I"⟩ : MethodName) method_2_code 4 (some .int) :: ws) ({ frames := 0, cells := 0, slots := 0, locals := 0 } : Room)) (fun a U => a = #[(.long q1), (.long q2)] ∧ Z.Warmed39 U.vm ∧ U.heap = h0) (fun _ _ _ _ _ => True) (fun _ U o U' => ∃ v L, o = .returned v ∧ QW (1 : Int32) h0 n0 v U'.heap L ∧ FrameEnd U o U' L ({ frames := 0, cells := 0, slots := 0, locals := 0 } : Room).cells ({ frames := 0, cells := 0, slots := 0, locals := 0 } : Room).slots) := by
  refine MetFree.of_bodySF (plainFor_of_name pn_4) hisR ?_
  intro p e s m args below meth c s₁ Bd hml0 hP hK
  obtain ⟨rfl, hZ, hh⟩ := hP
  have hx := Bd.exec
  have hby := Bd.bytes
  have hml : c.maxLocals = 4 := hml0
  have hown : s.vm.findClass "com/example/ballpark/ballpark/io/StoreFormatWidthPinLaw" = some m.cls := findClass_of_methodNamed Bd.named
  have hnm := (name_of_methodNamed Bd.named Bd.method).1
  have X0 : Stand p l e ({ frames := 0, cells := 0, slots := 0, locals := 0 } : Room) s m #[(.long q1), (.long q2)] below meth c s₁ [] 0 0 := Stand.of_body Bd
  have e0 : s₁.heap = h0 := by rw [← hh, Bd.state]; rfl
  have N0 := Fr.nil n0
  have pre0 : ∀ t, Steps p.tables e below (s₁.setTop (mkF m 0 #[.val (.long q1), .second, .val (.long q2), .second] [])) t → Steps p.tables e below (s₁.setTop (entryFrame m #[(.long q1), (.long q2)] 4)) t := fun t k => castTop (ef_4 m q1 q2) k

  obtain ⟨fs, hr, hrun, hended, hW, hsame⟩ := X0.leave (v := some (.int (1 : Int32))) (fun h => by rw [Bd.returns] at h; cases h)
  refine ⟨_, _, pre0 _ ?_, hrun, hended, _, _, rfl, ?_, ⟨_, rfl⟩, hW, hsame.mono (by decide) (by decide)⟩
  · show Steps p.tables e below (s₁.setTop (mkF m 0 #[.val (.long q1), .second, .val (.long q2), .second] [])) _
    refine XS.lloadN X0.here hx rfl (hb hby d4_0) rfl ?_
    show Steps p.tables e below (s₁.setTop (mkF m 1 #[.val (.long q1), .second, .val (.long q2), .second] [(.long q1)])) _
    refine XS.l2i X0.here hx rfl (hb hby d4_1) rfl ?_
    show Steps p.tables e below (s₁.setTop (mkF m 2 #[.val (.long q1), .second, .val (.long q2), .second] [(.int (q1.toInt32))])) _
    refine XS.i2b X0.here hx rfl (hb hby d4_2) rfl ?_
    show Steps p.tables e below (s₁.setTop (mkF m 3 #[.val (.long q1), .second, .val (.long q2), .second] [(.int ((q1.toInt32).toInt8.toInt32))])) _
    refine XS.i2l X0.here hx rfl (hb hby d4_3) rfl ?_
    show Steps p.tables e below (s₁.setTop (mkF m 4 #[.val (.long q1), .second, .val (.long q2), .second] [(.long (((q1.toInt32).toInt8.toInt32).toInt64))])) _
    refine XS.lloadN X0.here hx rfl (hb hby d4_4) rfl ?_
    show Steps p.tables e below (s₁.setTop (mkF m 5 #[.val (.long q1), .second, .val (.long q2), .second] [(.long q1), (.long (((q1.toInt32).toInt8.toInt32).toInt64))])) _
    refine XS.lcmp X0.here hx rfl (hb hby d4_5) rfl ?_
    show Steps p.tables e below (s₁.setTop (mkF m 6 #[.val (.long q1), .second, .val (.long q2), .second] [(.int (lcmpW (((q1.toInt32).toInt8.toInt32).toInt64) q1))])) _
    refine XS.ifNo X0.here hx rfl (hb hby d4_6) rfl ((if0 _ _).trans (teq hc6).2) ?_
    show Steps p.tables e below (s₁.setTop (mkF m 9 #[.val (.long q1), .second, .val (.long q2), .second] [])) _
    refine XS.lloadN X0.here hx rfl (hb hby d4_9) rfl ?_
    show Steps p.tables e below (s₁.setTop (mkF m 10 #[.val (.long q1), .second, .val (.long q2), .second] [(.long q2)])) _
    refine XS.l2i X0.here hx rfl (hb hby d4_10) rfl ?_
    show Steps p.tables e below (s₁.setTop (mkF m 11 #[.val (.long q1), .second, .val (.long q2), .second] [(.int (q2.toInt32))])) _
    refine XS.i2b X0.here hx rfl (hb hby d4_11) rfl ?_
    show Steps p.tables e below (s₁.setTop (mkF m 12 #[.val (.long q1), .second, .val (.long q2), .second] [(.int ((q2.toInt32).toInt8.toInt32))])) _
    refine XS.i2l X0.here hx rfl (hb hby d4_12) rfl ?_
    show Steps p.tables e below (s₁.setTop (mkF m 13 #[.val (.long q1), .second, .val (.long q2), .second] [(.long (((q2.toInt32).toInt8.toInt32).toInt64))])) _
    refine XS.lloadN X0.here hx rfl (hb hby d4_13) rfl ?_
    show Steps p.tables e below (s₁.setTop (mkF m 14 #[.val (.long q1), .second, .val (.long q2), .second] [(.long q2), (.long (((q2.toInt32).toInt8.toInt32).toInt64))])) _
    refine XS.lcmp X0.here hx rfl (hb hby d4_14) rfl ?_
    show Steps p.tables e below (s₁.setTop (mkF m 15 #[.val (.long q1), .second, .val (.long q2), .second] [(.int (lcmpW (((q2.toInt32).toInt8.toInt32).toInt64) q2))])) _
    refine XS.ifNo X0.here hx rfl (hb hby d4_15) rfl ((if0 _ _).trans (teq hc15).2) ?_
    show Steps p.tables e below (s₁.setTop (mkF m 18 #[.val (.long q1), .second, .val (.long q2), .second] [])) _
    refine XS.iconst X0.here hx rfl (hb hby d4_18) ?_
    show Steps p.tables e below (s₁.setTop (mkF m 19 #[.val (.long q1), .second, .val (.long q2), .second] [(.int (1 : Int32))])) _
    exact retI X0 hx Bd.returns (hb hby d4_19) hr
  · show QW (1 : Int32) h0 n0 _ s₁.heap _
    rw [e0]
    exact ⟨rfl, N0, rfl⟩

theorem d4_20 : decode method_2_code 20 = .ok (.lload_n 0, 1) := by decide +kernel
theorem d4_21 : decode method_2_code 21 = .ok (.l2i, 1) := by decide +kernel
theorem d4_22 : decode method_2_code 22 = .ok (.i2s, 1) := by decide +kernel
theorem d4_23 : decode method_2_code 23 = .ok (.i2l, 1) := by decide +kernel
theorem d4_24 : decode method_2_code 24 = .ok (.lload_n 0, 1) := by decide +kernel
theorem d4_25 : decode method_2_code 25 = .ok (.lcmp, 1) := by decide +kernel
theorem d4_26 : decode method_2_code 26 = .ok (.ifCond .ne 14, 3) := by decide +kernel
theorem d4_29 : decode method_2_code 29 = .ok (.lload_n 2, 1) := by decide +kernel
theorem d4_30 : decode method_2_code 30 = .ok (.l2i, 1) := by decide +kernel
theorem d4_31 : decode method_2_code 31 = .ok (.i2s, 1) := by decide +kernel
theorem d4_32 : decode method_2_code 32 = .ok (.i2l, 1) := by decide +kernel
theorem d4_33 : decode method_2_code 33 = .ok (.lload_n 2, 1) := by decide +kernel
theorem d4_34 : decode method_2_code 34 = .ok (.lcmp, 1) := by decide +kernel
theorem d4_35 : decode method_2_code 35 = .ok (.ifCond .ne 5, 3) := by decide +kernel
theorem d4_38 : decode method_2_code 38 = .ok (.iconst 2, 1) := by decide +kernel
theorem d4_39 : decode method_2_code 39 = .ok (.ireturn, 1) := by decide +kernel

set_option maxRecDepth 65536 in
set_option maxHeartbeats 40000000 in
theorem rm4_tff (l : Launch) (Z : State) (a0 : Array Value) (hw : ∀ d ∈ tables_1, d.before a0 Z = true) (ws : List Jvm.Cond) (q1 : Int64) (q2 : Int64) (h0 : Heap) (n0 : Nat) (Z0 : n0 ≤ h0.size) (hc6 : ¬ ((lcmpW (((q1.toInt32).toInt8.toInt32).toInt64) q1) = (0 : Int32))) (hc26 : (lcmpW (((q1.toInt32).toInt16.toInt32).toInt64) q1) = (0 : Int32)) (hc35 : (lcmpW (((q2.toInt32).toInt16.toInt32).toInt64) q2) = (0 : Int32)) :
    MetFree l (⟨"com/example/ballpark/ballpark/io/StoreFormatWidthPinLaw", "reference", "(JJ)I"⟩ : MethodName) (head1 (Jvm.Cond.code (⟨"com/example/ballpark/ballpark/io/StoreFormatWidthPinLaw", "reference", "(JJ)I"⟩ : MethodName) method_2_code 4 (some .int) :: ws) ({ frames := 0, cells := 0, slots := 0, locals := 0 } : Room)) (fun a U => a = #[(.long q1), (.long q2)] ∧ Z.Warmed39 U.vm ∧ U.heap = h0) (fun _ _ _ _ _ => True) (fun _ U o U' => ∃ v L, o = .returned v ∧ QW (2 : Int32) h0 n0 v U'.heap L ∧ FrameEnd U o U' L ({ frames := 0, cells := 0, slots := 0, locals := 0 } : Room).cells ({ frames := 0, cells := 0, slots := 0, locals := 0 } : Room).slots) := by
  refine MetFree.of_bodySF (plainFor_of_name pn_4) hisR ?_
  intro p e s m args below meth c s₁ Bd hml0 hP hK
  obtain ⟨rfl, hZ, hh⟩ := hP
  have hx := Bd.exec
  have hby := Bd.bytes
  have hml : c.maxLocals = 4 := hml0
  have hown : s.vm.findClass "com/example/ballpark/ballpark/io/StoreFormatWidthPinLaw" = some m.cls := findClass_of_methodNamed Bd.named
  have hnm := (name_of_methodNamed Bd.named Bd.method).1
  have X0 : Stand p l e ({ frames := 0, cells := 0, slots := 0, locals := 0 } : Room) s m #[(.long q1), (.long q2)] below meth c s₁ [] 0 0 := Stand.of_body Bd
  have e0 : s₁.heap = h0 := by rw [← hh, Bd.state]; rfl
  have N0 := Fr.nil n0
  have pre0 : ∀ t, Steps p.tables e below (s₁.setTop (mkF m 0 #[.val (.long q1), .second, .val (.long q2), .second] [])) t → Steps p.tables e below (s₁.setTop (entryFrame m #[(.long q1), (.long q2)] 4)) t := fun t k => castTop (ef_4 m q1 q2) k

  obtain ⟨fs, hr, hrun, hended, hW, hsame⟩ := X0.leave (v := some (.int (2 : Int32))) (fun h => by rw [Bd.returns] at h; cases h)
  refine ⟨_, _, pre0 _ ?_, hrun, hended, _, _, rfl, ?_, ⟨_, rfl⟩, hW, hsame.mono (by decide) (by decide)⟩
  · show Steps p.tables e below (s₁.setTop (mkF m 0 #[.val (.long q1), .second, .val (.long q2), .second] [])) _
    refine XS.lloadN X0.here hx rfl (hb hby d4_0) rfl ?_
    show Steps p.tables e below (s₁.setTop (mkF m 1 #[.val (.long q1), .second, .val (.long q2), .second] [(.long q1)])) _
    refine XS.l2i X0.here hx rfl (hb hby d4_1) rfl ?_
    show Steps p.tables e below (s₁.setTop (mkF m 2 #[.val (.long q1), .second, .val (.long q2), .second] [(.int (q1.toInt32))])) _
    refine XS.i2b X0.here hx rfl (hb hby d4_2) rfl ?_
    show Steps p.tables e below (s₁.setTop (mkF m 3 #[.val (.long q1), .second, .val (.long q2), .second] [(.int ((q1.toInt32).toInt8.toInt32))])) _
    refine XS.i2l X0.here hx rfl (hb hby d4_3) rfl ?_
    show Steps p.tables e below (s₁.setTop (mkF m 4 #[.val (.long q1), .second, .val (.long q2), .second] [(.long (((q1.toInt32).toInt8.toInt32).toInt64))])) _
    refine XS.lloadN X0.here hx rfl (hb hby d4_4) rfl ?_
    show Steps p.tables e below (s₁.setTop (mkF m 5 #[.val (.long q1), .second, .val (.long q2), .second] [(.long q1), (.long (((q1.toInt32).toInt8.toInt32).toInt64))])) _
    refine XS.lcmp X0.here hx rfl (hb hby d4_5) rfl ?_
    show Steps p.tables e below (s₁.setTop (mkF m 6 #[.val (.long q1), .second, .val (.long q2), .second] [(.int (lcmpW (((q1.toInt32).toInt8.toInt32).toInt64) q1))])) _
    refine XS.ifYes X0.here hx rfl (pc0 := 6) (pc' := 20) rfl (hb hby d4_6) rfl ((if0 _ _).trans (feq hc6).2) (by decide) (by decide) ?_
    show Steps p.tables e below (s₁.setTop (mkF m 20 #[.val (.long q1), .second, .val (.long q2), .second] [])) _
    refine XS.lloadN X0.here hx rfl (hb hby d4_20) rfl ?_
    show Steps p.tables e below (s₁.setTop (mkF m 21 #[.val (.long q1), .second, .val (.long q2), .second] [(.long q1)])) _
    refine XS.l2i X0.here hx rfl (hb hby d4_21) rfl ?_
    show Steps p.tables e below (s₁.setTop (mkF m 22 #[.val (.long q1), .second, .val (.long q2), .second] [(.int (q1.toInt32))])) _
    refine XS.i2s X0.here hx rfl (hb hby d4_22) rfl ?_
    show Steps p.tables e below (s₁.setTop (mkF m 23 #[.val (.long q1), .second, .val (.long q2), .second] [(.int ((q1.toInt32).toInt16.toInt32))])) _
    refine XS.i2l X0.here hx rfl (hb hby d4_23) rfl ?_
    show Steps p.tables e below (s₁.setTop (mkF m 24 #[.val (.long q1), .second, .val (.long q2), .second] [(.long (((q1.toInt32).toInt16.toInt32).toInt64))])) _
    refine XS.lloadN X0.here hx rfl (hb hby d4_24) rfl ?_
    show Steps p.tables e below (s₁.setTop (mkF m 25 #[.val (.long q1), .second, .val (.long q2), .second] [(.long q1), (.long (((q1.toInt32).toInt16.toInt32).toInt64))])) _
    refine XS.lcmp X0.here hx rfl (hb hby d4_25) rfl ?_
    show Steps p.tables e below (s₁.setTop (mkF m 26 #[.val (.long q1), .second, .val (.long q2), .second] [(.int (lcmpW (((q1.toInt32).toInt16.toInt32).toInt64) q1))])) _
    refine XS.ifNo X0.here hx rfl (hb hby d4_26) rfl ((if0 _ _).trans (teq hc26).2) ?_
    show Steps p.tables e below (s₁.setTop (mkF m 29 #[.val (.long q1), .second, .val (.long q2), .second] [])) _
    refine XS.lloadN X0.here hx rfl (hb hby d4_29) rfl ?_
    show Steps p.tables e below (s₁.setTop (mkF m 30 #[.val (.long q1), .second, .val (.long q2), .second] [(.long q2)])) _
    refine XS.l2i X0.here hx rfl (hb hby d4_30) rfl ?_
    show Steps p.tables e below (s₁.setTop (mkF m 31 #[.val (.long q1), .second, .val (.long q2), .second] [(.int (q2.toInt32))])) _
    refine XS.i2s X0.here hx rfl (hb hby d4_31) rfl ?_
    show Steps p.tables e below (s₁.setTop (mkF m 32 #[.val (.long q1), .second, .val (.long q2), .second] [(.int ((q2.toInt32).toInt16.toInt32))])) _
    refine XS.i2l X0.here hx rfl (hb hby d4_32) rfl ?_
    show Steps p.tables e below (s₁.setTop (mkF m 33 #[.val (.long q1), .second, .val (.long q2), .second] [(.long (((q2.toInt32).toInt16.toInt32).toInt64))])) _
    refine XS.lloadN X0.here hx rfl (hb hby d4_33) rfl ?_
    show Steps p.tables e below (s₁.setTop (mkF m 34 #[.val (.long q1), .second, .val (.long q2), .second] [(.long q2), (.long (((q2.toInt32).toInt16.toInt32).toInt64))])) _
    refine XS.lcmp X0.here hx rfl (hb hby d4_34) rfl ?_
    show Steps p.tables e below (s₁.setTop (mkF m 35 #[.val (.long q1), .second, .val (.long q2), .second] [(.int (lcmpW (((q2.toInt32).toInt16.toInt32).toInt64) q2))])) _
    refine XS.ifNo X0.here hx rfl (hb hby d4_35) rfl ((if0 _ _).trans (teq hc35).2) ?_
    show Steps p.tables e below (s₁.setTop (mkF m 38 #[.val (.long q1), .second, .val (.long q2), .second] [])) _
    refine XS.iconst X0.here hx rfl (hb hby d4_38) ?_
    show Steps p.tables e below (s₁.setTop (mkF m 39 #[.val (.long q1), .second, .val (.long q2), .second] [(.int (2 : Int32))])) _
    exact retI X0 hx Bd.returns (hb hby d4_39) hr
  · show QW (2 : Int32) h0 n0 _ s₁.heap _
    rw [e0]
    exact ⟨rfl, N0, rfl⟩

theorem d4_40 : decode method_2_code 40 = .ok (.lload_n 0, 1) := by decide +kernel
theorem d4_41 : decode method_2_code 41 = .ok (.l2i, 1) := by decide +kernel
theorem d4_42 : decode method_2_code 42 = .ok (.i2l, 1) := by decide +kernel
theorem d4_43 : decode method_2_code 43 = .ok (.lload_n 0, 1) := by decide +kernel
theorem d4_44 : decode method_2_code 44 = .ok (.lcmp, 1) := by decide +kernel
theorem d4_45 : decode method_2_code 45 = .ok (.ifCond .ne 13, 3) := by decide +kernel
theorem d4_48 : decode method_2_code 48 = .ok (.lload_n 2, 1) := by decide +kernel
theorem d4_49 : decode method_2_code 49 = .ok (.l2i, 1) := by decide +kernel
theorem d4_50 : decode method_2_code 50 = .ok (.i2l, 1) := by decide +kernel
theorem d4_51 : decode method_2_code 51 = .ok (.lload_n 2, 1) := by decide +kernel
theorem d4_52 : decode method_2_code 52 = .ok (.lcmp, 1) := by decide +kernel
theorem d4_53 : decode method_2_code 53 = .ok (.ifCond .ne 5, 3) := by decide +kernel
theorem d4_56 : decode method_2_code 56 = .ok (.iconst 4, 1) := by decide +kernel
theorem d4_57 : decode method_2_code 57 = .ok (.ireturn, 1) := by decide +kernel

set_option maxRecDepth 65536 in
set_option maxHeartbeats 40000000 in
theorem rm4_ttff (l : Launch) (Z : State) (a0 : Array Value) (hw : ∀ d ∈ tables_1, d.before a0 Z = true) (ws : List Jvm.Cond) (q1 : Int64) (q2 : Int64) (h0 : Heap) (n0 : Nat) (Z0 : n0 ≤ h0.size) (hc6 : ¬ ((lcmpW (((q1.toInt32).toInt8.toInt32).toInt64) q1) = (0 : Int32))) (hc26 : ¬ ((lcmpW (((q1.toInt32).toInt16.toInt32).toInt64) q1) = (0 : Int32))) (hc45 : (lcmpW ((q1.toInt32).toInt64) q1) = (0 : Int32)) (hc53 : (lcmpW ((q2.toInt32).toInt64) q2) = (0 : Int32)) :
    MetFree l (⟨"com/example/ballpark/ballpark/io/StoreFormatWidthPinLaw", "reference", "(JJ)I"⟩ : MethodName) (head1 (Jvm.Cond.code (⟨"com/example/ballpark/ballpark/io/StoreFormatWidthPinLaw", "reference", "(JJ)I"⟩ : MethodName) method_2_code 4 (some .int) :: ws) ({ frames := 0, cells := 0, slots := 0, locals := 0 } : Room)) (fun a U => a = #[(.long q1), (.long q2)] ∧ Z.Warmed39 U.vm ∧ U.heap = h0) (fun _ _ _ _ _ => True) (fun _ U o U' => ∃ v L, o = .returned v ∧ QW (4 : Int32) h0 n0 v U'.heap L ∧ FrameEnd U o U' L ({ frames := 0, cells := 0, slots := 0, locals := 0 } : Room).cells ({ frames := 0, cells := 0, slots := 0, locals := 0 } : Room).slots) := by
  refine MetFree.of_bodySF (plainFor_of_name pn_4) hisR ?_
  intro p e s m args below meth c s₁ Bd hml0 hP hK
  obtain ⟨rfl, hZ, hh⟩ := hP
  have hx := Bd.exec
  have hby := Bd.bytes
  have hml : c.maxLocals = 4 := hml0
  have hown : s.vm.findClass "com/example/ballpark/ballpark/io/StoreFormatWidthPinLaw" = some m.cls := findClass_of_methodNamed Bd.named
  have hnm := (name_of_methodNamed Bd.named Bd.method).1
  have X0 : Stand p l e ({ frames := 0, cells := 0, slots := 0, locals := 0 } : Room) s m #[(.long q1), (.long q2)] below meth c s₁ [] 0 0 := Stand.of_body Bd
  have e0 : s₁.heap = h0 := by rw [← hh, Bd.state]; rfl
  have N0 := Fr.nil n0
  have pre0 : ∀ t, Steps p.tables e below (s₁.setTop (mkF m 0 #[.val (.long q1), .second, .val (.long q2), .second] [])) t → Steps p.tables e below (s₁.setTop (entryFrame m #[(.long q1), (.long q2)] 4)) t := fun t k => castTop (ef_4 m q1 q2) k

  obtain ⟨fs, hr, hrun, hended, hW, hsame⟩ := X0.leave (v := some (.int (4 : Int32))) (fun h => by rw [Bd.returns] at h; cases h)
  refine ⟨_, _, pre0 _ ?_, hrun, hended, _, _, rfl, ?_, ⟨_, rfl⟩, hW, hsame.mono (by decide) (by decide)⟩
  · show Steps p.tables e below (s₁.setTop (mkF m 0 #[.val (.long q1), .second, .val (.long q2), .second] [])) _
    refine XS.lloadN X0.here hx rfl (hb hby d4_0) rfl ?_
    show Steps p.tables e below (s₁.setTop (mkF m 1 #[.val (.long q1), .second, .val (.long q2), .second] [(.long q1)])) _
    refine XS.l2i X0.here hx rfl (hb hby d4_1) rfl ?_
    show Steps p.tables e below (s₁.setTop (mkF m 2 #[.val (.long q1), .second, .val (.long q2), .second] [(.int (q1.toInt32))])) _
    refine XS.i2b X0.here hx rfl (hb hby d4_2) rfl ?_
    show Steps p.tables e below (s₁.setTop (mkF m 3 #[.val (.long q1), .second, .val (.long q2), .second] [(.int ((q1.toInt32).toInt8.toInt32))])) _
    refine XS.i2l X0.here hx rfl (hb hby d4_3) rfl ?_
    show Steps p.tables e below (s₁.setTop (mkF m 4 #[.val (.long q1), .second, .val (.long q2), .second] [(.long (((q1.toInt32).toInt8.toInt32).toInt64))])) _
    refine XS.lloadN X0.here hx rfl (hb hby d4_4) rfl ?_
    show Steps p.tables e below (s₁.setTop (mkF m 5 #[.val (.long q1), .second, .val (.long q2), .second] [(.long q1), (.long (((q1.toInt32).toInt8.toInt32).toInt64))])) _
    refine XS.lcmp X0.here hx rfl (hb hby d4_5) rfl ?_
    show Steps p.tables e below (s₁.setTop (mkF m 6 #[.val (.long q1), .second, .val (.long q2), .second] [(.int (lcmpW (((q1.toInt32).toInt8.toInt32).toInt64) q1))])) _
    refine XS.ifYes X0.here hx rfl (pc0 := 6) (pc' := 20) rfl (hb hby d4_6) rfl ((if0 _ _).trans (feq hc6).2) (by decide) (by decide) ?_
    show Steps p.tables e below (s₁.setTop (mkF m 20 #[.val (.long q1), .second, .val (.long q2), .second] [])) _
    refine XS.lloadN X0.here hx rfl (hb hby d4_20) rfl ?_
    show Steps p.tables e below (s₁.setTop (mkF m 21 #[.val (.long q1), .second, .val (.long q2), .second] [(.long q1)])) _
    refine XS.l2i X0.here hx rfl (hb hby d4_21) rfl ?_
    show Steps p.tables e below (s₁.setTop (mkF m 22 #[.val (.long q1), .second, .val (.long q2), .second] [(.int (q1.toInt32))])) _
    refine XS.i2s X0.here hx rfl (hb hby d4_22) rfl ?_
    show Steps p.tables e below (s₁.setTop (mkF m 23 #[.val (.long q1), .second, .val (.long q2), .second] [(.int ((q1.toInt32).toInt16.toInt32))])) _
    refine XS.i2l X0.here hx rfl (hb hby d4_23) rfl ?_
    show Steps p.tables e below (s₁.setTop (mkF m 24 #[.val (.long q1), .second, .val (.long q2), .second] [(.long (((q1.toInt32).toInt16.toInt32).toInt64))])) _
    refine XS.lloadN X0.here hx rfl (hb hby d4_24) rfl ?_
    show Steps p.tables e below (s₁.setTop (mkF m 25 #[.val (.long q1), .second, .val (.long q2), .second] [(.long q1), (.long (((q1.toInt32).toInt16.toInt32).toInt64))])) _
    refine XS.lcmp X0.here hx rfl (hb hby d4_25) rfl ?_
    show Steps p.tables e below (s₁.setTop (mkF m 26 #[.val (.long q1), .second, .val (.long q2), .second] [(.int (lcmpW (((q1.toInt32).toInt16.toInt32).toInt64) q1))])) _
    refine XS.ifYes X0.here hx rfl (pc0 := 26) (pc' := 40) rfl (hb hby d4_26) rfl ((if0 _ _).trans (feq hc26).2) (by decide) (by decide) ?_
    show Steps p.tables e below (s₁.setTop (mkF m 40 #[.val (.long q1), .second, .val (.long q2), .second] [])) _
    refine XS.lloadN X0.here hx rfl (hb hby d4_40) rfl ?_
    show Steps p.tables e below (s₁.setTop (mkF m 41 #[.val (.long q1), .second, .val (.long q2), .second] [(.long q1)])) _
    refine XS.l2i X0.here hx rfl (hb hby d4_41) rfl ?_
    show Steps p.tables e below (s₁.setTop (mkF m 42 #[.val (.long q1), .second, .val (.long q2), .second] [(.int (q1.toInt32))])) _
    refine XS.i2l X0.here hx rfl (hb hby d4_42) rfl ?_
    show Steps p.tables e below (s₁.setTop (mkF m 43 #[.val (.long q1), .second, .val (.long q2), .second] [(.long ((q1.toInt32).toInt64))])) _
    refine XS.lloadN X0.here hx rfl (hb hby d4_43) rfl ?_
    show Steps p.tables e below (s₁.setTop (mkF m 44 #[.val (.long q1), .second, .val (.long q2), .second] [(.long q1), (.long ((q1.toInt32).toInt64))])) _
    refine XS.lcmp X0.here hx rfl (hb hby d4_44) rfl ?_
    show Steps p.tables e below (s₁.setTop (mkF m 45 #[.val (.long q1), .second, .val (.long q2), .second] [(.int (lcmpW ((q1.toInt32).toInt64) q1))])) _
    refine XS.ifNo X0.here hx rfl (hb hby d4_45) rfl ((if0 _ _).trans (teq hc45).2) ?_
    show Steps p.tables e below (s₁.setTop (mkF m 48 #[.val (.long q1), .second, .val (.long q2), .second] [])) _
    refine XS.lloadN X0.here hx rfl (hb hby d4_48) rfl ?_
    show Steps p.tables e below (s₁.setTop (mkF m 49 #[.val (.long q1), .second, .val (.long q2), .second] [(.long q2)])) _
    refine XS.l2i X0.here hx rfl (hb hby d4_49) rfl ?_
    show Steps p.tables e below (s₁.setTop (mkF m 50 #[.val (.long q1), .second, .val (.long q2), .second] [(.int (q2.toInt32))])) _
    refine XS.i2l X0.here hx rfl (hb hby d4_50) rfl ?_
    show Steps p.tables e below (s₁.setTop (mkF m 51 #[.val (.long q1), .second, .val (.long q2), .second] [(.long ((q2.toInt32).toInt64))])) _
    refine XS.lloadN X0.here hx rfl (hb hby d4_51) rfl ?_
    show Steps p.tables e below (s₁.setTop (mkF m 52 #[.val (.long q1), .second, .val (.long q2), .second] [(.long q2), (.long ((q2.toInt32).toInt64))])) _
    refine XS.lcmp X0.here hx rfl (hb hby d4_52) rfl ?_
    show Steps p.tables e below (s₁.setTop (mkF m 53 #[.val (.long q1), .second, .val (.long q2), .second] [(.int (lcmpW ((q2.toInt32).toInt64) q2))])) _
    refine XS.ifNo X0.here hx rfl (hb hby d4_53) rfl ((if0 _ _).trans (teq hc53).2) ?_
    show Steps p.tables e below (s₁.setTop (mkF m 56 #[.val (.long q1), .second, .val (.long q2), .second] [])) _
    refine XS.iconst X0.here hx rfl (hb hby d4_56) ?_
    show Steps p.tables e below (s₁.setTop (mkF m 57 #[.val (.long q1), .second, .val (.long q2), .second] [(.int (4 : Int32))])) _
    exact retI X0 hx Bd.returns (hb hby d4_57) hr
  · show QW (4 : Int32) h0 n0 _ s₁.heap _
    rw [e0]
    exact ⟨rfl, N0, rfl⟩

theorem d4_58 : decode method_2_code 58 = .ok (.bipush 8, 2) := by decide +kernel
theorem d4_60 : decode method_2_code 60 = .ok (.ireturn, 1) := by decide +kernel

set_option maxRecDepth 65536 in
set_option maxHeartbeats 40000000 in
theorem rm4_ttt (l : Launch) (Z : State) (a0 : Array Value) (hw : ∀ d ∈ tables_1, d.before a0 Z = true) (ws : List Jvm.Cond) (q1 : Int64) (q2 : Int64) (h0 : Heap) (n0 : Nat) (Z0 : n0 ≤ h0.size) (hc6 : ¬ ((lcmpW (((q1.toInt32).toInt8.toInt32).toInt64) q1) = (0 : Int32))) (hc26 : ¬ ((lcmpW (((q1.toInt32).toInt16.toInt32).toInt64) q1) = (0 : Int32))) (hc45 : ¬ ((lcmpW ((q1.toInt32).toInt64) q1) = (0 : Int32))) :
    MetFree l (⟨"com/example/ballpark/ballpark/io/StoreFormatWidthPinLaw", "reference", "(JJ)I"⟩ : MethodName) (head1 (Jvm.Cond.code (⟨"com/example/ballpark/ballpark/io/StoreFormatWidthPinLaw", "reference", "(JJ)I"⟩ : MethodName) method_2_code 4 (some .int) :: ws) ({ frames := 0, cells := 0, slots := 0, locals := 0 } : Room)) (fun a U => a = #[(.long q1), (.long q2)] ∧ Z.Warmed39 U.vm ∧ U.heap = h0) (fun _ _ _ _ _ => True) (fun _ U o U' => ∃ v L, o = .returned v ∧ QW (8 : Int32) h0 n0 v U'.heap L ∧ FrameEnd U o U' L ({ frames := 0, cells := 0, slots := 0, locals := 0 } : Room).cells ({ frames := 0, cells := 0, slots := 0, locals := 0 } : Room).slots) := by
  refine MetFree.of_bodySF (plainFor_of_name pn_4) hisR ?_
  intro p e s m args below meth c s₁ Bd hml0 hP hK
  obtain ⟨rfl, hZ, hh⟩ := hP
  have hx := Bd.exec
  have hby := Bd.bytes
  have hml : c.maxLocals = 4 := hml0
  have hown : s.vm.findClass "com/example/ballpark/ballpark/io/StoreFormatWidthPinLaw" = some m.cls := findClass_of_methodNamed Bd.named
  have hnm := (name_of_methodNamed Bd.named Bd.method).1
  have X0 : Stand p l e ({ frames := 0, cells := 0, slots := 0, locals := 0 } : Room) s m #[(.long q1), (.long q2)] below meth c s₁ [] 0 0 := Stand.of_body Bd
  have e0 : s₁.heap = h0 := by rw [← hh, Bd.state]; rfl
  have N0 := Fr.nil n0
  have pre0 : ∀ t, Steps p.tables e below (s₁.setTop (mkF m 0 #[.val (.long q1), .second, .val (.long q2), .second] [])) t → Steps p.tables e below (s₁.setTop (entryFrame m #[(.long q1), (.long q2)] 4)) t := fun t k => castTop (ef_4 m q1 q2) k

  obtain ⟨fs, hr, hrun, hended, hW, hsame⟩ := X0.leave (v := some (.int (8 : Int32))) (fun h => by rw [Bd.returns] at h; cases h)
  refine ⟨_, _, pre0 _ ?_, hrun, hended, _, _, rfl, ?_, ⟨_, rfl⟩, hW, hsame.mono (by decide) (by decide)⟩
  · show Steps p.tables e below (s₁.setTop (mkF m 0 #[.val (.long q1), .second, .val (.long q2), .second] [])) _
    refine XS.lloadN X0.here hx rfl (hb hby d4_0) rfl ?_
    show Steps p.tables e below (s₁.setTop (mkF m 1 #[.val (.long q1), .second, .val (.long q2), .second] [(.long q1)])) _
    refine XS.l2i X0.here hx rfl (hb hby d4_1) rfl ?_
    show Steps p.tables e below (s₁.setTop (mkF m 2 #[.val (.long q1), .second, .val (.long q2), .second] [(.int (q1.toInt32))])) _
    refine XS.i2b X0.here hx rfl (hb hby d4_2) rfl ?_
    show Steps p.tables e below (s₁.setTop (mkF m 3 #[.val (.long q1), .second, .val (.long q2), .second] [(.int ((q1.toInt32).toInt8.toInt32))])) _
    refine XS.i2l X0.here hx rfl (hb hby d4_3) rfl ?_
    show Steps p.tables e below (s₁.setTop (mkF m 4 #[.val (.long q1), .second, .val (.long q2), .second] [(.long (((q1.toInt32).toInt8.toInt32).toInt64))])) _
    refine XS.lloadN X0.here hx rfl (hb hby d4_4) rfl ?_
    show Steps p.tables e below (s₁.setTop (mkF m 5 #[.val (.long q1), .second, .val (.long q2), .second] [(.long q1), (.long (((q1.toInt32).toInt8.toInt32).toInt64))])) _
    refine XS.lcmp X0.here hx rfl (hb hby d4_5) rfl ?_
    show Steps p.tables e below (s₁.setTop (mkF m 6 #[.val (.long q1), .second, .val (.long q2), .second] [(.int (lcmpW (((q1.toInt32).toInt8.toInt32).toInt64) q1))])) _
    refine XS.ifYes X0.here hx rfl (pc0 := 6) (pc' := 20) rfl (hb hby d4_6) rfl ((if0 _ _).trans (feq hc6).2) (by decide) (by decide) ?_
    show Steps p.tables e below (s₁.setTop (mkF m 20 #[.val (.long q1), .second, .val (.long q2), .second] [])) _
    refine XS.lloadN X0.here hx rfl (hb hby d4_20) rfl ?_
    show Steps p.tables e below (s₁.setTop (mkF m 21 #[.val (.long q1), .second, .val (.long q2), .second] [(.long q1)])) _
    refine XS.l2i X0.here hx rfl (hb hby d4_21) rfl ?_
    show Steps p.tables e below (s₁.setTop (mkF m 22 #[.val (.long q1), .second, .val (.long q2), .second] [(.int (q1.toInt32))])) _
    refine XS.i2s X0.here hx rfl (hb hby d4_22) rfl ?_
    show Steps p.tables e below (s₁.setTop (mkF m 23 #[.val (.long q1), .second, .val (.long q2), .second] [(.int ((q1.toInt32).toInt16.toInt32))])) _
    refine XS.i2l X0.here hx rfl (hb hby d4_23) rfl ?_
    show Steps p.tables e below (s₁.setTop (mkF m 24 #[.val (.long q1), .second, .val (.long q2), .second] [(.long (((q1.toInt32).toInt16.toInt32).toInt64))])) _
    refine XS.lloadN X0.here hx rfl (hb hby d4_24) rfl ?_
    show Steps p.tables e below (s₁.setTop (mkF m 25 #[.val (.long q1), .second, .val (.long q2), .second] [(.long q1), (.long (((q1.toInt32).toInt16.toInt32).toInt64))])) _
    refine XS.lcmp X0.here hx rfl (hb hby d4_25) rfl ?_
    show Steps p.tables e below (s₁.setTop (mkF m 26 #[.val (.long q1), .second, .val (.long q2), .second] [(.int (lcmpW (((q1.toInt32).toInt16.toInt32).toInt64) q1))])) _
    refine XS.ifYes X0.here hx rfl (pc0 := 26) (pc' := 40) rfl (hb hby d4_26) rfl ((if0 _ _).trans (feq hc26).2) (by decide) (by decide) ?_
    show Steps p.tables e below (s₁.setTop (mkF m 40 #[.val (.long q1), .second, .val (.long q2), .second] [])) _
    refine XS.lloadN X0.here hx rfl (hb hby d4_40) rfl ?_
    show Steps p.tables e below (s₁.setTop (mkF m 41 #[.val (.long q1), .second, .val (.long q2), .second] [(.long q1)])) _
    refine XS.l2i X0.here hx rfl (hb hby d4_41) rfl ?_
    show Steps p.tables e below (s₁.setTop (mkF m 42 #[.val (.long q1), .second, .val (.long q2), .second] [(.int (q1.toInt32))])) _
    refine XS.i2l X0.here hx rfl (hb hby d4_42) rfl ?_
    show Steps p.tables e below (s₁.setTop (mkF m 43 #[.val (.long q1), .second, .val (.long q2), .second] [(.long ((q1.toInt32).toInt64))])) _
    refine XS.lloadN X0.here hx rfl (hb hby d4_43) rfl ?_
    show Steps p.tables e below (s₁.setTop (mkF m 44 #[.val (.long q1), .second, .val (.long q2), .second] [(.long q1), (.long ((q1.toInt32).toInt64))])) _
    refine XS.lcmp X0.here hx rfl (hb hby d4_44) rfl ?_
    show Steps p.tables e below (s₁.setTop (mkF m 45 #[.val (.long q1), .second, .val (.long q2), .second] [(.int (lcmpW ((q1.toInt32).toInt64) q1))])) _
    refine XS.ifYes X0.here hx rfl (pc0 := 45) (pc' := 58) rfl (hb hby d4_45) rfl ((if0 _ _).trans (feq hc45).2) (by decide) (by decide) ?_
    show Steps p.tables e below (s₁.setTop (mkF m 58 #[.val (.long q1), .second, .val (.long q2), .second] [])) _
    refine XS.bipush X0.here hx rfl (hb hby d4_58) ?_
    show Steps p.tables e below (s₁.setTop (mkF m 60 #[.val (.long q1), .second, .val (.long q2), .second] [(.int (8 : Int32))])) _
    exact retI X0 hx Bd.returns (hb hby d4_60) hr
  · show QW (8 : Int32) h0 n0 _ s₁.heap _
    rw [e0]
    exact ⟨rfl, N0, rfl⟩


set_option maxRecDepth 65536 in
set_option maxHeartbeats 40000000 in
theorem rm4_ttft (l : Launch) (Z : State) (a0 : Array Value) (hw : ∀ d ∈ tables_1, d.before a0 Z = true) (ws : List Jvm.Cond) (q1 : Int64) (q2 : Int64) (h0 : Heap) (n0 : Nat) (Z0 : n0 ≤ h0.size) (hc6 : ¬ ((lcmpW (((q1.toInt32).toInt8.toInt32).toInt64) q1) = (0 : Int32))) (hc26 : ¬ ((lcmpW (((q1.toInt32).toInt16.toInt32).toInt64) q1) = (0 : Int32))) (hc45 : (lcmpW ((q1.toInt32).toInt64) q1) = (0 : Int32)) (hc53 : ¬ ((lcmpW ((q2.toInt32).toInt64) q2) = (0 : Int32))) :
    MetFree l (⟨"com/example/ballpark/ballpark/io/StoreFormatWidthPinLaw", "reference", "(JJ)I"⟩ : MethodName) (head1 (Jvm.Cond.code (⟨"com/example/ballpark/ballpark/io/StoreFormatWidthPinLaw", "reference", "(JJ)I"⟩ : MethodName) method_2_code 4 (some .int) :: ws) ({ frames := 0, cells := 0, slots := 0, locals := 0 } : Room)) (fun a U => a = #[(.long q1), (.long q2)] ∧ Z.Warmed39 U.vm ∧ U.heap = h0) (fun _ _ _ _ _ => True) (fun _ U o U' => ∃ v L, o = .returned v ∧ QW (8 : Int32) h0 n0 v U'.heap L ∧ FrameEnd U o U' L ({ frames := 0, cells := 0, slots := 0, locals := 0 } : Room).cells ({ frames := 0, cells := 0, slots := 0, locals := 0 } : Room).slots) := by
  refine MetFree.of_bodySF (plainFor_of_name pn_4) hisR ?_
  intro p e s m args below meth c s₁ Bd hml0 hP hK
  obtain ⟨rfl, hZ, hh⟩ := hP
  have hx := Bd.exec
  have hby := Bd.bytes
  have hml : c.maxLocals = 4 := hml0
  have hown : s.vm.findClass "com/example/ballpark/ballpark/io/StoreFormatWidthPinLaw" = some m.cls := findClass_of_methodNamed Bd.named
  have hnm := (name_of_methodNamed Bd.named Bd.method).1
  have X0 : Stand p l e ({ frames := 0, cells := 0, slots := 0, locals := 0 } : Room) s m #[(.long q1), (.long q2)] below meth c s₁ [] 0 0 := Stand.of_body Bd
  have e0 : s₁.heap = h0 := by rw [← hh, Bd.state]; rfl
  have N0 := Fr.nil n0
  have pre0 : ∀ t, Steps p.tables e below (s₁.setTop (mkF m 0 #[.val (.long q1), .second, .val (.long q2), .second] [])) t → Steps p.tables e below (s₁.setTop (entryFrame m #[(.long q1), (.long q2)] 4)) t := fun t k => castTop (ef_4 m q1 q2) k

  obtain ⟨fs, hr, hrun, hended, hW, hsame⟩ := X0.leave (v := some (.int (8 : Int32))) (fun h => by rw [Bd.returns] at h; cases h)
  refine ⟨_, _, pre0 _ ?_, hrun, hended, _, _, rfl, ?_, ⟨_, rfl⟩, hW, hsame.mono (by decide) (by decide)⟩
  · show Steps p.tables e below (s₁.setTop (mkF m 0 #[.val (.long q1), .second, .val (.long q2), .second] [])) _
    refine XS.lloadN X0.here hx rfl (hb hby d4_0) rfl ?_
    show Steps p.tables e below (s₁.setTop (mkF m 1 #[.val (.long q1), .second, .val (.long q2), .second] [(.long q1)])) _
    refine XS.l2i X0.here hx rfl (hb hby d4_1) rfl ?_
    show Steps p.tables e below (s₁.setTop (mkF m 2 #[.val (.long q1), .second, .val (.long q2), .second] [(.int (q1.toInt32))])) _
    refine XS.i2b X0.here hx rfl (hb hby d4_2) rfl ?_
    show Steps p.tables e below (s₁.setTop (mkF m 3 #[.val (.long q1), .second, .val (.long q2), .second] [(.int ((q1.toInt32).toInt8.toInt32))])) _
    refine XS.i2l X0.here hx rfl (hb hby d4_3) rfl ?_
    show Steps p.tables e below (s₁.setTop (mkF m 4 #[.val (.long q1), .second, .val (.long q2), .second] [(.long (((q1.toInt32).toInt8.toInt32).toInt64))])) _
    refine XS.lloadN X0.here hx rfl (hb hby d4_4) rfl ?_
    show Steps p.tables e below (s₁.setTop (mkF m 5 #[.val (.long q1), .second, .val (.long q2), .second] [(.long q1), (.long (((q1.toInt32).toInt8.toInt32).toInt64))])) _
    refine XS.lcmp X0.here hx rfl (hb hby d4_5) rfl ?_
    show Steps p.tables e below (s₁.setTop (mkF m 6 #[.val (.long q1), .second, .val (.long q2), .second] [(.int (lcmpW (((q1.toInt32).toInt8.toInt32).toInt64) q1))])) _
    refine XS.ifYes X0.here hx rfl (pc0 := 6) (pc' := 20) rfl (hb hby d4_6) rfl ((if0 _ _).trans (feq hc6).2) (by decide) (by decide) ?_
    show Steps p.tables e below (s₁.setTop (mkF m 20 #[.val (.long q1), .second, .val (.long q2), .second] [])) _
    refine XS.lloadN X0.here hx rfl (hb hby d4_20) rfl ?_
    show Steps p.tables e below (s₁.setTop (mkF m 21 #[.val (.long q1), .second, .val (.long q2), .second] [(.long q1)])) _
    refine XS.l2i X0.here hx rfl (hb hby d4_21) rfl ?_
    show Steps p.tables e below (s₁.setTop (mkF m 22 #[.val (.long q1), .second, .val (.long q2), .second] [(.int (q1.toInt32))])) _
    refine XS.i2s X0.here hx rfl (hb hby d4_22) rfl ?_
    show Steps p.tables e below (s₁.setTop (mkF m 23 #[.val (.long q1), .second, .val (.long q2), .second] [(.int ((q1.toInt32).toInt16.toInt32))])) _
    refine XS.i2l X0.here hx rfl (hb hby d4_23) rfl ?_
    show Steps p.tables e below (s₁.setTop (mkF m 24 #[.val (.long q1), .second, .val (.long q2), .second] [(.long (((q1.toInt32).toInt16.toInt32).toInt64))])) _
    refine XS.lloadN X0.here hx rfl (hb hby d4_24) rfl ?_
    show Steps p.tables e below (s₁.setTop (mkF m 25 #[.val (.long q1), .second, .val (.long q2), .second] [(.long q1), (.long (((q1.toInt32).toInt16.toInt32).toInt64))])) _
    refine XS.lcmp X0.here hx rfl (hb hby d4_25) rfl ?_
    show Steps p.tables e below (s₁.setTop (mkF m 26 #[.val (.long q1), .second, .val (.long q2), .second] [(.int (lcmpW (((q1.toInt32).toInt16.toInt32).toInt64) q1))])) _
    refine XS.ifYes X0.here hx rfl (pc0 := 26) (pc' := 40) rfl (hb hby d4_26) rfl ((if0 _ _).trans (feq hc26).2) (by decide) (by decide) ?_
    show Steps p.tables e below (s₁.setTop (mkF m 40 #[.val (.long q1), .second, .val (.long q2), .second] [])) _
    refine XS.lloadN X0.here hx rfl (hb hby d4_40) rfl ?_
    show Steps p.tables e below (s₁.setTop (mkF m 41 #[.val (.long q1), .second, .val (.long q2), .second] [(.long q1)])) _
    refine XS.l2i X0.here hx rfl (hb hby d4_41) rfl ?_
    show Steps p.tables e below (s₁.setTop (mkF m 42 #[.val (.long q1), .second, .val (.long q2), .second] [(.int (q1.toInt32))])) _
    refine XS.i2l X0.here hx rfl (hb hby d4_42) rfl ?_
    show Steps p.tables e below (s₁.setTop (mkF m 43 #[.val (.long q1), .second, .val (.long q2), .second] [(.long ((q1.toInt32).toInt64))])) _
    refine XS.lloadN X0.here hx rfl (hb hby d4_43) rfl ?_
    show Steps p.tables e below (s₁.setTop (mkF m 44 #[.val (.long q1), .second, .val (.long q2), .second] [(.long q1), (.long ((q1.toInt32).toInt64))])) _
    refine XS.lcmp X0.here hx rfl (hb hby d4_44) rfl ?_
    show Steps p.tables e below (s₁.setTop (mkF m 45 #[.val (.long q1), .second, .val (.long q2), .second] [(.int (lcmpW ((q1.toInt32).toInt64) q1))])) _
    refine XS.ifNo X0.here hx rfl (hb hby d4_45) rfl ((if0 _ _).trans (teq hc45).2) ?_
    show Steps p.tables e below (s₁.setTop (mkF m 48 #[.val (.long q1), .second, .val (.long q2), .second] [])) _
    refine XS.lloadN X0.here hx rfl (hb hby d4_48) rfl ?_
    show Steps p.tables e below (s₁.setTop (mkF m 49 #[.val (.long q1), .second, .val (.long q2), .second] [(.long q2)])) _
    refine XS.l2i X0.here hx rfl (hb hby d4_49) rfl ?_
    show Steps p.tables e below (s₁.setTop (mkF m 50 #[.val (.long q1), .second, .val (.long q2), .second] [(.int (q2.toInt32))])) _
    refine XS.i2l X0.here hx rfl (hb hby d4_50) rfl ?_
    show Steps p.tables e below (s₁.setTop (mkF m 51 #[.val (.long q1), .second, .val (.long q2), .second] [(.long ((q2.toInt32).toInt64))])) _
    refine XS.lloadN X0.here hx rfl (hb hby d4_51) rfl ?_
    show Steps p.tables e below (s₁.setTop (mkF m 52 #[.val (.long q1), .second, .val (.long q2), .second] [(.long q2), (.long ((q2.toInt32).toInt64))])) _
    refine XS.lcmp X0.here hx rfl (hb hby d4_52) rfl ?_
    show Steps p.tables e below (s₁.setTop (mkF m 53 #[.val (.long q1), .second, .val (.long q2), .second] [(.int (lcmpW ((q2.toInt32).toInt64) q2))])) _
    refine XS.ifYes X0.here hx rfl (pc0 := 53) (pc' := 58) rfl (hb hby d4_53) rfl ((if0 _ _).trans (feq hc53).2) (by decide) (by decide) ?_
    show Steps p.tables e below (s₁.setTop (mkF m 58 #[.val (.long q1), .second, .val (.long q2), .second] [])) _
    refine XS.bipush X0.here hx rfl (hb hby d4_58) ?_
    show Steps p.tables e below (s₁.setTop (mkF m 60 #[.val (.long q1), .second, .val (.long q2), .second] [(.int (8 : Int32))])) _
    exact retI X0 hx Bd.returns (hb hby d4_60) hr
  · show QW (8 : Int32) h0 n0 _ s₁.heap _
    rw [e0]
    exact ⟨rfl, N0, rfl⟩


set_option maxRecDepth 65536 in
set_option maxHeartbeats 40000000 in
theorem rm4_tftff (l : Launch) (Z : State) (a0 : Array Value) (hw : ∀ d ∈ tables_1, d.before a0 Z = true) (ws : List Jvm.Cond) (q1 : Int64) (q2 : Int64) (h0 : Heap) (n0 : Nat) (Z0 : n0 ≤ h0.size) (hc6 : ¬ ((lcmpW (((q1.toInt32).toInt8.toInt32).toInt64) q1) = (0 : Int32))) (hc26 : (lcmpW (((q1.toInt32).toInt16.toInt32).toInt64) q1) = (0 : Int32)) (hc35 : ¬ ((lcmpW (((q2.toInt32).toInt16.toInt32).toInt64) q2) = (0 : Int32))) (hc45 : (lcmpW ((q1.toInt32).toInt64) q1) = (0 : Int32)) (hc53 : (lcmpW ((q2.toInt32).toInt64) q2) = (0 : Int32)) :
    MetFree l (⟨"com/example/ballpark/ballpark/io/StoreFormatWidthPinLaw", "reference", "(JJ)I"⟩ : MethodName) (head1 (Jvm.Cond.code (⟨"com/example/ballpark/ballpark/io/StoreFormatWidthPinLaw", "reference", "(JJ)I"⟩ : MethodName) method_2_code 4 (some .int) :: ws) ({ frames := 0, cells := 0, slots := 0, locals := 0 } : Room)) (fun a U => a = #[(.long q1), (.long q2)] ∧ Z.Warmed39 U.vm ∧ U.heap = h0) (fun _ _ _ _ _ => True) (fun _ U o U' => ∃ v L, o = .returned v ∧ QW (4 : Int32) h0 n0 v U'.heap L ∧ FrameEnd U o U' L ({ frames := 0, cells := 0, slots := 0, locals := 0 } : Room).cells ({ frames := 0, cells := 0, slots := 0, locals := 0 } : Room).slots) := by
  refine MetFree.of_bodySF (plainFor_of_name pn_4) hisR ?_
  intro p e s m args below meth c s₁ Bd hml0 hP hK
  obtain ⟨rfl, hZ, hh⟩ := hP
  have hx := Bd.exec
  have hby := Bd.bytes
  have hml : c.maxLocals = 4 := hml0
  have hown : s.vm.findClass "com/example/ballpark/ballpark/io/StoreFormatWidthPinLaw" = some m.cls := findClass_of_methodNamed Bd.named
  have hnm := (name_of_methodNamed Bd.named Bd.method).1
  have X0 : Stand p l e ({ frames := 0, cells := 0, slots := 0, locals := 0 } : Room) s m #[(.long q1), (.long q2)] below meth c s₁ [] 0 0 := Stand.of_body Bd
  have e0 : s₁.heap = h0 := by rw [← hh, Bd.state]; rfl
  have N0 := Fr.nil n0
  have pre0 : ∀ t, Steps p.tables e below (s₁.setTop (mkF m 0 #[.val (.long q1), .second, .val (.long q2), .second] [])) t → Steps p.tables e below (s₁.setTop (entryFrame m #[(.long q1), (.long q2)] 4)) t := fun t k => castTop (ef_4 m q1 q2) k

  obtain ⟨fs, hr, hrun, hended, hW, hsame⟩ := X0.leave (v := some (.int (4 : Int32))) (fun h => by rw [Bd.returns] at h; cases h)
  refine ⟨_, _, pre0 _ ?_, hrun, hended, _, _, rfl, ?_, ⟨_, rfl⟩, hW, hsame.mono (by decide) (by decide)⟩
  · show Steps p.tables e below (s₁.setTop (mkF m 0 #[.val (.long q1), .second, .val (.long q2), .second] [])) _
    refine XS.lloadN X0.here hx rfl (hb hby d4_0) rfl ?_
    show Steps p.tables e below (s₁.setTop (mkF m 1 #[.val (.long q1), .second, .val (.long q2), .second] [(.long q1)])) _
    refine XS.l2i X0.here hx rfl (hb hby d4_1) rfl ?_
    show Steps p.tables e below (s₁.setTop (mkF m 2 #[.val (.long q1), .second, .val (.long q2), .second] [(.int (q1.toInt32))])) _
    refine XS.i2b X0.here hx rfl (hb hby d4_2) rfl ?_
    show Steps p.tables e below (s₁.setTop (mkF m 3 #[.val (.long q1), .second, .val (.long q2), .second] [(.int ((q1.toInt32).toInt8.toInt32))])) _
    refine XS.i2l X0.here hx rfl (hb hby d4_3) rfl ?_
    show Steps p.tables e below (s₁.setTop (mkF m 4 #[.val (.long q1), .second, .val (.long q2), .second] [(.long (((q1.toInt32).toInt8.toInt32).toInt64))])) _
    refine XS.lloadN X0.here hx rfl (hb hby d4_4) rfl ?_
    show Steps p.tables e below (s₁.setTop (mkF m 5 #[.val (.long q1), .second, .val (.long q2), .second] [(.long q1), (.long (((q1.toInt32).toInt8.toInt32).toInt64))])) _
    refine XS.lcmp X0.here hx rfl (hb hby d4_5) rfl ?_
    show Steps p.tables e below (s₁.setTop (mkF m 6 #[.val (.long q1), .second, .val (.long q2), .second] [(.int (lcmpW (((q1.toInt32).toInt8.toInt32).toInt64) q1))])) _
    refine XS.ifYes X0.here hx rfl (pc0 := 6) (pc' := 20) rfl (hb hby d4_6) rfl ((if0 _ _).trans (feq hc6).2) (by decide) (by decide) ?_
    show Steps p.tables e below (s₁.setTop (mkF m 20 #[.val (.long q1), .second, .val (.long q2), .second] [])) _
    refine XS.lloadN X0.here hx rfl (hb hby d4_20) rfl ?_
    show Steps p.tables e below (s₁.setTop (mkF m 21 #[.val (.long q1), .second, .val (.long q2), .second] [(.long q1)])) _
    refine XS.l2i X0.here hx rfl (hb hby d4_21) rfl ?_
    show Steps p.tables e below (s₁.setTop (mkF m 22 #[.val (.long q1), .second, .val (.long q2), .second] [(.int (q1.toInt32))])) _
    refine XS.i2s X0.here hx rfl (hb hby d4_22) rfl ?_
    show Steps p.tables e below (s₁.setTop (mkF m 23 #[.val (.long q1), .second, .val (.long q2), .second] [(.int ((q1.toInt32).toInt16.toInt32))])) _
    refine XS.i2l X0.here hx rfl (hb hby d4_23) rfl ?_
    show Steps p.tables e below (s₁.setTop (mkF m 24 #[.val (.long q1), .second, .val (.long q2), .second] [(.long (((q1.toInt32).toInt16.toInt32).toInt64))])) _
    refine XS.lloadN X0.here hx rfl (hb hby d4_24) rfl ?_
    show Steps p.tables e below (s₁.setTop (mkF m 25 #[.val (.long q1), .second, .val (.long q2), .second] [(.long q1), (.long (((q1.toInt32).toInt16.toInt32).toInt64))])) _
    refine XS.lcmp X0.here hx rfl (hb hby d4_25) rfl ?_
    show Steps p.tables e below (s₁.setTop (mkF m 26 #[.val (.long q1), .second, .val (.long q2), .second] [(.int (lcmpW (((q1.toInt32).toInt16.toInt32).toInt64) q1))])) _
    refine XS.ifNo X0.here hx rfl (hb hby d4_26) rfl ((if0 _ _).trans (teq hc26).2) ?_
    show Steps p.tables e below (s₁.setTop (mkF m 29 #[.val (.long q1), .second, .val (.long q2), .second] [])) _
    refine XS.lloadN X0.here hx rfl (hb hby d4_29) rfl ?_
    show Steps p.tables e below (s₁.setTop (mkF m 30 #[.val (.long q1), .second, .val (.long q2), .second] [(.long q2)])) _
    refine XS.l2i X0.here hx rfl (hb hby d4_30) rfl ?_
    show Steps p.tables e below (s₁.setTop (mkF m 31 #[.val (.long q1), .second, .val (.long q2), .second] [(.int (q2.toInt32))])) _
    refine XS.i2s X0.here hx rfl (hb hby d4_31) rfl ?_
    show Steps p.tables e below (s₁.setTop (mkF m 32 #[.val (.long q1), .second, .val (.long q2), .second] [(.int ((q2.toInt32).toInt16.toInt32))])) _
    refine XS.i2l X0.here hx rfl (hb hby d4_32) rfl ?_
    show Steps p.tables e below (s₁.setTop (mkF m 33 #[.val (.long q1), .second, .val (.long q2), .second] [(.long (((q2.toInt32).toInt16.toInt32).toInt64))])) _
    refine XS.lloadN X0.here hx rfl (hb hby d4_33) rfl ?_
    show Steps p.tables e below (s₁.setTop (mkF m 34 #[.val (.long q1), .second, .val (.long q2), .second] [(.long q2), (.long (((q2.toInt32).toInt16.toInt32).toInt64))])) _
    refine XS.lcmp X0.here hx rfl (hb hby d4_34) rfl ?_
    show Steps p.tables e below (s₁.setTop (mkF m 35 #[.val (.long q1), .second, .val (.long q2), .second] [(.int (lcmpW (((q2.toInt32).toInt16.toInt32).toInt64) q2))])) _
    refine XS.ifYes X0.here hx rfl (pc0 := 35) (pc' := 40) rfl (hb hby d4_35) rfl ((if0 _ _).trans (feq hc35).2) (by decide) (by decide) ?_
    show Steps p.tables e below (s₁.setTop (mkF m 40 #[.val (.long q1), .second, .val (.long q2), .second] [])) _
    refine XS.lloadN X0.here hx rfl (hb hby d4_40) rfl ?_
    show Steps p.tables e below (s₁.setTop (mkF m 41 #[.val (.long q1), .second, .val (.long q2), .second] [(.long q1)])) _
    refine XS.l2i X0.here hx rfl (hb hby d4_41) rfl ?_
    show Steps p.tables e below (s₁.setTop (mkF m 42 #[.val (.long q1), .second, .val (.long q2), .second] [(.int (q1.toInt32))])) _
    refine XS.i2l X0.here hx rfl (hb hby d4_42) rfl ?_
    show Steps p.tables e below (s₁.setTop (mkF m 43 #[.val (.long q1), .second, .val (.long q2), .second] [(.long ((q1.toInt32).toInt64))])) _
    refine XS.lloadN X0.here hx rfl (hb hby d4_43) rfl ?_
    show Steps p.tables e below (s₁.setTop (mkF m 44 #[.val (.long q1), .second, .val (.long q2), .second] [(.long q1), (.long ((q1.toInt32).toInt64))])) _
    refine XS.lcmp X0.here hx rfl (hb hby d4_44) rfl ?_
    show Steps p.tables e below (s₁.setTop (mkF m 45 #[.val (.long q1), .second, .val (.long q2), .second] [(.int (lcmpW ((q1.toInt32).toInt64) q1))])) _
    refine XS.ifNo X0.here hx rfl (hb hby d4_45) rfl ((if0 _ _).trans (teq hc45).2) ?_
    show Steps p.tables e below (s₁.setTop (mkF m 48 #[.val (.long q1), .second, .val (.long q2), .second] [])) _
    refine XS.lloadN X0.here hx rfl (hb hby d4_48) rfl ?_
    show Steps p.tables e below (s₁.setTop (mkF m 49 #[.val (.long q1), .second, .val (.long q2), .second] [(.long q2)])) _
    refine XS.l2i X0.here hx rfl (hb hby d4_49) rfl ?_
    show Steps p.tables e below (s₁.setTop (mkF m 50 #[.val (.long q1), .second, .val (.long q2), .second] [(.int (q2.toInt32))])) _
    refine XS.i2l X0.here hx rfl (hb hby d4_50) rfl ?_
    show Steps p.tables e below (s₁.setTop (mkF m 51 #[.val (.long q1), .second, .val (.long q2), .second] [(.long ((q2.toInt32).toInt64))])) _
    refine XS.lloadN X0.here hx rfl (hb hby d4_51) rfl ?_
    show Steps p.tables e below (s₁.setTop (mkF m 52 #[.val (.long q1), .second, .val (.long q2), .second] [(.long q2), (.long ((q2.toInt32).toInt64))])) _
    refine XS.lcmp X0.here hx rfl (hb hby d4_52) rfl ?_
    show Steps p.tables e below (s₁.setTop (mkF m 53 #[.val (.long q1), .second, .val (.long q2), .second] [(.int (lcmpW ((q2.toInt32).toInt64) q2))])) _
    refine XS.ifNo X0.here hx rfl (hb hby d4_53) rfl ((if0 _ _).trans (teq hc53).2) ?_
    show Steps p.tables e below (s₁.setTop (mkF m 56 #[.val (.long q1), .second, .val (.long q2), .second] [])) _
    refine XS.iconst X0.here hx rfl (hb hby d4_56) ?_
    show Steps p.tables e below (s₁.setTop (mkF m 57 #[.val (.long q1), .second, .val (.long q2), .second] [(.int (4 : Int32))])) _
    exact retI X0 hx Bd.returns (hb hby d4_57) hr
  · show QW (4 : Int32) h0 n0 _ s₁.heap _
    rw [e0]
    exact ⟨rfl, N0, rfl⟩


set_option maxRecDepth 65536 in
set_option maxHeartbeats 40000000 in
theorem rm4_tftt (l : Launch) (Z : State) (a0 : Array Value) (hw : ∀ d ∈ tables_1, d.before a0 Z = true) (ws : List Jvm.Cond) (q1 : Int64) (q2 : Int64) (h0 : Heap) (n0 : Nat) (Z0 : n0 ≤ h0.size) (hc6 : ¬ ((lcmpW (((q1.toInt32).toInt8.toInt32).toInt64) q1) = (0 : Int32))) (hc26 : (lcmpW (((q1.toInt32).toInt16.toInt32).toInt64) q1) = (0 : Int32)) (hc35 : ¬ ((lcmpW (((q2.toInt32).toInt16.toInt32).toInt64) q2) = (0 : Int32))) (hc45 : ¬ ((lcmpW ((q1.toInt32).toInt64) q1) = (0 : Int32))) :
    MetFree l (⟨"com/example/ballpark/ballpark/io/StoreFormatWidthPinLaw", "reference", "(JJ)I"⟩ : MethodName) (head1 (Jvm.Cond.code (⟨"com/example/ballpark/ballpark/io/StoreFormatWidthPinLaw", "reference", "(JJ)I"⟩ : MethodName) method_2_code 4 (some .int) :: ws) ({ frames := 0, cells := 0, slots := 0, locals := 0 } : Room)) (fun a U => a = #[(.long q1), (.long q2)] ∧ Z.Warmed39 U.vm ∧ U.heap = h0) (fun _ _ _ _ _ => True) (fun _ U o U' => ∃ v L, o = .returned v ∧ QW (8 : Int32) h0 n0 v U'.heap L ∧ FrameEnd U o U' L ({ frames := 0, cells := 0, slots := 0, locals := 0 } : Room).cells ({ frames := 0, cells := 0, slots := 0, locals := 0 } : Room).slots) := by
  refine MetFree.of_bodySF (plainFor_of_name pn_4) hisR ?_
  intro p e s m args below meth c s₁ Bd hml0 hP hK
  obtain ⟨rfl, hZ, hh⟩ := hP
  have hx := Bd.exec
  have hby := Bd.bytes
  have hml : c.maxLocals = 4 := hml0
  have hown : s.vm.findClass "com/example/ballpark/ballpark/io/StoreFormatWidthPinLaw" = some m.cls := findClass_of_methodNamed Bd.named
  have hnm := (name_of_methodNamed Bd.named Bd.method).1
  have X0 : Stand p l e ({ frames := 0, cells := 0, slots := 0, locals := 0 } : Room) s m #[(.long q1), (.long q2)] below meth c s₁ [] 0 0 := Stand.of_body Bd
  have e0 : s₁.heap = h0 := by rw [← hh, Bd.state]; rfl
  have N0 := Fr.nil n0
  have pre0 : ∀ t, Steps p.tables e below (s₁.setTop (mkF m 0 #[.val (.long q1), .second, .val (.long q2), .second] [])) t → Steps p.tables e below (s₁.setTop (entryFrame m #[(.long q1), (.long q2)] 4)) t := fun t k => castTop (ef_4 m q1 q2) k

  obtain ⟨fs, hr, hrun, hended, hW, hsame⟩ := X0.leave (v := some (.int (8 : Int32))) (fun h => by rw [Bd.returns] at h; cases h)
  refine ⟨_, _, pre0 _ ?_, hrun, hended, _, _, rfl, ?_, ⟨_, rfl⟩, hW, hsame.mono (by decide) (by decide)⟩
  · show Steps p.tables e below (s₁.setTop (mkF m 0 #[.val (.long q1), .second, .val (.long q2), .second] [])) _
    refine XS.lloadN X0.here hx rfl (hb hby d4_0) rfl ?_
    show Steps p.tables e below (s₁.setTop (mkF m 1 #[.val (.long q1), .second, .val (.long q2), .second] [(.long q1)])) _
    refine XS.l2i X0.here hx rfl (hb hby d4_1) rfl ?_
    show Steps p.tables e below (s₁.setTop (mkF m 2 #[.val (.long q1), .second, .val (.long q2), .second] [(.int (q1.toInt32))])) _
    refine XS.i2b X0.here hx rfl (hb hby d4_2) rfl ?_
    show Steps p.tables e below (s₁.setTop (mkF m 3 #[.val (.long q1), .second, .val (.long q2), .second] [(.int ((q1.toInt32).toInt8.toInt32))])) _
    refine XS.i2l X0.here hx rfl (hb hby d4_3) rfl ?_
    show Steps p.tables e below (s₁.setTop (mkF m 4 #[.val (.long q1), .second, .val (.long q2), .second] [(.long (((q1.toInt32).toInt8.toInt32).toInt64))])) _
    refine XS.lloadN X0.here hx rfl (hb hby d4_4) rfl ?_
    show Steps p.tables e below (s₁.setTop (mkF m 5 #[.val (.long q1), .second, .val (.long q2), .second] [(.long q1), (.long (((q1.toInt32).toInt8.toInt32).toInt64))])) _
    refine XS.lcmp X0.here hx rfl (hb hby d4_5) rfl ?_
    show Steps p.tables e below (s₁.setTop (mkF m 6 #[.val (.long q1), .second, .val (.long q2), .second] [(.int (lcmpW (((q1.toInt32).toInt8.toInt32).toInt64) q1))])) _
    refine XS.ifYes X0.here hx rfl (pc0 := 6) (pc' := 20) rfl (hb hby d4_6) rfl ((if0 _ _).trans (feq hc6).2) (by decide) (by decide) ?_
    show Steps p.tables e below (s₁.setTop (mkF m 20 #[.val (.long q1), .second, .val (.long q2), .second] [])) _
    refine XS.lloadN X0.here hx rfl (hb hby d4_20) rfl ?_
    show Steps p.tables e below (s₁.setTop (mkF m 21 #[.val (.long q1), .second, .val (.long q2), .second] [(.long q1)])) _
    refine XS.l2i X0.here hx rfl (hb hby d4_21) rfl ?_
    show Steps p.tables e below (s₁.setTop (mkF m 22 #[.val (.long q1), .second, .val (.long q2), .second] [(.int (q1.toInt32))])) _
    refine XS.i2s X0.here hx rfl (hb hby d4_22) rfl ?_
    show Steps p.tables e below (s₁.setTop (mkF m 23 #[.val (.long q1), .second, .val (.long q2), .second] [(.int ((q1.toInt32).toInt16.toInt32))])) _
    refine XS.i2l X0.here hx rfl (hb hby d4_23) rfl ?_
    show Steps p.tables e below (s₁.setTop (mkF m 24 #[.val (.long q1), .second, .val (.long q2), .second] [(.long (((q1.toInt32).toInt16.toInt32).toInt64))])) _
    refine XS.lloadN X0.here hx rfl (hb hby d4_24) rfl ?_
    show Steps p.tables e below (s₁.setTop (mkF m 25 #[.val (.long q1), .second, .val (.long q2), .second] [(.long q1), (.long (((q1.toInt32).toInt16.toInt32).toInt64))])) _
    refine XS.lcmp X0.here hx rfl (hb hby d4_25) rfl ?_
    show Steps p.tables e below (s₁.setTop (mkF m 26 #[.val (.long q1), .second, .val (.long q2), .second] [(.int (lcmpW (((q1.toInt32).toInt16.toInt32).toInt64) q1))])) _
    refine XS.ifNo X0.here hx rfl (hb hby d4_26) rfl ((if0 _ _).trans (teq hc26).2) ?_
    show Steps p.tables e below (s₁.setTop (mkF m 29 #[.val (.long q1), .second, .val (.long q2), .second] [])) _
    refine XS.lloadN X0.here hx rfl (hb hby d4_29) rfl ?_
    show Steps p.tables e below (s₁.setTop (mkF m 30 #[.val (.long q1), .second, .val (.long q2), .second] [(.long q2)])) _
    refine XS.l2i X0.here hx rfl (hb hby d4_30) rfl ?_
    show Steps p.tables e below (s₁.setTop (mkF m 31 #[.val (.long q1), .second, .val (.long q2), .second] [(.int (q2.toInt32))])) _
    refine XS.i2s X0.here hx rfl (hb hby d4_31) rfl ?_
    show Steps p.tables e below (s₁.setTop (mkF m 32 #[.val (.long q1), .second, .val (.long q2), .second] [(.int ((q2.toInt32).toInt16.toInt32))])) _
    refine XS.i2l X0.here hx rfl (hb hby d4_32) rfl ?_
    show Steps p.tables e below (s₁.setTop (mkF m 33 #[.val (.long q1), .second, .val (.long q2), .second] [(.long (((q2.toInt32).toInt16.toInt32).toInt64))])) _
    refine XS.lloadN X0.here hx rfl (hb hby d4_33) rfl ?_
    show Steps p.tables e below (s₁.setTop (mkF m 34 #[.val (.long q1), .second, .val (.long q2), .second] [(.long q2), (.long (((q2.toInt32).toInt16.toInt32).toInt64))])) _
    refine XS.lcmp X0.here hx rfl (hb hby d4_34) rfl ?_
    show Steps p.tables e below (s₁.setTop (mkF m 35 #[.val (.long q1), .second, .val (.long q2), .second] [(.int (lcmpW (((q2.toInt32).toInt16.toInt32).toInt64) q2))])) _
    refine XS.ifYes X0.here hx rfl (pc0 := 35) (pc' := 40) rfl (hb hby d4_35) rfl ((if0 _ _).trans (feq hc35).2) (by decide) (by decide) ?_
    show Steps p.tables e below (s₁.setTop (mkF m 40 #[.val (.long q1), .second, .val (.long q2), .second] [])) _
    refine XS.lloadN X0.here hx rfl (hb hby d4_40) rfl ?_
    show Steps p.tables e below (s₁.setTop (mkF m 41 #[.val (.long q1), .second, .val (.long q2), .second] [(.long q1)])) _
    refine XS.l2i X0.here hx rfl (hb hby d4_41) rfl ?_
    show Steps p.tables e below (s₁.setTop (mkF m 42 #[.val (.long q1), .second, .val (.long q2), .second] [(.int (q1.toInt32))])) _
    refine XS.i2l X0.here hx rfl (hb hby d4_42) rfl ?_
    show Steps p.tables e below (s₁.setTop (mkF m 43 #[.val (.long q1), .second, .val (.long q2), .second] [(.long ((q1.toInt32).toInt64))])) _
    refine XS.lloadN X0.here hx rfl (hb hby d4_43) rfl ?_
    show Steps p.tables e below (s₁.setTop (mkF m 44 #[.val (.long q1), .second, .val (.long q2), .second] [(.long q1), (.long ((q1.toInt32).toInt64))])) _
    refine XS.lcmp X0.here hx rfl (hb hby d4_44) rfl ?_
    show Steps p.tables e below (s₁.setTop (mkF m 45 #[.val (.long q1), .second, .val (.long q2), .second] [(.int (lcmpW ((q1.toInt32).toInt64) q1))])) _
    refine XS.ifYes X0.here hx rfl (pc0 := 45) (pc' := 58) rfl (hb hby d4_45) rfl ((if0 _ _).trans (feq hc45).2) (by decide) (by decide) ?_
    show Steps p.tables e below (s₁.setTop (mkF m 58 #[.val (.long q1), .second, .val (.long q2), .second] [])) _
    refine XS.bipush X0.here hx rfl (hb hby d4_58) ?_
    show Steps p.tables e below (s₁.setTop (mkF m 60 #[.val (.long q1), .second, .val (.long q2), .second] [(.int (8 : Int32))])) _
    exact retI X0 hx Bd.returns (hb hby d4_60) hr
  · show QW (8 : Int32) h0 n0 _ s₁.heap _
    rw [e0]
    exact ⟨rfl, N0, rfl⟩


set_option maxRecDepth 65536 in
set_option maxHeartbeats 40000000 in
theorem rm4_tftft (l : Launch) (Z : State) (a0 : Array Value) (hw : ∀ d ∈ tables_1, d.before a0 Z = true) (ws : List Jvm.Cond) (q1 : Int64) (q2 : Int64) (h0 : Heap) (n0 : Nat) (Z0 : n0 ≤ h0.size) (hc6 : ¬ ((lcmpW (((q1.toInt32).toInt8.toInt32).toInt64) q1) = (0 : Int32))) (hc26 : (lcmpW (((q1.toInt32).toInt16.toInt32).toInt64) q1) = (0 : Int32)) (hc35 : ¬ ((lcmpW (((q2.toInt32).toInt16.toInt32).toInt64) q2) = (0 : Int32))) (hc45 : (lcmpW ((q1.toInt32).toInt64) q1) = (0 : Int32)) (hc53 : ¬ ((lcmpW ((q2.toInt32).toInt64) q2) = (0 : Int32))) :
    MetFree l (⟨"com/example/ballpark/ballpark/io/StoreFormatWidthPinLaw", "reference", "(JJ)I"⟩ : MethodName) (head1 (Jvm.Cond.code (⟨"com/example/ballpark/ballpark/io/StoreFormatWidthPinLaw", "reference", "(JJ)I"⟩ : MethodName) method_2_code 4 (some .int) :: ws) ({ frames := 0, cells := 0, slots := 0, locals := 0 } : Room)) (fun a U => a = #[(.long q1), (.long q2)] ∧ Z.Warmed39 U.vm ∧ U.heap = h0) (fun _ _ _ _ _ => True) (fun _ U o U' => ∃ v L, o = .returned v ∧ QW (8 : Int32) h0 n0 v U'.heap L ∧ FrameEnd U o U' L ({ frames := 0, cells := 0, slots := 0, locals := 0 } : Room).cells ({ frames := 0, cells := 0, slots := 0, locals := 0 } : Room).slots) := by
  refine MetFree.of_bodySF (plainFor_of_name pn_4) hisR ?_
  intro p e s m args below meth c s₁ Bd hml0 hP hK
  obtain ⟨rfl, hZ, hh⟩ := hP
  have hx := Bd.exec
  have hby := Bd.bytes
  have hml : c.maxLocals = 4 := hml0
  have hown : s.vm.findClass "com/example/ballpark/ballpark/io/StoreFormatWidthPinLaw" = some m.cls := findClass_of_methodNamed Bd.named
  have hnm := (name_of_methodNamed Bd.named Bd.method).1
  have X0 : Stand p l e ({ frames := 0, cells := 0, slots := 0, locals := 0 } : Room) s m #[(.long q1), (.long q2)] below meth c s₁ [] 0 0 := Stand.of_body Bd
  have e0 : s₁.heap = h0 := by rw [← hh, Bd.state]; rfl
  have N0 := Fr.nil n0
  have pre0 : ∀ t, Steps p.tables e below (s₁.setTop (mkF m 0 #[.val (.long q1), .second, .val (.long q2), .second] [])) t → Steps p.tables e below (s₁.setTop (entryFrame m #[(.long q1), (.long q2)] 4)) t := fun t k => castTop (ef_4 m q1 q2) k

  obtain ⟨fs, hr, hrun, hended, hW, hsame⟩ := X0.leave (v := some (.int (8 : Int32))) (fun h => by rw [Bd.returns] at h; cases h)
  refine ⟨_, _, pre0 _ ?_, hrun, hended, _, _, rfl, ?_, ⟨_, rfl⟩, hW, hsame.mono (by decide) (by decide)⟩
  · show Steps p.tables e below (s₁.setTop (mkF m 0 #[.val (.long q1), .second, .val (.long q2), .second] [])) _
    refine XS.lloadN X0.here hx rfl (hb hby d4_0) rfl ?_
    show Steps p.tables e below (s₁.setTop (mkF m 1 #[.val (.long q1), .second, .val (.long q2), .second] [(.long q1)])) _
    refine XS.l2i X0.here hx rfl (hb hby d4_1) rfl ?_
    show Steps p.tables e below (s₁.setTop (mkF m 2 #[.val (.long q1), .second, .val (.long q2), .second] [(.int (q1.toInt32))])) _
    refine XS.i2b X0.here hx rfl (hb hby d4_2) rfl ?_
    show Steps p.tables e below (s₁.setTop (mkF m 3 #[.val (.long q1), .second, .val (.long q2), .second] [(.int ((q1.toInt32).toInt8.toInt32))])) _
    refine XS.i2l X0.here hx rfl (hb hby d4_3) rfl ?_
    show Steps p.tables e below (s₁.setTop (mkF m 4 #[.val (.long q1), .second, .val (.long q2), .second] [(.long (((q1.toInt32).toInt8.toInt32).toInt64))])) _
    refine XS.lloadN X0.here hx rfl (hb hby d4_4) rfl ?_
    show Steps p.tables e below (s₁.setTop (mkF m 5 #[.val (.long q1), .second, .val (.long q2), .second] [(.long q1), (.long (((q1.toInt32).toInt8.toInt32).toInt64))])) _
    refine XS.lcmp X0.here hx rfl (hb hby d4_5) rfl ?_
    show Steps p.tables e below (s₁.setTop (mkF m 6 #[.val (.long q1), .second, .val (.long q2), .second] [(.int (lcmpW (((q1.toInt32).toInt8.toInt32).toInt64) q1))])) _
    refine XS.ifYes X0.here hx rfl (pc0 := 6) (pc' := 20) rfl (hb hby d4_6) rfl ((if0 _ _).trans (feq hc6).2) (by decide) (by decide) ?_
    show Steps p.tables e below (s₁.setTop (mkF m 20 #[.val (.long q1), .second, .val (.long q2), .second] [])) _
    refine XS.lloadN X0.here hx rfl (hb hby d4_20) rfl ?_
    show Steps p.tables e below (s₁.setTop (mkF m 21 #[.val (.long q1), .second, .val (.long q2), .second] [(.long q1)])) _
    refine XS.l2i X0.here hx rfl (hb hby d4_21) rfl ?_
    show Steps p.tables e below (s₁.setTop (mkF m 22 #[.val (.long q1), .second, .val (.long q2), .second] [(.int (q1.toInt32))])) _
    refine XS.i2s X0.here hx rfl (hb hby d4_22) rfl ?_
    show Steps p.tables e below (s₁.setTop (mkF m 23 #[.val (.long q1), .second, .val (.long q2), .second] [(.int ((q1.toInt32).toInt16.toInt32))])) _
    refine XS.i2l X0.here hx rfl (hb hby d4_23) rfl ?_
    show Steps p.tables e below (s₁.setTop (mkF m 24 #[.val (.long q1), .second, .val (.long q2), .second] [(.long (((q1.toInt32).toInt16.toInt32).toInt64))])) _
    refine XS.lloadN X0.here hx rfl (hb hby d4_24) rfl ?_
    show Steps p.tables e below (s₁.setTop (mkF m 25 #[.val (.long q1), .second, .val (.long q2), .second] [(.long q1), (.long (((q1.toInt32).toInt16.toInt32).toInt64))])) _
    refine XS.lcmp X0.here hx rfl (hb hby d4_25) rfl ?_
    show Steps p.tables e below (s₁.setTop (mkF m 26 #[.val (.long q1), .second, .val (.long q2), .second] [(.int (lcmpW (((q1.toInt32).toInt16.toInt32).toInt64) q1))])) _
    refine XS.ifNo X0.here hx rfl (hb hby d4_26) rfl ((if0 _ _).trans (teq hc26).2) ?_
    show Steps p.tables e below (s₁.setTop (mkF m 29 #[.val (.long q1), .second, .val (.long q2), .second] [])) _
    refine XS.lloadN X0.here hx rfl (hb hby d4_29) rfl ?_
    show Steps p.tables e below (s₁.setTop (mkF m 30 #[.val (.long q1), .second, .val (.long q2), .second] [(.long q2)])) _
    refine XS.l2i X0.here hx rfl (hb hby d4_30) rfl ?_
    show Steps p.tables e below (s₁.setTop (mkF m 31 #[.val (.long q1), .second, .val (.long q2), .second] [(.int (q2.toInt32))])) _
    refine XS.i2s X0.here hx rfl (hb hby d4_31) rfl ?_
    show Steps p.tables e below (s₁.setTop (mkF m 32 #[.val (.long q1), .second, .val (.long q2), .second] [(.int ((q2.toInt32).toInt16.toInt32))])) _
    refine XS.i2l X0.here hx rfl (hb hby d4_32) rfl ?_
    show Steps p.tables e below (s₁.setTop (mkF m 33 #[.val (.long q1), .second, .val (.long q2), .second] [(.long (((q2.toInt32).toInt16.toInt32).toInt64))])) _
    refine XS.lloadN X0.here hx rfl (hb hby d4_33) rfl ?_
    show Steps p.tables e below (s₁.setTop (mkF m 34 #[.val (.long q1), .second, .val (.long q2), .second] [(.long q2), (.long (((q2.toInt32).toInt16.toInt32).toInt64))])) _
    refine XS.lcmp X0.here hx rfl (hb hby d4_34) rfl ?_
    show Steps p.tables e below (s₁.setTop (mkF m 35 #[.val (.long q1), .second, .val (.long q2), .second] [(.int (lcmpW (((q2.toInt32).toInt16.toInt32).toInt64) q2))])) _
    refine XS.ifYes X0.here hx rfl (pc0 := 35) (pc' := 40) rfl (hb hby d4_35) rfl ((if0 _ _).trans (feq hc35).2) (by decide) (by decide) ?_
    show Steps p.tables e below (s₁.setTop (mkF m 40 #[.val (.long q1), .second, .val (.long q2), .second] [])) _
    refine XS.lloadN X0.here hx rfl (hb hby d4_40) rfl ?_
    show Steps p.tables e below (s₁.setTop (mkF m 41 #[.val (.long q1), .second, .val (.long q2), .second] [(.long q1)])) _
    refine XS.l2i X0.here hx rfl (hb hby d4_41) rfl ?_
    show Steps p.tables e below (s₁.setTop (mkF m 42 #[.val (.long q1), .second, .val (.long q2), .second] [(.int (q1.toInt32))])) _
    refine XS.i2l X0.here hx rfl (hb hby d4_42) rfl ?_
    show Steps p.tables e below (s₁.setTop (mkF m 43 #[.val (.long q1), .second, .val (.long q2), .second] [(.long ((q1.toInt32).toInt64))])) _
    refine XS.lloadN X0.here hx rfl (hb hby d4_43) rfl ?_
    show Steps p.tables e below (s₁.setTop (mkF m 44 #[.val (.long q1), .second, .val (.long q2), .second] [(.long q1), (.long ((q1.toInt32).toInt64))])) _
    refine XS.lcmp X0.here hx rfl (hb hby d4_44) rfl ?_
    show Steps p.tables e below (s₁.setTop (mkF m 45 #[.val (.long q1), .second, .val (.long q2), .second] [(.int (lcmpW ((q1.toInt32).toInt64) q1))])) _
    refine XS.ifNo X0.here hx rfl (hb hby d4_45) rfl ((if0 _ _).trans (teq hc45).2) ?_
    show Steps p.tables e below (s₁.setTop (mkF m 48 #[.val (.long q1), .second, .val (.long q2), .second] [])) _
    refine XS.lloadN X0.here hx rfl (hb hby d4_48) rfl ?_
    show Steps p.tables e below (s₁.setTop (mkF m 49 #[.val (.long q1), .second, .val (.long q2), .second] [(.long q2)])) _
    refine XS.l2i X0.here hx rfl (hb hby d4_49) rfl ?_
    show Steps p.tables e below (s₁.setTop (mkF m 50 #[.val (.long q1), .second, .val (.long q2), .second] [(.int (q2.toInt32))])) _
    refine XS.i2l X0.here hx rfl (hb hby d4_50) rfl ?_
    show Steps p.tables e below (s₁.setTop (mkF m 51 #[.val (.long q1), .second, .val (.long q2), .second] [(.long ((q2.toInt32).toInt64))])) _
    refine XS.lloadN X0.here hx rfl (hb hby d4_51) rfl ?_
    show Steps p.tables e below (s₁.setTop (mkF m 52 #[.val (.long q1), .second, .val (.long q2), .second] [(.long q2), (.long ((q2.toInt32).toInt64))])) _
    refine XS.lcmp X0.here hx rfl (hb hby d4_52) rfl ?_
    show Steps p.tables e below (s₁.setTop (mkF m 53 #[.val (.long q1), .second, .val (.long q2), .second] [(.int (lcmpW ((q2.toInt32).toInt64) q2))])) _
    refine XS.ifYes X0.here hx rfl (pc0 := 53) (pc' := 58) rfl (hb hby d4_53) rfl ((if0 _ _).trans (feq hc53).2) (by decide) (by decide) ?_
    show Steps p.tables e below (s₁.setTop (mkF m 58 #[.val (.long q1), .second, .val (.long q2), .second] [])) _
    refine XS.bipush X0.here hx rfl (hb hby d4_58) ?_
    show Steps p.tables e below (s₁.setTop (mkF m 60 #[.val (.long q1), .second, .val (.long q2), .second] [(.int (8 : Int32))])) _
    exact retI X0 hx Bd.returns (hb hby d4_60) hr
  · show QW (8 : Int32) h0 n0 _ s₁.heap _
    rw [e0]
    exact ⟨rfl, N0, rfl⟩


set_option maxRecDepth 65536 in
set_option maxHeartbeats 40000000 in
theorem rm4_ftff (l : Launch) (Z : State) (a0 : Array Value) (hw : ∀ d ∈ tables_1, d.before a0 Z = true) (ws : List Jvm.Cond) (q1 : Int64) (q2 : Int64) (h0 : Heap) (n0 : Nat) (Z0 : n0 ≤ h0.size) (hc6 : (lcmpW (((q1.toInt32).toInt8.toInt32).toInt64) q1) = (0 : Int32)) (hc15 : ¬ ((lcmpW (((q2.toInt32).toInt8.toInt32).toInt64) q2) = (0 : Int32))) (hc26 : (lcmpW (((q1.toInt32).toInt16.toInt32).toInt64) q1) = (0 : Int32)) (hc35 : (lcmpW (((q2.toInt32).toInt16.toInt32).toInt64) q2) = (0 : Int32)) :
    MetFree l (⟨"com/example/ballpark/ballpark/io/StoreFormatWidthPinLaw", "reference", "(JJ)I"⟩ : MethodName) (head1 (Jvm.Cond.code (⟨"com/example/ballpark/ballpark/io/StoreFormatWidthPinLaw", "reference", "(JJ)I"⟩ : MethodName) method_2_code 4 (some .int) :: ws) ({ frames := 0, cells := 0, slots := 0, locals := 0 } : Room)) (fun a U => a = #[(.long q1), (.long q2)] ∧ Z.Warmed39 U.vm ∧ U.heap = h0) (fun _ _ _ _ _ => True) (fun _ U o U' => ∃ v L, o = .returned v ∧ QW (2 : Int32) h0 n0 v U'.heap L ∧ FrameEnd U o U' L ({ frames := 0, cells := 0, slots := 0, locals := 0 } : Room).cells ({ frames := 0, cells := 0, slots := 0, locals := 0 } : Room).slots) := by
  refine MetFree.of_bodySF (plainFor_of_name pn_4) hisR ?_
  intro p e s m args below meth c s₁ Bd hml0 hP hK
  obtain ⟨rfl, hZ, hh⟩ := hP
  have hx := Bd.exec
  have hby := Bd.bytes
  have hml : c.maxLocals = 4 := hml0
  have hown : s.vm.findClass "com/example/ballpark/ballpark/io/StoreFormatWidthPinLaw" = some m.cls := findClass_of_methodNamed Bd.named
  have hnm := (name_of_methodNamed Bd.named Bd.method).1
  have X0 : Stand p l e ({ frames := 0, cells := 0, slots := 0, locals := 0 } : Room) s m #[(.long q1), (.long q2)] below meth c s₁ [] 0 0 := Stand.of_body Bd
  have e0 : s₁.heap = h0 := by rw [← hh, Bd.state]; rfl
  have N0 := Fr.nil n0
  have pre0 : ∀ t, Steps p.tables e below (s₁.setTop (mkF m 0 #[.val (.long q1), .second, .val (.long q2), .second] [])) t → Steps p.tables e below (s₁.setTop (entryFrame m #[(.long q1), (.long q2)] 4)) t := fun t k => castTop (ef_4 m q1 q2) k

  obtain ⟨fs, hr, hrun, hended, hW, hsame⟩ := X0.leave (v := some (.int (2 : Int32))) (fun h => by rw [Bd.returns] at h; cases h)
  refine ⟨_, _, pre0 _ ?_, hrun, hended, _, _, rfl, ?_, ⟨_, rfl⟩, hW, hsame.mono (by decide) (by decide)⟩
  · show Steps p.tables e below (s₁.setTop (mkF m 0 #[.val (.long q1), .second, .val (.long q2), .second] [])) _
    refine XS.lloadN X0.here hx rfl (hb hby d4_0) rfl ?_
    show Steps p.tables e below (s₁.setTop (mkF m 1 #[.val (.long q1), .second, .val (.long q2), .second] [(.long q1)])) _
    refine XS.l2i X0.here hx rfl (hb hby d4_1) rfl ?_
    show Steps p.tables e below (s₁.setTop (mkF m 2 #[.val (.long q1), .second, .val (.long q2), .second] [(.int (q1.toInt32))])) _
    refine XS.i2b X0.here hx rfl (hb hby d4_2) rfl ?_
    show Steps p.tables e below (s₁.setTop (mkF m 3 #[.val (.long q1), .second, .val (.long q2), .second] [(.int ((q1.toInt32).toInt8.toInt32))])) _
    refine XS.i2l X0.here hx rfl (hb hby d4_3) rfl ?_
    show Steps p.tables e below (s₁.setTop (mkF m 4 #[.val (.long q1), .second, .val (.long q2), .second] [(.long (((q1.toInt32).toInt8.toInt32).toInt64))])) _
    refine XS.lloadN X0.here hx rfl (hb hby d4_4) rfl ?_
    show Steps p.tables e below (s₁.setTop (mkF m 5 #[.val (.long q1), .second, .val (.long q2), .second] [(.long q1), (.long (((q1.toInt32).toInt8.toInt32).toInt64))])) _
    refine XS.lcmp X0.here hx rfl (hb hby d4_5) rfl ?_
    show Steps p.tables e below (s₁.setTop (mkF m 6 #[.val (.long q1), .second, .val (.long q2), .second] [(.int (lcmpW (((q1.toInt32).toInt8.toInt32).toInt64) q1))])) _
    refine XS.ifNo X0.here hx rfl (hb hby d4_6) rfl ((if0 _ _).trans (teq hc6).2) ?_
    show Steps p.tables e below (s₁.setTop (mkF m 9 #[.val (.long q1), .second, .val (.long q2), .second] [])) _
    refine XS.lloadN X0.here hx rfl (hb hby d4_9) rfl ?_
    show Steps p.tables e below (s₁.setTop (mkF m 10 #[.val (.long q1), .second, .val (.long q2), .second] [(.long q2)])) _
    refine XS.l2i X0.here hx rfl (hb hby d4_10) rfl ?_
    show Steps p.tables e below (s₁.setTop (mkF m 11 #[.val (.long q1), .second, .val (.long q2), .second] [(.int (q2.toInt32))])) _
    refine XS.i2b X0.here hx rfl (hb hby d4_11) rfl ?_
    show Steps p.tables e below (s₁.setTop (mkF m 12 #[.val (.long q1), .second, .val (.long q2), .second] [(.int ((q2.toInt32).toInt8.toInt32))])) _
    refine XS.i2l X0.here hx rfl (hb hby d4_12) rfl ?_
    show Steps p.tables e below (s₁.setTop (mkF m 13 #[.val (.long q1), .second, .val (.long q2), .second] [(.long (((q2.toInt32).toInt8.toInt32).toInt64))])) _
    refine XS.lloadN X0.here hx rfl (hb hby d4_13) rfl ?_
    show Steps p.tables e below (s₁.setTop (mkF m 14 #[.val (.long q1), .second, .val (.long q2), .second] [(.long q2), (.long (((q2.toInt32).toInt8.toInt32).toInt64))])) _
    refine XS.lcmp X0.here hx rfl (hb hby d4_14) rfl ?_
    show Steps p.tables e below (s₁.setTop (mkF m 15 #[.val (.long q1), .second, .val (.long q2), .second] [(.int (lcmpW (((q2.toInt32).toInt8.toInt32).toInt64) q2))])) _
    refine XS.ifYes X0.here hx rfl (pc0 := 15) (pc' := 20) rfl (hb hby d4_15) rfl ((if0 _ _).trans (feq hc15).2) (by decide) (by decide) ?_
    show Steps p.tables e below (s₁.setTop (mkF m 20 #[.val (.long q1), .second, .val (.long q2), .second] [])) _
    refine XS.lloadN X0.here hx rfl (hb hby d4_20) rfl ?_
    show Steps p.tables e below (s₁.setTop (mkF m 21 #[.val (.long q1), .second, .val (.long q2), .second] [(.long q1)])) _
    refine XS.l2i X0.here hx rfl (hb hby d4_21) rfl ?_
    show Steps p.tables e below (s₁.setTop (mkF m 22 #[.val (.long q1), .second, .val (.long q2), .second] [(.int (q1.toInt32))])) _
    refine XS.i2s X0.here hx rfl (hb hby d4_22) rfl ?_
    show Steps p.tables e below (s₁.setTop (mkF m 23 #[.val (.long q1), .second, .val (.long q2), .second] [(.int ((q1.toInt32).toInt16.toInt32))])) _
    refine XS.i2l X0.here hx rfl (hb hby d4_23) rfl ?_
    show Steps p.tables e below (s₁.setTop (mkF m 24 #[.val (.long q1), .second, .val (.long q2), .second] [(.long (((q1.toInt32).toInt16.toInt32).toInt64))])) _
    refine XS.lloadN X0.here hx rfl (hb hby d4_24) rfl ?_
    show Steps p.tables e below (s₁.setTop (mkF m 25 #[.val (.long q1), .second, .val (.long q2), .second] [(.long q1), (.long (((q1.toInt32).toInt16.toInt32).toInt64))])) _
    refine XS.lcmp X0.here hx rfl (hb hby d4_25) rfl ?_
    show Steps p.tables e below (s₁.setTop (mkF m 26 #[.val (.long q1), .second, .val (.long q2), .second] [(.int (lcmpW (((q1.toInt32).toInt16.toInt32).toInt64) q1))])) _
    refine XS.ifNo X0.here hx rfl (hb hby d4_26) rfl ((if0 _ _).trans (teq hc26).2) ?_
    show Steps p.tables e below (s₁.setTop (mkF m 29 #[.val (.long q1), .second, .val (.long q2), .second] [])) _
    refine XS.lloadN X0.here hx rfl (hb hby d4_29) rfl ?_
    show Steps p.tables e below (s₁.setTop (mkF m 30 #[.val (.long q1), .second, .val (.long q2), .second] [(.long q2)])) _
    refine XS.l2i X0.here hx rfl (hb hby d4_30) rfl ?_
    show Steps p.tables e below (s₁.setTop (mkF m 31 #[.val (.long q1), .second, .val (.long q2), .second] [(.int (q2.toInt32))])) _
    refine XS.i2s X0.here hx rfl (hb hby d4_31) rfl ?_
    show Steps p.tables e below (s₁.setTop (mkF m 32 #[.val (.long q1), .second, .val (.long q2), .second] [(.int ((q2.toInt32).toInt16.toInt32))])) _
    refine XS.i2l X0.here hx rfl (hb hby d4_32) rfl ?_
    show Steps p.tables e below (s₁.setTop (mkF m 33 #[.val (.long q1), .second, .val (.long q2), .second] [(.long (((q2.toInt32).toInt16.toInt32).toInt64))])) _
    refine XS.lloadN X0.here hx rfl (hb hby d4_33) rfl ?_
    show Steps p.tables e below (s₁.setTop (mkF m 34 #[.val (.long q1), .second, .val (.long q2), .second] [(.long q2), (.long (((q2.toInt32).toInt16.toInt32).toInt64))])) _
    refine XS.lcmp X0.here hx rfl (hb hby d4_34) rfl ?_
    show Steps p.tables e below (s₁.setTop (mkF m 35 #[.val (.long q1), .second, .val (.long q2), .second] [(.int (lcmpW (((q2.toInt32).toInt16.toInt32).toInt64) q2))])) _
    refine XS.ifNo X0.here hx rfl (hb hby d4_35) rfl ((if0 _ _).trans (teq hc35).2) ?_
    show Steps p.tables e below (s₁.setTop (mkF m 38 #[.val (.long q1), .second, .val (.long q2), .second] [])) _
    refine XS.iconst X0.here hx rfl (hb hby d4_38) ?_
    show Steps p.tables e below (s₁.setTop (mkF m 39 #[.val (.long q1), .second, .val (.long q2), .second] [(.int (2 : Int32))])) _
    exact retI X0 hx Bd.returns (hb hby d4_39) hr
  · show QW (2 : Int32) h0 n0 _ s₁.heap _
    rw [e0]
    exact ⟨rfl, N0, rfl⟩


set_option maxRecDepth 65536 in
set_option maxHeartbeats 40000000 in
theorem rm4_fttff (l : Launch) (Z : State) (a0 : Array Value) (hw : ∀ d ∈ tables_1, d.before a0 Z = true) (ws : List Jvm.Cond) (q1 : Int64) (q2 : Int64) (h0 : Heap) (n0 : Nat) (Z0 : n0 ≤ h0.size) (hc6 : (lcmpW (((q1.toInt32).toInt8.toInt32).toInt64) q1) = (0 : Int32)) (hc15 : ¬ ((lcmpW (((q2.toInt32).toInt8.toInt32).toInt64) q2) = (0 : Int32))) (hc26 : ¬ ((lcmpW (((q1.toInt32).toInt16.toInt32).toInt64) q1) = (0 : Int32))) (hc45 : (lcmpW ((q1.toInt32).toInt64) q1) = (0 : Int32)) (hc53 : (lcmpW ((q2.toInt32).toInt64) q2) = (0 : Int32)) :
    MetFree l (⟨"com/example/ballpark/ballpark/io/StoreFormatWidthPinLaw", "reference", "(JJ)I"⟩ : MethodName) (head1 (Jvm.Cond.code (⟨"com/example/ballpark/ballpark/io/StoreFormatWidthPinLaw", "reference", "(JJ)I"⟩ : MethodName) method_2_code 4 (some .int) :: ws) ({ frames := 0, cells := 0, slots := 0, locals := 0 } : Room)) (fun a U => a = #[(.long q1), (.long q2)] ∧ Z.Warmed39 U.vm ∧ U.heap = h0) (fun _ _ _ _ _ => True) (fun _ U o U' => ∃ v L, o = .returned v ∧ QW (4 : Int32) h0 n0 v U'.heap L ∧ FrameEnd U o U' L ({ frames := 0, cells := 0, slots := 0, locals := 0 } : Room).cells ({ frames := 0, cells := 0, slots := 0, locals := 0 } : Room).slots) := by
  refine MetFree.of_bodySF (plainFor_of_name pn_4) hisR ?_
  intro p e s m args below meth c s₁ Bd hml0 hP hK
  obtain ⟨rfl, hZ, hh⟩ := hP
  have hx := Bd.exec
  have hby := Bd.bytes
  have hml : c.maxLocals = 4 := hml0
  have hown : s.vm.findClass "com/example/ballpark/ballpark/io/StoreFormatWidthPinLaw" = some m.cls := findClass_of_methodNamed Bd.named
  have hnm := (name_of_methodNamed Bd.named Bd.method).1
  have X0 : Stand p l e ({ frames := 0, cells := 0, slots := 0, locals := 0 } : Room) s m #[(.long q1), (.long q2)] below meth c s₁ [] 0 0 := Stand.of_body Bd
  have e0 : s₁.heap = h0 := by rw [← hh, Bd.state]; rfl
  have N0 := Fr.nil n0
  have pre0 : ∀ t, Steps p.tables e below (s₁.setTop (mkF m 0 #[.val (.long q1), .second, .val (.long q2), .second] [])) t → Steps p.tables e below (s₁.setTop (entryFrame m #[(.long q1), (.long q2)] 4)) t := fun t k => castTop (ef_4 m q1 q2) k

  obtain ⟨fs, hr, hrun, hended, hW, hsame⟩ := X0.leave (v := some (.int (4 : Int32))) (fun h => by rw [Bd.returns] at h; cases h)
  refine ⟨_, _, pre0 _ ?_, hrun, hended, _, _, rfl, ?_, ⟨_, rfl⟩, hW, hsame.mono (by decide) (by decide)⟩
  · show Steps p.tables e below (s₁.setTop (mkF m 0 #[.val (.long q1), .second, .val (.long q2), .second] [])) _
    refine XS.lloadN X0.here hx rfl (hb hby d4_0) rfl ?_
    show Steps p.tables e below (s₁.setTop (mkF m 1 #[.val (.long q1), .second, .val (.long q2), .second] [(.long q1)])) _
    refine XS.l2i X0.here hx rfl (hb hby d4_1) rfl ?_
    show Steps p.tables e below (s₁.setTop (mkF m 2 #[.val (.long q1), .second, .val (.long q2), .second] [(.int (q1.toInt32))])) _
    refine XS.i2b X0.here hx rfl (hb hby d4_2) rfl ?_
    show Steps p.tables e below (s₁.setTop (mkF m 3 #[.val (.long q1), .second, .val (.long q2), .second] [(.int ((q1.toInt32).toInt8.toInt32))])) _
    refine XS.i2l X0.here hx rfl (hb hby d4_3) rfl ?_
    show Steps p.tables e below (s₁.setTop (mkF m 4 #[.val (.long q1), .second, .val (.long q2), .second] [(.long (((q1.toInt32).toInt8.toInt32).toInt64))])) _
    refine XS.lloadN X0.here hx rfl (hb hby d4_4) rfl ?_
    show Steps p.tables e below (s₁.setTop (mkF m 5 #[.val (.long q1), .second, .val (.long q2), .second] [(.long q1), (.long (((q1.toInt32).toInt8.toInt32).toInt64))])) _
    refine XS.lcmp X0.here hx rfl (hb hby d4_5) rfl ?_
    show Steps p.tables e below (s₁.setTop (mkF m 6 #[.val (.long q1), .second, .val (.long q2), .second] [(.int (lcmpW (((q1.toInt32).toInt8.toInt32).toInt64) q1))])) _
    refine XS.ifNo X0.here hx rfl (hb hby d4_6) rfl ((if0 _ _).trans (teq hc6).2) ?_
    show Steps p.tables e below (s₁.setTop (mkF m 9 #[.val (.long q1), .second, .val (.long q2), .second] [])) _
    refine XS.lloadN X0.here hx rfl (hb hby d4_9) rfl ?_
    show Steps p.tables e below (s₁.setTop (mkF m 10 #[.val (.long q1), .second, .val (.long q2), .second] [(.long q2)])) _
    refine XS.l2i X0.here hx rfl (hb hby d4_10) rfl ?_
    show Steps p.tables e below (s₁.setTop (mkF m 11 #[.val (.long q1), .second, .val (.long q2), .second] [(.int (q2.toInt32))])) _
    refine XS.i2b X0.here hx rfl (hb hby d4_11) rfl ?_
    show Steps p.tables e below (s₁.setTop (mkF m 12 #[.val (.long q1), .second, .val (.long q2), .second] [(.int ((q2.toInt32).toInt8.toInt32))])) _
    refine XS.i2l X0.here hx rfl (hb hby d4_12) rfl ?_
    show Steps p.tables e below (s₁.setTop (mkF m 13 #[.val (.long q1), .second, .val (.long q2), .second] [(.long (((q2.toInt32).toInt8.toInt32).toInt64))])) _
    refine XS.lloadN X0.here hx rfl (hb hby d4_13) rfl ?_
    show Steps p.tables e below (s₁.setTop (mkF m 14 #[.val (.long q1), .second, .val (.long q2), .second] [(.long q2), (.long (((q2.toInt32).toInt8.toInt32).toInt64))])) _
    refine XS.lcmp X0.here hx rfl (hb hby d4_14) rfl ?_
    show Steps p.tables e below (s₁.setTop (mkF m 15 #[.val (.long q1), .second, .val (.long q2), .second] [(.int (lcmpW (((q2.toInt32).toInt8.toInt32).toInt64) q2))])) _
    refine XS.ifYes X0.here hx rfl (pc0 := 15) (pc' := 20) rfl (hb hby d4_15) rfl ((if0 _ _).trans (feq hc15).2) (by decide) (by decide) ?_
    show Steps p.tables e below (s₁.setTop (mkF m 20 #[.val (.long q1), .second, .val (.long q2), .second] [])) _
    refine XS.lloadN X0.here hx rfl (hb hby d4_20) rfl ?_
    show Steps p.tables e below (s₁.setTop (mkF m 21 #[.val (.long q1), .second, .val (.long q2), .second] [(.long q1)])) _
    refine XS.l2i X0.here hx rfl (hb hby d4_21) rfl ?_
    show Steps p.tables e below (s₁.setTop (mkF m 22 #[.val (.long q1), .second, .val (.long q2), .second] [(.int (q1.toInt32))])) _
    refine XS.i2s X0.here hx rfl (hb hby d4_22) rfl ?_
    show Steps p.tables e below (s₁.setTop (mkF m 23 #[.val (.long q1), .second, .val (.long q2), .second] [(.int ((q1.toInt32).toInt16.toInt32))])) _
    refine XS.i2l X0.here hx rfl (hb hby d4_23) rfl ?_
    show Steps p.tables e below (s₁.setTop (mkF m 24 #[.val (.long q1), .second, .val (.long q2), .second] [(.long (((q1.toInt32).toInt16.toInt32).toInt64))])) _
    refine XS.lloadN X0.here hx rfl (hb hby d4_24) rfl ?_
    show Steps p.tables e below (s₁.setTop (mkF m 25 #[.val (.long q1), .second, .val (.long q2), .second] [(.long q1), (.long (((q1.toInt32).toInt16.toInt32).toInt64))])) _
    refine XS.lcmp X0.here hx rfl (hb hby d4_25) rfl ?_
    show Steps p.tables e below (s₁.setTop (mkF m 26 #[.val (.long q1), .second, .val (.long q2), .second] [(.int (lcmpW (((q1.toInt32).toInt16.toInt32).toInt64) q1))])) _
    refine XS.ifYes X0.here hx rfl (pc0 := 26) (pc' := 40) rfl (hb hby d4_26) rfl ((if0 _ _).trans (feq hc26).2) (by decide) (by decide) ?_
    show Steps p.tables e below (s₁.setTop (mkF m 40 #[.val (.long q1), .second, .val (.long q2), .second] [])) _
    refine XS.lloadN X0.here hx rfl (hb hby d4_40) rfl ?_
    show Steps p.tables e below (s₁.setTop (mkF m 41 #[.val (.long q1), .second, .val (.long q2), .second] [(.long q1)])) _
    refine XS.l2i X0.here hx rfl (hb hby d4_41) rfl ?_
    show Steps p.tables e below (s₁.setTop (mkF m 42 #[.val (.long q1), .second, .val (.long q2), .second] [(.int (q1.toInt32))])) _
    refine XS.i2l X0.here hx rfl (hb hby d4_42) rfl ?_
    show Steps p.tables e below (s₁.setTop (mkF m 43 #[.val (.long q1), .second, .val (.long q2), .second] [(.long ((q1.toInt32).toInt64))])) _
    refine XS.lloadN X0.here hx rfl (hb hby d4_43) rfl ?_
    show Steps p.tables e below (s₁.setTop (mkF m 44 #[.val (.long q1), .second, .val (.long q2), .second] [(.long q1), (.long ((q1.toInt32).toInt64))])) _
    refine XS.lcmp X0.here hx rfl (hb hby d4_44) rfl ?_
    show Steps p.tables e below (s₁.setTop (mkF m 45 #[.val (.long q1), .second, .val (.long q2), .second] [(.int (lcmpW ((q1.toInt32).toInt64) q1))])) _
    refine XS.ifNo X0.here hx rfl (hb hby d4_45) rfl ((if0 _ _).trans (teq hc45).2) ?_
    show Steps p.tables e below (s₁.setTop (mkF m 48 #[.val (.long q1), .second, .val (.long q2), .second] [])) _
    refine XS.lloadN X0.here hx rfl (hb hby d4_48) rfl ?_
    show Steps p.tables e below (s₁.setTop (mkF m 49 #[.val (.long q1), .second, .val (.long q2), .second] [(.long q2)])) _
    refine XS.l2i X0.here hx rfl (hb hby d4_49) rfl ?_
    show Steps p.tables e below (s₁.setTop (mkF m 50 #[.val (.long q1), .second, .val (.long q2), .second] [(.int (q2.toInt32))])) _
    refine XS.i2l X0.here hx rfl (hb hby d4_50) rfl ?_
    show Steps p.tables e below (s₁.setTop (mkF m 51 #[.val (.long q1), .second, .val (.long q2), .second] [(.long ((q2.toInt32).toInt64))])) _
    refine XS.lloadN X0.here hx rfl (hb hby d4_51) rfl ?_
    show Steps p.tables e below (s₁.setTop (mkF m 52 #[.val (.long q1), .second, .val (.long q2), .second] [(.long q2), (.long ((q2.toInt32).toInt64))])) _
    refine XS.lcmp X0.here hx rfl (hb hby d4_52) rfl ?_
    show Steps p.tables e below (s₁.setTop (mkF m 53 #[.val (.long q1), .second, .val (.long q2), .second] [(.int (lcmpW ((q2.toInt32).toInt64) q2))])) _
    refine XS.ifNo X0.here hx rfl (hb hby d4_53) rfl ((if0 _ _).trans (teq hc53).2) ?_
    show Steps p.tables e below (s₁.setTop (mkF m 56 #[.val (.long q1), .second, .val (.long q2), .second] [])) _
    refine XS.iconst X0.here hx rfl (hb hby d4_56) ?_
    show Steps p.tables e below (s₁.setTop (mkF m 57 #[.val (.long q1), .second, .val (.long q2), .second] [(.int (4 : Int32))])) _
    exact retI X0 hx Bd.returns (hb hby d4_57) hr
  · show QW (4 : Int32) h0 n0 _ s₁.heap _
    rw [e0]
    exact ⟨rfl, N0, rfl⟩


set_option maxRecDepth 65536 in
set_option maxHeartbeats 40000000 in
theorem rm4_fttt (l : Launch) (Z : State) (a0 : Array Value) (hw : ∀ d ∈ tables_1, d.before a0 Z = true) (ws : List Jvm.Cond) (q1 : Int64) (q2 : Int64) (h0 : Heap) (n0 : Nat) (Z0 : n0 ≤ h0.size) (hc6 : (lcmpW (((q1.toInt32).toInt8.toInt32).toInt64) q1) = (0 : Int32)) (hc15 : ¬ ((lcmpW (((q2.toInt32).toInt8.toInt32).toInt64) q2) = (0 : Int32))) (hc26 : ¬ ((lcmpW (((q1.toInt32).toInt16.toInt32).toInt64) q1) = (0 : Int32))) (hc45 : ¬ ((lcmpW ((q1.toInt32).toInt64) q1) = (0 : Int32))) :
    MetFree l (⟨"com/example/ballpark/ballpark/io/StoreFormatWidthPinLaw", "reference", "(JJ)I"⟩ : MethodName) (head1 (Jvm.Cond.code (⟨"com/example/ballpark/ballpark/io/StoreFormatWidthPinLaw", "reference", "(JJ)I"⟩ : MethodName) method_2_code 4 (some .int) :: ws) ({ frames := 0, cells := 0, slots := 0, locals := 0 } : Room)) (fun a U => a = #[(.long q1), (.long q2)] ∧ Z.Warmed39 U.vm ∧ U.heap = h0) (fun _ _ _ _ _ => True) (fun _ U o U' => ∃ v L, o = .returned v ∧ QW (8 : Int32) h0 n0 v U'.heap L ∧ FrameEnd U o U' L ({ frames := 0, cells := 0, slots := 0, locals := 0 } : Room).cells ({ frames := 0, cells := 0, slots := 0, locals := 0 } : Room).slots) := by
  refine MetFree.of_bodySF (plainFor_of_name pn_4) hisR ?_
  intro p e s m args below meth c s₁ Bd hml0 hP hK
  obtain ⟨rfl, hZ, hh⟩ := hP
  have hx := Bd.exec
  have hby := Bd.bytes
  have hml : c.maxLocals = 4 := hml0
  have hown : s.vm.findClass "com/example/ballpark/ballpark/io/StoreFormatWidthPinLaw" = some m.cls := findClass_of_methodNamed Bd.named
  have hnm := (name_of_methodNamed Bd.named Bd.method).1
  have X0 : Stand p l e ({ frames := 0, cells := 0, slots := 0, locals := 0 } : Room) s m #[(.long q1), (.long q2)] below meth c s₁ [] 0 0 := Stand.of_body Bd
  have e0 : s₁.heap = h0 := by rw [← hh, Bd.state]; rfl
  have N0 := Fr.nil n0
  have pre0 : ∀ t, Steps p.tables e below (s₁.setTop (mkF m 0 #[.val (.long q1), .second, .val (.long q2), .second] [])) t → Steps p.tables e below (s₁.setTop (entryFrame m #[(.long q1), (.long q2)] 4)) t := fun t k => castTop (ef_4 m q1 q2) k

  obtain ⟨fs, hr, hrun, hended, hW, hsame⟩ := X0.leave (v := some (.int (8 : Int32))) (fun h => by rw [Bd.returns] at h; cases h)
  refine ⟨_, _, pre0 _ ?_, hrun, hended, _, _, rfl, ?_, ⟨_, rfl⟩, hW, hsame.mono (by decide) (by decide)⟩
  · show Steps p.tables e below (s₁.setTop (mkF m 0 #[.val (.long q1), .second, .val (.long q2), .second] [])) _
    refine XS.lloadN X0.here hx rfl (hb hby d4_0) rfl ?_
    show Steps p.tables e below (s₁.setTop (mkF m 1 #[.val (.long q1), .second, .val (.long q2), .second] [(.long q1)])) _
    refine XS.l2i X0.here hx rfl (hb hby d4_1) rfl ?_
    show Steps p.tables e below (s₁.setTop (mkF m 2 #[.val (.long q1), .second, .val (.long q2), .second] [(.int (q1.toInt32))])) _
    refine XS.i2b X0.here hx rfl (hb hby d4_2) rfl ?_
    show Steps p.tables e below (s₁.setTop (mkF m 3 #[.val (.long q1), .second, .val (.long q2), .second] [(.int ((q1.toInt32).toInt8.toInt32))])) _
    refine XS.i2l X0.here hx rfl (hb hby d4_3) rfl ?_
    show Steps p.tables e below (s₁.setTop (mkF m 4 #[.val (.long q1), .second, .val (.long q2), .second] [(.long (((q1.toInt32).toInt8.toInt32).toInt64))])) _
    refine XS.lloadN X0.here hx rfl (hb hby d4_4) rfl ?_
    show Steps p.tables e below (s₁.setTop (mkF m 5 #[.val (.long q1), .second, .val (.long q2), .second] [(.long q1), (.long (((q1.toInt32).toInt8.toInt32).toInt64))])) _
    refine XS.lcmp X0.here hx rfl (hb hby d4_5) rfl ?_
    show Steps p.tables e below (s₁.setTop (mkF m 6 #[.val (.long q1), .second, .val (.long q2), .second] [(.int (lcmpW (((q1.toInt32).toInt8.toInt32).toInt64) q1))])) _
    refine XS.ifNo X0.here hx rfl (hb hby d4_6) rfl ((if0 _ _).trans (teq hc6).2) ?_
    show Steps p.tables e below (s₁.setTop (mkF m 9 #[.val (.long q1), .second, .val (.long q2), .second] [])) _
    refine XS.lloadN X0.here hx rfl (hb hby d4_9) rfl ?_
    show Steps p.tables e below (s₁.setTop (mkF m 10 #[.val (.long q1), .second, .val (.long q2), .second] [(.long q2)])) _
    refine XS.l2i X0.here hx rfl (hb hby d4_10) rfl ?_
    show Steps p.tables e below (s₁.setTop (mkF m 11 #[.val (.long q1), .second, .val (.long q2), .second] [(.int (q2.toInt32))])) _
    refine XS.i2b X0.here hx rfl (hb hby d4_11) rfl ?_
    show Steps p.tables e below (s₁.setTop (mkF m 12 #[.val (.long q1), .second, .val (.long q2), .second] [(.int ((q2.toInt32).toInt8.toInt32))])) _
    refine XS.i2l X0.here hx rfl (hb hby d4_12) rfl ?_
    show Steps p.tables e below (s₁.setTop (mkF m 13 #[.val (.long q1), .second, .val (.long q2), .second] [(.long (((q2.toInt32).toInt8.toInt32).toInt64))])) _
    refine XS.lloadN X0.here hx rfl (hb hby d4_13) rfl ?_
    show Steps p.tables e below (s₁.setTop (mkF m 14 #[.val (.long q1), .second, .val (.long q2), .second] [(.long q2), (.long (((q2.toInt32).toInt8.toInt32).toInt64))])) _
    refine XS.lcmp X0.here hx rfl (hb hby d4_14) rfl ?_
    show Steps p.tables e below (s₁.setTop (mkF m 15 #[.val (.long q1), .second, .val (.long q2), .second] [(.int (lcmpW (((q2.toInt32).toInt8.toInt32).toInt64) q2))])) _
    refine XS.ifYes X0.here hx rfl (pc0 := 15) (pc' := 20) rfl (hb hby d4_15) rfl ((if0 _ _).trans (feq hc15).2) (by decide) (by decide) ?_
    show Steps p.tables e below (s₁.setTop (mkF m 20 #[.val (.long q1), .second, .val (.long q2), .second] [])) _
    refine XS.lloadN X0.here hx rfl (hb hby d4_20) rfl ?_
    show Steps p.tables e below (s₁.setTop (mkF m 21 #[.val (.long q1), .second, .val (.long q2), .second] [(.long q1)])) _
    refine XS.l2i X0.here hx rfl (hb hby d4_21) rfl ?_
    show Steps p.tables e below (s₁.setTop (mkF m 22 #[.val (.long q1), .second, .val (.long q2), .second] [(.int (q1.toInt32))])) _
    refine XS.i2s X0.here hx rfl (hb hby d4_22) rfl ?_
    show Steps p.tables e below (s₁.setTop (mkF m 23 #[.val (.long q1), .second, .val (.long q2), .second] [(.int ((q1.toInt32).toInt16.toInt32))])) _
    refine XS.i2l X0.here hx rfl (hb hby d4_23) rfl ?_
    show Steps p.tables e below (s₁.setTop (mkF m 24 #[.val (.long q1), .second, .val (.long q2), .second] [(.long (((q1.toInt32).toInt16.toInt32).toInt64))])) _
    refine XS.lloadN X0.here hx rfl (hb hby d4_24) rfl ?_
    show Steps p.tables e below (s₁.setTop (mkF m 25 #[.val (.long q1), .second, .val (.long q2), .second] [(.long q1), (.long (((q1.toInt32).toInt16.toInt32).toInt64))])) _
    refine XS.lcmp X0.here hx rfl (hb hby d4_25) rfl ?_
    show Steps p.tables e below (s₁.setTop (mkF m 26 #[.val (.long q1), .second, .val (.long q2), .second] [(.int (lcmpW (((q1.toInt32).toInt16.toInt32).toInt64) q1))])) _
    refine XS.ifYes X0.here hx rfl (pc0 := 26) (pc' := 40) rfl (hb hby d4_26) rfl ((if0 _ _).trans (feq hc26).2) (by decide) (by decide) ?_
    show Steps p.tables e below (s₁.setTop (mkF m 40 #[.val (.long q1), .second, .val (.long q2), .second] [])) _
    refine XS.lloadN X0.here hx rfl (hb hby d4_40) rfl ?_
    show Steps p.tables e below (s₁.setTop (mkF m 41 #[.val (.long q1), .second, .val (.long q2), .second] [(.long q1)])) _
    refine XS.l2i X0.here hx rfl (hb hby d4_41) rfl ?_
    show Steps p.tables e below (s₁.setTop (mkF m 42 #[.val (.long q1), .second, .val (.long q2), .second] [(.int (q1.toInt32))])) _
    refine XS.i2l X0.here hx rfl (hb hby d4_42) rfl ?_
    show Steps p.tables e below (s₁.setTop (mkF m 43 #[.val (.long q1), .second, .val (.long q2), .second] [(.long ((q1.toInt32).toInt64))])) _
    refine XS.lloadN X0.here hx rfl (hb hby d4_43) rfl ?_
    show Steps p.tables e below (s₁.setTop (mkF m 44 #[.val (.long q1), .second, .val (.long q2), .second] [(.long q1), (.long ((q1.toInt32).toInt64))])) _
    refine XS.lcmp X0.here hx rfl (hb hby d4_44) rfl ?_
    show Steps p.tables e below (s₁.setTop (mkF m 45 #[.val (.long q1), .second, .val (.long q2), .second] [(.int (lcmpW ((q1.toInt32).toInt64) q1))])) _
    refine XS.ifYes X0.here hx rfl (pc0 := 45) (pc' := 58) rfl (hb hby d4_45) rfl ((if0 _ _).trans (feq hc45).2) (by decide) (by decide) ?_
    show Steps p.tables e below (s₁.setTop (mkF m 58 #[.val (.long q1), .second, .val (.long q2), .second] [])) _
    refine XS.bipush X0.here hx rfl (hb hby d4_58) ?_
    show Steps p.tables e below (s₁.setTop (mkF m 60 #[.val (.long q1), .second, .val (.long q2), .second] [(.int (8 : Int32))])) _
    exact retI X0 hx Bd.returns (hb hby d4_60) hr
  · show QW (8 : Int32) h0 n0 _ s₁.heap _
    rw [e0]
    exact ⟨rfl, N0, rfl⟩


set_option maxRecDepth 65536 in
set_option maxHeartbeats 40000000 in
theorem rm4_fttft (l : Launch) (Z : State) (a0 : Array Value) (hw : ∀ d ∈ tables_1, d.before a0 Z = true) (ws : List Jvm.Cond) (q1 : Int64) (q2 : Int64) (h0 : Heap) (n0 : Nat) (Z0 : n0 ≤ h0.size) (hc6 : (lcmpW (((q1.toInt32).toInt8.toInt32).toInt64) q1) = (0 : Int32)) (hc15 : ¬ ((lcmpW (((q2.toInt32).toInt8.toInt32).toInt64) q2) = (0 : Int32))) (hc26 : ¬ ((lcmpW (((q1.toInt32).toInt16.toInt32).toInt64) q1) = (0 : Int32))) (hc45 : (lcmpW ((q1.toInt32).toInt64) q1) = (0 : Int32)) (hc53 : ¬ ((lcmpW ((q2.toInt32).toInt64) q2) = (0 : Int32))) :
    MetFree l (⟨"com/example/ballpark/ballpark/io/StoreFormatWidthPinLaw", "reference", "(JJ)I"⟩ : MethodName) (head1 (Jvm.Cond.code (⟨"com/example/ballpark/ballpark/io/StoreFormatWidthPinLaw", "reference", "(JJ)I"⟩ : MethodName) method_2_code 4 (some .int) :: ws) ({ frames := 0, cells := 0, slots := 0, locals := 0 } : Room)) (fun a U => a = #[(.long q1), (.long q2)] ∧ Z.Warmed39 U.vm ∧ U.heap = h0) (fun _ _ _ _ _ => True) (fun _ U o U' => ∃ v L, o = .returned v ∧ QW (8 : Int32) h0 n0 v U'.heap L ∧ FrameEnd U o U' L ({ frames := 0, cells := 0, slots := 0, locals := 0 } : Room).cells ({ frames := 0, cells := 0, slots := 0, locals := 0 } : Room).slots) := by
  refine MetFree.of_bodySF (plainFor_of_name pn_4) hisR ?_
  intro p e s m args below meth c s₁ Bd hml0 hP hK
  obtain ⟨rfl, hZ, hh⟩ := hP
  have hx := Bd.exec
  have hby := Bd.bytes
  have hml : c.maxLocals = 4 := hml0
  have hown : s.vm.findClass "com/example/ballpark/ballpark/io/StoreFormatWidthPinLaw" = some m.cls := findClass_of_methodNamed Bd.named
  have hnm := (name_of_methodNamed Bd.named Bd.method).1
  have X0 : Stand p l e ({ frames := 0, cells := 0, slots := 0, locals := 0 } : Room) s m #[(.long q1), (.long q2)] below meth c s₁ [] 0 0 := Stand.of_body Bd
  have e0 : s₁.heap = h0 := by rw [← hh, Bd.state]; rfl
  have N0 := Fr.nil n0
  have pre0 : ∀ t, Steps p.tables e below (s₁.setTop (mkF m 0 #[.val (.long q1), .second, .val (.long q2), .second] [])) t → Steps p.tables e below (s₁.setTop (entryFrame m #[(.long q1), (.long q2)] 4)) t := fun t k => castTop (ef_4 m q1 q2) k

  obtain ⟨fs, hr, hrun, hended, hW, hsame⟩ := X0.leave (v := some (.int (8 : Int32))) (fun h => by rw [Bd.returns] at h; cases h)
  refine ⟨_, _, pre0 _ ?_, hrun, hended, _, _, rfl, ?_, ⟨_, rfl⟩, hW, hsame.mono (by decide) (by decide)⟩
  · show Steps p.tables e below (s₁.setTop (mkF m 0 #[.val (.long q1), .second, .val (.long q2), .second] [])) _
    refine XS.lloadN X0.here hx rfl (hb hby d4_0) rfl ?_
    show Steps p.tables e below (s₁.setTop (mkF m 1 #[.val (.long q1), .second, .val (.long q2), .second] [(.long q1)])) _
    refine XS.l2i X0.here hx rfl (hb hby d4_1) rfl ?_
    show Steps p.tables e below (s₁.setTop (mkF m 2 #[.val (.long q1), .second, .val (.long q2), .second] [(.int (q1.toInt32))])) _
    refine XS.i2b X0.here hx rfl (hb hby d4_2) rfl ?_
    show Steps p.tables e below (s₁.setTop (mkF m 3 #[.val (.long q1), .second, .val (.long q2), .second] [(.int ((q1.toInt32).toInt8.toInt32))])) _
    refine XS.i2l X0.here hx rfl (hb hby d4_3) rfl ?_
    show Steps p.tables e below (s₁.setTop (mkF m 4 #[.val (.long q1), .second, .val (.long q2), .second] [(.long (((q1.toInt32).toInt8.toInt32).toInt64))])) _
    refine XS.lloadN X0.here hx rfl (hb hby d4_4) rfl ?_
    show Steps p.tables e below (s₁.setTop (mkF m 5 #[.val (.long q1), .second, .val (.long q2), .second] [(.long q1), (.long (((q1.toInt32).toInt8.toInt32).toInt64))])) _
    refine XS.lcmp X0.here hx rfl (hb hby d4_5) rfl ?_
    show Steps p.tables e below (s₁.setTop (mkF m 6 #[.val (.long q1), .second, .val (.long q2), .second] [(.int (lcmpW (((q1.toInt32).toInt8.toInt32).toInt64) q1))])) _
    refine XS.ifNo X0.here hx rfl (hb hby d4_6) rfl ((if0 _ _).trans (teq hc6).2) ?_
    show Steps p.tables e below (s₁.setTop (mkF m 9 #[.val (.long q1), .second, .val (.long q2), .second] [])) _
    refine XS.lloadN X0.here hx rfl (hb hby d4_9) rfl ?_
    show Steps p.tables e below (s₁.setTop (mkF m 10 #[.val (.long q1), .second, .val (.long q2), .second] [(.long q2)])) _
    refine XS.l2i X0.here hx rfl (hb hby d4_10) rfl ?_
    show Steps p.tables e below (s₁.setTop (mkF m 11 #[.val (.long q1), .second, .val (.long q2), .second] [(.int (q2.toInt32))])) _
    refine XS.i2b X0.here hx rfl (hb hby d4_11) rfl ?_
    show Steps p.tables e below (s₁.setTop (mkF m 12 #[.val (.long q1), .second, .val (.long q2), .second] [(.int ((q2.toInt32).toInt8.toInt32))])) _
    refine XS.i2l X0.here hx rfl (hb hby d4_12) rfl ?_
    show Steps p.tables e below (s₁.setTop (mkF m 13 #[.val (.long q1), .second, .val (.long q2), .second] [(.long (((q2.toInt32).toInt8.toInt32).toInt64))])) _
    refine XS.lloadN X0.here hx rfl (hb hby d4_13) rfl ?_
    show Steps p.tables e below (s₁.setTop (mkF m 14 #[.val (.long q1), .second, .val (.long q2), .second] [(.long q2), (.long (((q2.toInt32).toInt8.toInt32).toInt64))])) _
    refine XS.lcmp X0.here hx rfl (hb hby d4_14) rfl ?_
    show Steps p.tables e below (s₁.setTop (mkF m 15 #[.val (.long q1), .second, .val (.long q2), .second] [(.int (lcmpW (((q2.toInt32).toInt8.toInt32).toInt64) q2))])) _
    refine XS.ifYes X0.here hx rfl (pc0 := 15) (pc' := 20) rfl (hb hby d4_15) rfl ((if0 _ _).trans (feq hc15).2) (by decide) (by decide) ?_
    show Steps p.tables e below (s₁.setTop (mkF m 20 #[.val (.long q1), .second, .val (.long q2), .second] [])) _
    refine XS.lloadN X0.here hx rfl (hb hby d4_20) rfl ?_
    show Steps p.tables e below (s₁.setTop (mkF m 21 #[.val (.long q1), .second, .val (.long q2), .second] [(.long q1)])) _
    refine XS.l2i X0.here hx rfl (hb hby d4_21) rfl ?_
    show Steps p.tables e below (s₁.setTop (mkF m 22 #[.val (.long q1), .second, .val (.long q2), .second] [(.int (q1.toInt32))])) _
    refine XS.i2s X0.here hx rfl (hb hby d4_22) rfl ?_
    show Steps p.tables e below (s₁.setTop (mkF m 23 #[.val (.long q1), .second, .val (.long q2), .second] [(.int ((q1.toInt32).toInt16.toInt32))])) _
    refine XS.i2l X0.here hx rfl (hb hby d4_23) rfl ?_
    show Steps p.tables e below (s₁.setTop (mkF m 24 #[.val (.long q1), .second, .val (.long q2), .second] [(.long (((q1.toInt32).toInt16.toInt32).toInt64))])) _
    refine XS.lloadN X0.here hx rfl (hb hby d4_24) rfl ?_
    show Steps p.tables e below (s₁.setTop (mkF m 25 #[.val (.long q1), .second, .val (.long q2), .second] [(.long q1), (.long (((q1.toInt32).toInt16.toInt32).toInt64))])) _
    refine XS.lcmp X0.here hx rfl (hb hby d4_25) rfl ?_
    show Steps p.tables e below (s₁.setTop (mkF m 26 #[.val (.long q1), .second, .val (.long q2), .second] [(.int (lcmpW (((q1.toInt32).toInt16.toInt32).toInt64) q1))])) _
    refine XS.ifYes X0.here hx rfl (pc0 := 26) (pc' := 40) rfl (hb hby d4_26) rfl ((if0 _ _).trans (feq hc26).2) (by decide) (by decide) ?_
    show Steps p.tables e below (s₁.setTop (mkF m 40 #[.val (.long q1), .second, .val (.long q2), .second] [])) _
    refine XS.lloadN X0.here hx rfl (hb hby d4_40) rfl ?_
    show Steps p.tables e below (s₁.setTop (mkF m 41 #[.val (.long q1), .second, .val (.long q2), .second] [(.long q1)])) _
    refine XS.l2i X0.here hx rfl (hb hby d4_41) rfl ?_
    show Steps p.tables e below (s₁.setTop (mkF m 42 #[.val (.long q1), .second, .val (.long q2), .second] [(.int (q1.toInt32))])) _
    refine XS.i2l X0.here hx rfl (hb hby d4_42) rfl ?_
    show Steps p.tables e below (s₁.setTop (mkF m 43 #[.val (.long q1), .second, .val (.long q2), .second] [(.long ((q1.toInt32).toInt64))])) _
    refine XS.lloadN X0.here hx rfl (hb hby d4_43) rfl ?_
    show Steps p.tables e below (s₁.setTop (mkF m 44 #[.val (.long q1), .second, .val (.long q2), .second] [(.long q1), (.long ((q1.toInt32).toInt64))])) _
    refine XS.lcmp X0.here hx rfl (hb hby d4_44) rfl ?_
    show Steps p.tables e below (s₁.setTop (mkF m 45 #[.val (.long q1), .second, .val (.long q2), .second] [(.int (lcmpW ((q1.toInt32).toInt64) q1))])) _
    refine XS.ifNo X0.here hx rfl (hb hby d4_45) rfl ((if0 _ _).trans (teq hc45).2) ?_
    show Steps p.tables e below (s₁.setTop (mkF m 48 #[.val (.long q1), .second, .val (.long q2), .second] [])) _
    refine XS.lloadN X0.here hx rfl (hb hby d4_48) rfl ?_
    show Steps p.tables e below (s₁.setTop (mkF m 49 #[.val (.long q1), .second, .val (.long q2), .second] [(.long q2)])) _
    refine XS.l2i X0.here hx rfl (hb hby d4_49) rfl ?_
    show Steps p.tables e below (s₁.setTop (mkF m 50 #[.val (.long q1), .second, .val (.long q2), .second] [(.int (q2.toInt32))])) _
    refine XS.i2l X0.here hx rfl (hb hby d4_50) rfl ?_
    show Steps p.tables e below (s₁.setTop (mkF m 51 #[.val (.long q1), .second, .val (.long q2), .second] [(.long ((q2.toInt32).toInt64))])) _
    refine XS.lloadN X0.here hx rfl (hb hby d4_51) rfl ?_
    show Steps p.tables e below (s₁.setTop (mkF m 52 #[.val (.long q1), .second, .val (.long q2), .second] [(.long q2), (.long ((q2.toInt32).toInt64))])) _
    refine XS.lcmp X0.here hx rfl (hb hby d4_52) rfl ?_
    show Steps p.tables e below (s₁.setTop (mkF m 53 #[.val (.long q1), .second, .val (.long q2), .second] [(.int (lcmpW ((q2.toInt32).toInt64) q2))])) _
    refine XS.ifYes X0.here hx rfl (pc0 := 53) (pc' := 58) rfl (hb hby d4_53) rfl ((if0 _ _).trans (feq hc53).2) (by decide) (by decide) ?_
    show Steps p.tables e below (s₁.setTop (mkF m 58 #[.val (.long q1), .second, .val (.long q2), .second] [])) _
    refine XS.bipush X0.here hx rfl (hb hby d4_58) ?_
    show Steps p.tables e below (s₁.setTop (mkF m 60 #[.val (.long q1), .second, .val (.long q2), .second] [(.int (8 : Int32))])) _
    exact retI X0 hx Bd.returns (hb hby d4_60) hr
  · show QW (8 : Int32) h0 n0 _ s₁.heap _
    rw [e0]
    exact ⟨rfl, N0, rfl⟩


set_option maxRecDepth 65536 in
set_option maxHeartbeats 40000000 in
theorem rm4_ftftff (l : Launch) (Z : State) (a0 : Array Value) (hw : ∀ d ∈ tables_1, d.before a0 Z = true) (ws : List Jvm.Cond) (q1 : Int64) (q2 : Int64) (h0 : Heap) (n0 : Nat) (Z0 : n0 ≤ h0.size) (hc6 : (lcmpW (((q1.toInt32).toInt8.toInt32).toInt64) q1) = (0 : Int32)) (hc15 : ¬ ((lcmpW (((q2.toInt32).toInt8.toInt32).toInt64) q2) = (0 : Int32))) (hc26 : (lcmpW (((q1.toInt32).toInt16.toInt32).toInt64) q1) = (0 : Int32)) (hc35 : ¬ ((lcmpW (((q2.toInt32).toInt16.toInt32).toInt64) q2) = (0 : Int32))) (hc45 : (lcmpW ((q1.toInt32).toInt64) q1) = (0 : Int32)) (hc53 : (lcmpW ((q2.toInt32).toInt64) q2) = (0 : Int32)) :
    MetFree l (⟨"com/example/ballpark/ballpark/io/StoreFormatWidthPinLaw", "reference", "(JJ)I"⟩ : MethodName) (head1 (Jvm.Cond.code (⟨"com/example/ballpark/ballpark/io/StoreFormatWidthPinLaw", "reference", "(JJ)I"⟩ : MethodName) method_2_code 4 (some .int) :: ws) ({ frames := 0, cells := 0, slots := 0, locals := 0 } : Room)) (fun a U => a = #[(.long q1), (.long q2)] ∧ Z.Warmed39 U.vm ∧ U.heap = h0) (fun _ _ _ _ _ => True) (fun _ U o U' => ∃ v L, o = .returned v ∧ QW (4 : Int32) h0 n0 v U'.heap L ∧ FrameEnd U o U' L ({ frames := 0, cells := 0, slots := 0, locals := 0 } : Room).cells ({ frames := 0, cells := 0, slots := 0, locals := 0 } : Room).slots) := by
  refine MetFree.of_bodySF (plainFor_of_name pn_4) hisR ?_
  intro p e s m args below meth c s₁ Bd hml0 hP hK
  obtain ⟨rfl, hZ, hh⟩ := hP
  have hx := Bd.exec
  have hby := Bd.bytes
  have hml : c.maxLocals = 4 := hml0
  have hown : s.vm.findClass "com/example/ballpark/ballpark/io/StoreFormatWidthPinLaw" = some m.cls := findClass_of_methodNamed Bd.named
  have hnm := (name_of_methodNamed Bd.named Bd.method).1
  have X0 : Stand p l e ({ frames := 0, cells := 0, slots := 0, locals := 0 } : Room) s m #[(.long q1), (.long q2)] below meth c s₁ [] 0 0 := Stand.of_body Bd
  have e0 : s₁.heap = h0 := by rw [← hh, Bd.state]; rfl
  have N0 := Fr.nil n0
  have pre0 : ∀ t, Steps p.tables e below (s₁.setTop (mkF m 0 #[.val (.long q1), .second, .val (.long q2), .second] [])) t → Steps p.tables e below (s₁.setTop (entryFrame m #[(.long q1), (.long q2)] 4)) t := fun t k => castTop (ef_4 m q1 q2) k

  obtain ⟨fs, hr, hrun, hended, hW, hsame⟩ := X0.leave (v := some (.int (4 : Int32))) (fun h => by rw [Bd.returns] at h; cases h)
  refine ⟨_, _, pre0 _ ?_, hrun, hended, _, _, rfl, ?_, ⟨_, rfl⟩, hW, hsame.mono (by decide) (by decide)⟩
  · show Steps p.tables e below (s₁.setTop (mkF m 0 #[.val (.long q1), .second, .val (.long q2), .second] [])) _
    refine XS.lloadN X0.here hx rfl (hb hby d4_0) rfl ?_
    show Steps p.tables e below (s₁.setTop (mkF m 1 #[.val (.long q1), .second, .val (.long q2), .second] [(.long q1)])) _
    refine XS.l2i X0.here hx rfl (hb hby d4_1) rfl ?_
    show Steps p.tables e below (s₁.setTop (mkF m 2 #[.val (.long q1), .second, .val (.long q2), .second] [(.int (q1.toInt32))])) _
    refine XS.i2b X0.here hx rfl (hb hby d4_2) rfl ?_
    show Steps p.tables e below (s₁.setTop (mkF m 3 #[.val (.long q1), .second, .val (.long q2), .second] [(.int ((q1.toInt32).toInt8.toInt32))])) _
    refine XS.i2l X0.here hx rfl (hb hby d4_3) rfl ?_
    show Steps p.tables e below (s₁.setTop (mkF m 4 #[.val (.long q1), .second, .val (.long q2), .second] [(.long (((q1.toInt32).toInt8.toInt32).toInt64))])) _
    refine XS.lloadN X0.here hx rfl (hb hby d4_4) rfl ?_
    show Steps p.tables e below (s₁.setTop (mkF m 5 #[.val (.long q1), .second, .val (.long q2), .second] [(.long q1), (.long (((q1.toInt32).toInt8.toInt32).toInt64))])) _
    refine XS.lcmp X0.here hx rfl (hb hby d4_5) rfl ?_
    show Steps p.tables e below (s₁.setTop (mkF m 6 #[.val (.long q1), .second, .val (.long q2), .second] [(.int (lcmpW (((q1.toInt32).toInt8.toInt32).toInt64) q1))])) _
    refine XS.ifNo X0.here hx rfl (hb hby d4_6) rfl ((if0 _ _).trans (teq hc6).2) ?_
    show Steps p.tables e below (s₁.setTop (mkF m 9 #[.val (.long q1), .second, .val (.long q2), .second] [])) _
    refine XS.lloadN X0.here hx rfl (hb hby d4_9) rfl ?_
    show Steps p.tables e below (s₁.setTop (mkF m 10 #[.val (.long q1), .second, .val (.long q2), .second] [(.long q2)])) _
    refine XS.l2i X0.here hx rfl (hb hby d4_10) rfl ?_
    show Steps p.tables e below (s₁.setTop (mkF m 11 #[.val (.long q1), .second, .val (.long q2), .second] [(.int (q2.toInt32))])) _
    refine XS.i2b X0.here hx rfl (hb hby d4_11) rfl ?_
    show Steps p.tables e below (s₁.setTop (mkF m 12 #[.val (.long q1), .second, .val (.long q2), .second] [(.int ((q2.toInt32).toInt8.toInt32))])) _
    refine XS.i2l X0.here hx rfl (hb hby d4_12) rfl ?_
    show Steps p.tables e below (s₁.setTop (mkF m 13 #[.val (.long q1), .second, .val (.long q2), .second] [(.long (((q2.toInt32).toInt8.toInt32).toInt64))])) _
    refine XS.lloadN X0.here hx rfl (hb hby d4_13) rfl ?_
    show Steps p.tables e below (s₁.setTop (mkF m 14 #[.val (.long q1), .second, .val (.long q2), .second] [(.long q2), (.long (((q2.toInt32).toInt8.toInt32).toInt64))])) _
    refine XS.lcmp X0.here hx rfl (hb hby d4_14) rfl ?_
    show Steps p.tables e below (s₁.setTop (mkF m 15 #[.val (.long q1), .second, .val (.long q2), .second] [(.int (lcmpW (((q2.toInt32).toInt8.toInt32).toInt64) q2))])) _
    refine XS.ifYes X0.here hx rfl (pc0 := 15) (pc' := 20) rfl (hb hby d4_15) rfl ((if0 _ _).trans (feq hc15).2) (by decide) (by decide) ?_
    show Steps p.tables e below (s₁.setTop (mkF m 20 #[.val (.long q1), .second, .val (.long q2), .second] [])) _
    refine XS.lloadN X0.here hx rfl (hb hby d4_20) rfl ?_
    show Steps p.tables e below (s₁.setTop (mkF m 21 #[.val (.long q1), .second, .val (.long q2), .second] [(.long q1)])) _
    refine XS.l2i X0.here hx rfl (hb hby d4_21) rfl ?_
    show Steps p.tables e below (s₁.setTop (mkF m 22 #[.val (.long q1), .second, .val (.long q2), .second] [(.int (q1.toInt32))])) _
    refine XS.i2s X0.here hx rfl (hb hby d4_22) rfl ?_
    show Steps p.tables e below (s₁.setTop (mkF m 23 #[.val (.long q1), .second, .val (.long q2), .second] [(.int ((q1.toInt32).toInt16.toInt32))])) _
    refine XS.i2l X0.here hx rfl (hb hby d4_23) rfl ?_
    show Steps p.tables e below (s₁.setTop (mkF m 24 #[.val (.long q1), .second, .val (.long q2), .second] [(.long (((q1.toInt32).toInt16.toInt32).toInt64))])) _
    refine XS.lloadN X0.here hx rfl (hb hby d4_24) rfl ?_
    show Steps p.tables e below (s₁.setTop (mkF m 25 #[.val (.long q1), .second, .val (.long q2), .second] [(.long q1), (.long (((q1.toInt32).toInt16.toInt32).toInt64))])) _
    refine XS.lcmp X0.here hx rfl (hb hby d4_25) rfl ?_
    show Steps p.tables e below (s₁.setTop (mkF m 26 #[.val (.long q1), .second, .val (.long q2), .second] [(.int (lcmpW (((q1.toInt32).toInt16.toInt32).toInt64) q1))])) _
    refine XS.ifNo X0.here hx rfl (hb hby d4_26) rfl ((if0 _ _).trans (teq hc26).2) ?_
    show Steps p.tables e below (s₁.setTop (mkF m 29 #[.val (.long q1), .second, .val (.long q2), .second] [])) _
    refine XS.lloadN X0.here hx rfl (hb hby d4_29) rfl ?_
    show Steps p.tables e below (s₁.setTop (mkF m 30 #[.val (.long q1), .second, .val (.long q2), .second] [(.long q2)])) _
    refine XS.l2i X0.here hx rfl (hb hby d4_30) rfl ?_
    show Steps p.tables e below (s₁.setTop (mkF m 31 #[.val (.long q1), .second, .val (.long q2), .second] [(.int (q2.toInt32))])) _
    refine XS.i2s X0.here hx rfl (hb hby d4_31) rfl ?_
    show Steps p.tables e below (s₁.setTop (mkF m 32 #[.val (.long q1), .second, .val (.long q2), .second] [(.int ((q2.toInt32).toInt16.toInt32))])) _
    refine XS.i2l X0.here hx rfl (hb hby d4_32) rfl ?_
    show Steps p.tables e below (s₁.setTop (mkF m 33 #[.val (.long q1), .second, .val (.long q2), .second] [(.long (((q2.toInt32).toInt16.toInt32).toInt64))])) _
    refine XS.lloadN X0.here hx rfl (hb hby d4_33) rfl ?_
    show Steps p.tables e below (s₁.setTop (mkF m 34 #[.val (.long q1), .second, .val (.long q2), .second] [(.long q2), (.long (((q2.toInt32).toInt16.toInt32).toInt64))])) _
    refine XS.lcmp X0.here hx rfl (hb hby d4_34) rfl ?_
    show Steps p.tables e below (s₁.setTop (mkF m 35 #[.val (.long q1), .second, .val (.long q2), .second] [(.int (lcmpW (((q2.toInt32).toInt16.toInt32).toInt64) q2))])) _
    refine XS.ifYes X0.here hx rfl (pc0 := 35) (pc' := 40) rfl (hb hby d4_35) rfl ((if0 _ _).trans (feq hc35).2) (by decide) (by decide) ?_
    show Steps p.tables e below (s₁.setTop (mkF m 40 #[.val (.long q1), .second, .val (.long q2), .second] [])) _
    refine XS.lloadN X0.here hx rfl (hb hby d4_40) rfl ?_
    show Steps p.tables e below (s₁.setTop (mkF m 41 #[.val (.long q1), .second, .val (.long q2), .second] [(.long q1)])) _
    refine XS.l2i X0.here hx rfl (hb hby d4_41) rfl ?_
    show Steps p.tables e below (s₁.setTop (mkF m 42 #[.val (.long q1), .second, .val (.long q2), .second] [(.int (q1.toInt32))])) _
    refine XS.i2l X0.here hx rfl (hb hby d4_42) rfl ?_
    show Steps p.tables e below (s₁.setTop (mkF m 43 #[.val (.long q1), .second, .val (.long q2), .second] [(.long ((q1.toInt32).toInt64))])) _
    refine XS.lloadN X0.here hx rfl (hb hby d4_43) rfl ?_
    show Steps p.tables e below (s₁.setTop (mkF m 44 #[.val (.long q1), .second, .val (.long q2), .second] [(.long q1), (.long ((q1.toInt32).toInt64))])) _
    refine XS.lcmp X0.here hx rfl (hb hby d4_44) rfl ?_
    show Steps p.tables e below (s₁.setTop (mkF m 45 #[.val (.long q1), .second, .val (.long q2), .second] [(.int (lcmpW ((q1.toInt32).toInt64) q1))])) _
    refine XS.ifNo X0.here hx rfl (hb hby d4_45) rfl ((if0 _ _).trans (teq hc45).2) ?_
    show Steps p.tables e below (s₁.setTop (mkF m 48 #[.val (.long q1), .second, .val (.long q2), .second] [])) _
    refine XS.lloadN X0.here hx rfl (hb hby d4_48) rfl ?_
    show Steps p.tables e below (s₁.setTop (mkF m 49 #[.val (.long q1), .second, .val (.long q2), .second] [(.long q2)])) _
    refine XS.l2i X0.here hx rfl (hb hby d4_49) rfl ?_
    show Steps p.tables e below (s₁.setTop (mkF m 50 #[.val (.long q1), .second, .val (.long q2), .second] [(.int (q2.toInt32))])) _
    refine XS.i2l X0.here hx rfl (hb hby d4_50) rfl ?_
    show Steps p.tables e below (s₁.setTop (mkF m 51 #[.val (.long q1), .second, .val (.long q2), .second] [(.long ((q2.toInt32).toInt64))])) _
    refine XS.lloadN X0.here hx rfl (hb hby d4_51) rfl ?_
    show Steps p.tables e below (s₁.setTop (mkF m 52 #[.val (.long q1), .second, .val (.long q2), .second] [(.long q2), (.long ((q2.toInt32).toInt64))])) _
    refine XS.lcmp X0.here hx rfl (hb hby d4_52) rfl ?_
    show Steps p.tables e below (s₁.setTop (mkF m 53 #[.val (.long q1), .second, .val (.long q2), .second] [(.int (lcmpW ((q2.toInt32).toInt64) q2))])) _
    refine XS.ifNo X0.here hx rfl (hb hby d4_53) rfl ((if0 _ _).trans (teq hc53).2) ?_
    show Steps p.tables e below (s₁.setTop (mkF m 56 #[.val (.long q1), .second, .val (.long q2), .second] [])) _
    refine XS.iconst X0.here hx rfl (hb hby d4_56) ?_
    show Steps p.tables e below (s₁.setTop (mkF m 57 #[.val (.long q1), .second, .val (.long q2), .second] [(.int (4 : Int32))])) _
    exact retI X0 hx Bd.returns (hb hby d4_57) hr
  · show QW (4 : Int32) h0 n0 _ s₁.heap _
    rw [e0]
    exact ⟨rfl, N0, rfl⟩


set_option maxRecDepth 65536 in
set_option maxHeartbeats 40000000 in
theorem rm4_ftftt (l : Launch) (Z : State) (a0 : Array Value) (hw : ∀ d ∈ tables_1, d.before a0 Z = true) (ws : List Jvm.Cond) (q1 : Int64) (q2 : Int64) (h0 : Heap) (n0 : Nat) (Z0 : n0 ≤ h0.size) (hc6 : (lcmpW (((q1.toInt32).toInt8.toInt32).toInt64) q1) = (0 : Int32)) (hc15 : ¬ ((lcmpW (((q2.toInt32).toInt8.toInt32).toInt64) q2) = (0 : Int32))) (hc26 : (lcmpW (((q1.toInt32).toInt16.toInt32).toInt64) q1) = (0 : Int32)) (hc35 : ¬ ((lcmpW (((q2.toInt32).toInt16.toInt32).toInt64) q2) = (0 : Int32))) (hc45 : ¬ ((lcmpW ((q1.toInt32).toInt64) q1) = (0 : Int32))) :
    MetFree l (⟨"com/example/ballpark/ballpark/io/StoreFormatWidthPinLaw", "reference", "(JJ)I"⟩ : MethodName) (head1 (Jvm.Cond.code (⟨"com/example/ballpark/ballpark/io/StoreFormatWidthPinLaw", "reference", "(JJ)I"⟩ : MethodName) method_2_code 4 (some .int) :: ws) ({ frames := 0, cells := 0, slots := 0, locals := 0 } : Room)) (fun a U => a = #[(.long q1), (.long q2)] ∧ Z.Warmed39 U.vm ∧ U.heap = h0) (fun _ _ _ _ _ => True) (fun _ U o U' => ∃ v L, o = .returned v ∧ QW (8 : Int32) h0 n0 v U'.heap L ∧ FrameEnd U o U' L ({ frames := 0, cells := 0, slots := 0, locals := 0 } : Room).cells ({ frames := 0, cells := 0, slots := 0, locals := 0 } : Room).slots) := by
  refine MetFree.of_bodySF (plainFor_of_name pn_4) hisR ?_
  intro p e s m args below meth c s₁ Bd hml0 hP hK
  obtain ⟨rfl, hZ, hh⟩ := hP
  have hx := Bd.exec
  have hby := Bd.bytes
  have hml : c.maxLocals = 4 := hml0
  have hown : s.vm.findClass "com/example/ballpark/ballpark/io/StoreFormatWidthPinLaw" = some m.cls := findClass_of_methodNamed Bd.named
  have hnm := (name_of_methodNamed Bd.named Bd.method).1
  have X0 : Stand p l e ({ frames := 0, cells := 0, slots := 0, locals := 0 } : Room) s m #[(.long q1), (.long q2)] below meth c s₁ [] 0 0 := Stand.of_body Bd
  have e0 : s₁.heap = h0 := by rw [← hh, Bd.state]; rfl
  have N0 := Fr.nil n0
  have pre0 : ∀ t, Steps p.tables e below (s₁.setTop (mkF m 0 #[.val (.long q1), .second, .val (.long q2), .second] [])) t → Steps p.tables e below (s₁.setTop (entryFrame m #[(.long q1), (.long q2)] 4)) t := fun t k => castTop (ef_4 m q1 q2) k

  obtain ⟨fs, hr, hrun, hended, hW, hsame⟩ := X0.leave (v := some (.int (8 : Int32))) (fun h => by rw [Bd.returns] at h; cases h)
  refine ⟨_, _, pre0 _ ?_, hrun, hended, _, _, rfl, ?_, ⟨_, rfl⟩, hW, hsame.mono (by decide) (by decide)⟩
  · show Steps p.tables e below (s₁.setTop (mkF m 0 #[.val (.long q1), .second, .val (.long q2), .second] [])) _
    refine XS.lloadN X0.here hx rfl (hb hby d4_0) rfl ?_
    show Steps p.tables e below (s₁.setTop (mkF m 1 #[.val (.long q1), .second, .val (.long q2), .second] [(.long q1)])) _
    refine XS.l2i X0.here hx rfl (hb hby d4_1) rfl ?_
    show Steps p.tables e below (s₁.setTop (mkF m 2 #[.val (.long q1), .second, .val (.long q2), .second] [(.int (q1.toInt32))])) _
    refine XS.i2b X0.here hx rfl (hb hby d4_2) rfl ?_
    show Steps p.tables e below (s₁.setTop (mkF m 3 #[.val (.long q1), .second, .val (.long q2), .second] [(.int ((q1.toInt32).toInt8.toInt32))])) _
    refine XS.i2l X0.here hx rfl (hb hby d4_3) rfl ?_
    show Steps p.tables e below (s₁.setTop (mkF m 4 #[.val (.long q1), .second, .val (.long q2), .second] [(.long (((q1.toInt32).toInt8.toInt32).toInt64))])) _
    refine XS.lloadN X0.here hx rfl (hb hby d4_4) rfl ?_
    show Steps p.tables e below (s₁.setTop (mkF m 5 #[.val (.long q1), .second, .val (.long q2), .second] [(.long q1), (.long (((q1.toInt32).toInt8.toInt32).toInt64))])) _
    refine XS.lcmp X0.here hx rfl (hb hby d4_5) rfl ?_
    show Steps p.tables e below (s₁.setTop (mkF m 6 #[.val (.long q1), .second, .val (.long q2), .second] [(.int (lcmpW (((q1.toInt32).toInt8.toInt32).toInt64) q1))])) _
    refine XS.ifNo X0.here hx rfl (hb hby d4_6) rfl ((if0 _ _).trans (teq hc6).2) ?_
    show Steps p.tables e below (s₁.setTop (mkF m 9 #[.val (.long q1), .second, .val (.long q2), .second] [])) _
    refine XS.lloadN X0.here hx rfl (hb hby d4_9) rfl ?_
    show Steps p.tables e below (s₁.setTop (mkF m 10 #[.val (.long q1), .second, .val (.long q2), .second] [(.long q2)])) _
    refine XS.l2i X0.here hx rfl (hb hby d4_10) rfl ?_
    show Steps p.tables e below (s₁.setTop (mkF m 11 #[.val (.long q1), .second, .val (.long q2), .second] [(.int (q2.toInt32))])) _
    refine XS.i2b X0.here hx rfl (hb hby d4_11) rfl ?_
    show Steps p.tables e below (s₁.setTop (mkF m 12 #[.val (.long q1), .second, .val (.long q2), .second] [(.int ((q2.toInt32).toInt8.toInt32))])) _
    refine XS.i2l X0.here hx rfl (hb hby d4_12) rfl ?_
    show Steps p.tables e below (s₁.setTop (mkF m 13 #[.val (.long q1), .second, .val (.long q2), .second] [(.long (((q2.toInt32).toInt8.toInt32).toInt64))])) _
    refine XS.lloadN X0.here hx rfl (hb hby d4_13) rfl ?_
    show Steps p.tables e below (s₁.setTop (mkF m 14 #[.val (.long q1), .second, .val (.long q2), .second] [(.long q2), (.long (((q2.toInt32).toInt8.toInt32).toInt64))])) _
    refine XS.lcmp X0.here hx rfl (hb hby d4_14) rfl ?_
    show Steps p.tables e below (s₁.setTop (mkF m 15 #[.val (.long q1), .second, .val (.long q2), .second] [(.int (lcmpW (((q2.toInt32).toInt8.toInt32).toInt64) q2))])) _
    refine XS.ifYes X0.here hx rfl (pc0 := 15) (pc' := 20) rfl (hb hby d4_15) rfl ((if0 _ _).trans (feq hc15).2) (by decide) (by decide) ?_
    show Steps p.tables e below (s₁.setTop (mkF m 20 #[.val (.long q1), .second, .val (.long q2), .second] [])) _
    refine XS.lloadN X0.here hx rfl (hb hby d4_20) rfl ?_
    show Steps p.tables e below (s₁.setTop (mkF m 21 #[.val (.long q1), .second, .val (.long q2), .second] [(.long q1)])) _
    refine XS.l2i X0.here hx rfl (hb hby d4_21) rfl ?_
    show Steps p.tables e below (s₁.setTop (mkF m 22 #[.val (.long q1), .second, .val (.long q2), .second] [(.int (q1.toInt32))])) _
    refine XS.i2s X0.here hx rfl (hb hby d4_22) rfl ?_
    show Steps p.tables e below (s₁.setTop (mkF m 23 #[.val (.long q1), .second, .val (.long q2), .second] [(.int ((q1.toInt32).toInt16.toInt32))])) _
    refine XS.i2l X0.here hx rfl (hb hby d4_23) rfl ?_
    show Steps p.tables e below (s₁.setTop (mkF m 24 #[.val (.long q1), .second, .val (.long q2), .second] [(.long (((q1.toInt32).toInt16.toInt32).toInt64))])) _
    refine XS.lloadN X0.here hx rfl (hb hby d4_24) rfl ?_
    show Steps p.tables e below (s₁.setTop (mkF m 25 #[.val (.long q1), .second, .val (.long q2), .second] [(.long q1), (.long (((q1.toInt32).toInt16.toInt32).toInt64))])) _
    refine XS.lcmp X0.here hx rfl (hb hby d4_25) rfl ?_
    show Steps p.tables e below (s₁.setTop (mkF m 26 #[.val (.long q1), .second, .val (.long q2), .second] [(.int (lcmpW (((q1.toInt32).toInt16.toInt32).toInt64) q1))])) _
    refine XS.ifNo X0.here hx rfl (hb hby d4_26) rfl ((if0 _ _).trans (teq hc26).2) ?_
    show Steps p.tables e below (s₁.setTop (mkF m 29 #[.val (.long q1), .second, .val (.long q2), .second] [])) _
    refine XS.lloadN X0.here hx rfl (hb hby d4_29) rfl ?_
    show Steps p.tables e below (s₁.setTop (mkF m 30 #[.val (.long q1), .second, .val (.long q2), .second] [(.long q2)])) _
    refine XS.l2i X0.here hx rfl (hb hby d4_30) rfl ?_
    show Steps p.tables e below (s₁.setTop (mkF m 31 #[.val (.long q1), .second, .val (.long q2), .second] [(.int (q2.toInt32))])) _
    refine XS.i2s X0.here hx rfl (hb hby d4_31) rfl ?_
    show Steps p.tables e below (s₁.setTop (mkF m 32 #[.val (.long q1), .second, .val (.long q2), .second] [(.int ((q2.toInt32).toInt16.toInt32))])) _
    refine XS.i2l X0.here hx rfl (hb hby d4_32) rfl ?_
    show Steps p.tables e below (s₁.setTop (mkF m 33 #[.val (.long q1), .second, .val (.long q2), .second] [(.long (((q2.toInt32).toInt16.toInt32).toInt64))])) _
    refine XS.lloadN X0.here hx rfl (hb hby d4_33) rfl ?_
    show Steps p.tables e below (s₁.setTop (mkF m 34 #[.val (.long q1), .second, .val (.long q2), .second] [(.long q2), (.long (((q2.toInt32).toInt16.toInt32).toInt64))])) _
    refine XS.lcmp X0.here hx rfl (hb hby d4_34) rfl ?_
    show Steps p.tables e below (s₁.setTop (mkF m 35 #[.val (.long q1), .second, .val (.long q2), .second] [(.int (lcmpW (((q2.toInt32).toInt16.toInt32).toInt64) q2))])) _
    refine XS.ifYes X0.here hx rfl (pc0 := 35) (pc' := 40) rfl (hb hby d4_35) rfl ((if0 _ _).trans (feq hc35).2) (by decide) (by decide) ?_
    show Steps p.tables e below (s₁.setTop (mkF m 40 #[.val (.long q1), .second, .val (.long q2), .second] [])) _
    refine XS.lloadN X0.here hx rfl (hb hby d4_40) rfl ?_
    show Steps p.tables e below (s₁.setTop (mkF m 41 #[.val (.long q1), .second, .val (.long q2), .second] [(.long q1)])) _
    refine XS.l2i X0.here hx rfl (hb hby d4_41) rfl ?_
    show Steps p.tables e below (s₁.setTop (mkF m 42 #[.val (.long q1), .second, .val (.long q2), .second] [(.int (q1.toInt32))])) _
    refine XS.i2l X0.here hx rfl (hb hby d4_42) rfl ?_
    show Steps p.tables e below (s₁.setTop (mkF m 43 #[.val (.long q1), .second, .val (.long q2), .second] [(.long ((q1.toInt32).toInt64))])) _
    refine XS.lloadN X0.here hx rfl (hb hby d4_43) rfl ?_
    show Steps p.tables e below (s₁.setTop (mkF m 44 #[.val (.long q1), .second, .val (.long q2), .second] [(.long q1), (.long ((q1.toInt32).toInt64))])) _
    refine XS.lcmp X0.here hx rfl (hb hby d4_44) rfl ?_
    show Steps p.tables e below (s₁.setTop (mkF m 45 #[.val (.long q1), .second, .val (.long q2), .second] [(.int (lcmpW ((q1.toInt32).toInt64) q1))])) _
    refine XS.ifYes X0.here hx rfl (pc0 := 45) (pc' := 58) rfl (hb hby d4_45) rfl ((if0 _ _).trans (feq hc45).2) (by decide) (by decide) ?_
    show Steps p.tables e below (s₁.setTop (mkF m 58 #[.val (.long q1), .second, .val (.long q2), .second] [])) _
    refine XS.bipush X0.here hx rfl (hb hby d4_58) ?_
    show Steps p.tables e below (s₁.setTop (mkF m 60 #[.val (.long q1), .second, .val (.long q2), .second] [(.int (8 : Int32))])) _
    exact retI X0 hx Bd.returns (hb hby d4_60) hr
  · show QW (8 : Int32) h0 n0 _ s₁.heap _
    rw [e0]
    exact ⟨rfl, N0, rfl⟩


set_option maxRecDepth 65536 in
set_option maxHeartbeats 40000000 in
theorem rm4_ftftft (l : Launch) (Z : State) (a0 : Array Value) (hw : ∀ d ∈ tables_1, d.before a0 Z = true) (ws : List Jvm.Cond) (q1 : Int64) (q2 : Int64) (h0 : Heap) (n0 : Nat) (Z0 : n0 ≤ h0.size) (hc6 : (lcmpW (((q1.toInt32).toInt8.toInt32).toInt64) q1) = (0 : Int32)) (hc15 : ¬ ((lcmpW (((q2.toInt32).toInt8.toInt32).toInt64) q2) = (0 : Int32))) (hc26 : (lcmpW (((q1.toInt32).toInt16.toInt32).toInt64) q1) = (0 : Int32)) (hc35 : ¬ ((lcmpW (((q2.toInt32).toInt16.toInt32).toInt64) q2) = (0 : Int32))) (hc45 : (lcmpW ((q1.toInt32).toInt64) q1) = (0 : Int32)) (hc53 : ¬ ((lcmpW ((q2.toInt32).toInt64) q2) = (0 : Int32))) :
    MetFree l (⟨"com/example/ballpark/ballpark/io/StoreFormatWidthPinLaw", "reference", "(JJ)I"⟩ : MethodName) (head1 (Jvm.Cond.code (⟨"com/example/ballpark/ballpark/io/StoreFormatWidthPinLaw", "reference", "(JJ)I"⟩ : MethodName) method_2_code 4 (some .int) :: ws) ({ frames := 0, cells := 0, slots := 0, locals := 0 } : Room)) (fun a U => a = #[(.long q1), (.long q2)] ∧ Z.Warmed39 U.vm ∧ U.heap = h0) (fun _ _ _ _ _ => True) (fun _ U o U' => ∃ v L, o = .returned v ∧ QW (8 : Int32) h0 n0 v U'.heap L ∧ FrameEnd U o U' L ({ frames := 0, cells := 0, slots := 0, locals := 0 } : Room).cells ({ frames := 0, cells := 0, slots := 0, locals := 0 } : Room).slots) := by
  refine MetFree.of_bodySF (plainFor_of_name pn_4) hisR ?_
  intro p e s m args below meth c s₁ Bd hml0 hP hK
  obtain ⟨rfl, hZ, hh⟩ := hP
  have hx := Bd.exec
  have hby := Bd.bytes
  have hml : c.maxLocals = 4 := hml0
  have hown : s.vm.findClass "com/example/ballpark/ballpark/io/StoreFormatWidthPinLaw" = some m.cls := findClass_of_methodNamed Bd.named
  have hnm := (name_of_methodNamed Bd.named Bd.method).1
  have X0 : Stand p l e ({ frames := 0, cells := 0, slots := 0, locals := 0 } : Room) s m #[(.long q1), (.long q2)] below meth c s₁ [] 0 0 := Stand.of_body Bd
  have e0 : s₁.heap = h0 := by rw [← hh, Bd.state]; rfl
  have N0 := Fr.nil n0
  have pre0 : ∀ t, Steps p.tables e below (s₁.setTop (mkF m 0 #[.val (.long q1), .second, .val (.long q2), .second] [])) t → Steps p.tables e below (s₁.setTop (entryFrame m #[(.long q1), (.long q2)] 4)) t := fun t k => castTop (ef_4 m q1 q2) k

  obtain ⟨fs, hr, hrun, hended, hW, hsame⟩ := X0.leave (v := some (.int (8 : Int32))) (fun h => by rw [Bd.returns] at h; cases h)
  refine ⟨_, _, pre0 _ ?_, hrun, hended, _, _, rfl, ?_, ⟨_, rfl⟩, hW, hsame.mono (by decide) (by decide)⟩
  · show Steps p.tables e below (s₁.setTop (mkF m 0 #[.val (.long q1), .second, .val (.long q2), .second] [])) _
    refine XS.lloadN X0.here hx rfl (hb hby d4_0) rfl ?_
    show Steps p.tables e below (s₁.setTop (mkF m 1 #[.val (.long q1), .second, .val (.long q2), .second] [(.long q1)])) _
    refine XS.l2i X0.here hx rfl (hb hby d4_1) rfl ?_
    show Steps p.tables e below (s₁.setTop (mkF m 2 #[.val (.long q1), .second, .val (.long q2), .second] [(.int (q1.toInt32))])) _
    refine XS.i2b X0.here hx rfl (hb hby d4_2) rfl ?_
    show Steps p.tables e below (s₁.setTop (mkF m 3 #[.val (.long q1), .second, .val (.long q2), .second] [(.int ((q1.toInt32).toInt8.toInt32))])) _
    refine XS.i2l X0.here hx rfl (hb hby d4_3) rfl ?_
    show Steps p.tables e below (s₁.setTop (mkF m 4 #[.val (.long q1), .second, .val (.long q2), .second] [(.long (((q1.toInt32).toInt8.toInt32).toInt64))])) _
    refine XS.lloadN X0.here hx rfl (hb hby d4_4) rfl ?_
    show Steps p.tables e below (s₁.setTop (mkF m 5 #[.val (.long q1), .second, .val (.long q2), .second] [(.long q1), (.long (((q1.toInt32).toInt8.toInt32).toInt64))])) _
    refine XS.lcmp X0.here hx rfl (hb hby d4_5) rfl ?_
    show Steps p.tables e below (s₁.setTop (mkF m 6 #[.val (.long q1), .second, .val (.long q2), .second] [(.int (lcmpW (((q1.toInt32).toInt8.toInt32).toInt64) q1))])) _
    refine XS.ifNo X0.here hx rfl (hb hby d4_6) rfl ((if0 _ _).trans (teq hc6).2) ?_
    show Steps p.tables e below (s₁.setTop (mkF m 9 #[.val (.long q1), .second, .val (.long q2), .second] [])) _
    refine XS.lloadN X0.here hx rfl (hb hby d4_9) rfl ?_
    show Steps p.tables e below (s₁.setTop (mkF m 10 #[.val (.long q1), .second, .val (.long q2), .second] [(.long q2)])) _
    refine XS.l2i X0.here hx rfl (hb hby d4_10) rfl ?_
    show Steps p.tables e below (s₁.setTop (mkF m 11 #[.val (.long q1), .second, .val (.long q2), .second] [(.int (q2.toInt32))])) _
    refine XS.i2b X0.here hx rfl (hb hby d4_11) rfl ?_
    show Steps p.tables e below (s₁.setTop (mkF m 12 #[.val (.long q1), .second, .val (.long q2), .second] [(.int ((q2.toInt32).toInt8.toInt32))])) _
    refine XS.i2l X0.here hx rfl (hb hby d4_12) rfl ?_
    show Steps p.tables e below (s₁.setTop (mkF m 13 #[.val (.long q1), .second, .val (.long q2), .second] [(.long (((q2.toInt32).toInt8.toInt32).toInt64))])) _
    refine XS.lloadN X0.here hx rfl (hb hby d4_13) rfl ?_
    show Steps p.tables e below (s₁.setTop (mkF m 14 #[.val (.long q1), .second, .val (.long q2), .second] [(.long q2), (.long (((q2.toInt32).toInt8.toInt32).toInt64))])) _
    refine XS.lcmp X0.here hx rfl (hb hby d4_14) rfl ?_
    show Steps p.tables e below (s₁.setTop (mkF m 15 #[.val (.long q1), .second, .val (.long q2), .second] [(.int (lcmpW (((q2.toInt32).toInt8.toInt32).toInt64) q2))])) _
    refine XS.ifYes X0.here hx rfl (pc0 := 15) (pc' := 20) rfl (hb hby d4_15) rfl ((if0 _ _).trans (feq hc15).2) (by decide) (by decide) ?_
    show Steps p.tables e below (s₁.setTop (mkF m 20 #[.val (.long q1), .second, .val (.long q2), .second] [])) _
    refine XS.lloadN X0.here hx rfl (hb hby d4_20) rfl ?_
    show Steps p.tables e below (s₁.setTop (mkF m 21 #[.val (.long q1), .second, .val (.long q2), .second] [(.long q1)])) _
    refine XS.l2i X0.here hx rfl (hb hby d4_21) rfl ?_
    show Steps p.tables e below (s₁.setTop (mkF m 22 #[.val (.long q1), .second, .val (.long q2), .second] [(.int (q1.toInt32))])) _
    refine XS.i2s X0.here hx rfl (hb hby d4_22) rfl ?_
    show Steps p.tables e below (s₁.setTop (mkF m 23 #[.val (.long q1), .second, .val (.long q2), .second] [(.int ((q1.toInt32).toInt16.toInt32))])) _
    refine XS.i2l X0.here hx rfl (hb hby d4_23) rfl ?_
    show Steps p.tables e below (s₁.setTop (mkF m 24 #[.val (.long q1), .second, .val (.long q2), .second] [(.long (((q1.toInt32).toInt16.toInt32).toInt64))])) _
    refine XS.lloadN X0.here hx rfl (hb hby d4_24) rfl ?_
    show Steps p.tables e below (s₁.setTop (mkF m 25 #[.val (.long q1), .second, .val (.long q2), .second] [(.long q1), (.long (((q1.toInt32).toInt16.toInt32).toInt64))])) _
    refine XS.lcmp X0.here hx rfl (hb hby d4_25) rfl ?_
    show Steps p.tables e below (s₁.setTop (mkF m 26 #[.val (.long q1), .second, .val (.long q2), .second] [(.int (lcmpW (((q1.toInt32).toInt16.toInt32).toInt64) q1))])) _
    refine XS.ifNo X0.here hx rfl (hb hby d4_26) rfl ((if0 _ _).trans (teq hc26).2) ?_
    show Steps p.tables e below (s₁.setTop (mkF m 29 #[.val (.long q1), .second, .val (.long q2), .second] [])) _
    refine XS.lloadN X0.here hx rfl (hb hby d4_29) rfl ?_
    show Steps p.tables e below (s₁.setTop (mkF m 30 #[.val (.long q1), .second, .val (.long q2), .second] [(.long q2)])) _
    refine XS.l2i X0.here hx rfl (hb hby d4_30) rfl ?_
    show Steps p.tables e below (s₁.setTop (mkF m 31 #[.val (.long q1), .second, .val (.long q2), .second] [(.int (q2.toInt32))])) _
    refine XS.i2s X0.here hx rfl (hb hby d4_31) rfl ?_
    show Steps p.tables e below (s₁.setTop (mkF m 32 #[.val (.long q1), .second, .val (.long q2), .second] [(.int ((q2.toInt32).toInt16.toInt32))])) _
    refine XS.i2l X0.here hx rfl (hb hby d4_32) rfl ?_
    show Steps p.tables e below (s₁.setTop (mkF m 33 #[.val (.long q1), .second, .val (.long q2), .second] [(.long (((q2.toInt32).toInt16.toInt32).toInt64))])) _
    refine XS.lloadN X0.here hx rfl (hb hby d4_33) rfl ?_
    show Steps p.tables e below (s₁.setTop (mkF m 34 #[.val (.long q1), .second, .val (.long q2), .second] [(.long q2), (.long (((q2.toInt32).toInt16.toInt32).toInt64))])) _
    refine XS.lcmp X0.here hx rfl (hb hby d4_34) rfl ?_
    show Steps p.tables e below (s₁.setTop (mkF m 35 #[.val (.long q1), .second, .val (.long q2), .second] [(.int (lcmpW (((q2.toInt32).toInt16.toInt32).toInt64) q2))])) _
    refine XS.ifYes X0.here hx rfl (pc0 := 35) (pc' := 40) rfl (hb hby d4_35) rfl ((if0 _ _).trans (feq hc35).2) (by decide) (by decide) ?_
    show Steps p.tables e below (s₁.setTop (mkF m 40 #[.val (.long q1), .second, .val (.long q2), .second] [])) _
    refine XS.lloadN X0.here hx rfl (hb hby d4_40) rfl ?_
    show Steps p.tables e below (s₁.setTop (mkF m 41 #[.val (.long q1), .second, .val (.long q2), .second] [(.long q1)])) _
    refine XS.l2i X0.here hx rfl (hb hby d4_41) rfl ?_
    show Steps p.tables e below (s₁.setTop (mkF m 42 #[.val (.long q1), .second, .val (.long q2), .second] [(.int (q1.toInt32))])) _
    refine XS.i2l X0.here hx rfl (hb hby d4_42) rfl ?_
    show Steps p.tables e below (s₁.setTop (mkF m 43 #[.val (.long q1), .second, .val (.long q2), .second] [(.long ((q1.toInt32).toInt64))])) _
    refine XS.lloadN X0.here hx rfl (hb hby d4_43) rfl ?_
    show Steps p.tables e below (s₁.setTop (mkF m 44 #[.val (.long q1), .second, .val (.long q2), .second] [(.long q1), (.long ((q1.toInt32).toInt64))])) _
    refine XS.lcmp X0.here hx rfl (hb hby d4_44) rfl ?_
    show Steps p.tables e below (s₁.setTop (mkF m 45 #[.val (.long q1), .second, .val (.long q2), .second] [(.int (lcmpW ((q1.toInt32).toInt64) q1))])) _
    refine XS.ifNo X0.here hx rfl (hb hby d4_45) rfl ((if0 _ _).trans (teq hc45).2) ?_
    show Steps p.tables e below (s₁.setTop (mkF m 48 #[.val (.long q1), .second, .val (.long q2), .second] [])) _
    refine XS.lloadN X0.here hx rfl (hb hby d4_48) rfl ?_
    show Steps p.tables e below (s₁.setTop (mkF m 49 #[.val (.long q1), .second, .val (.long q2), .second] [(.long q2)])) _
    refine XS.l2i X0.here hx rfl (hb hby d4_49) rfl ?_
    show Steps p.tables e below (s₁.setTop (mkF m 50 #[.val (.long q1), .second, .val (.long q2), .second] [(.int (q2.toInt32))])) _
    refine XS.i2l X0.here hx rfl (hb hby d4_50) rfl ?_
    show Steps p.tables e below (s₁.setTop (mkF m 51 #[.val (.long q1), .second, .val (.long q2), .second] [(.long ((q2.toInt32).toInt64))])) _
    refine XS.lloadN X0.here hx rfl (hb hby d4_51) rfl ?_
    show Steps p.tables e below (s₁.setTop (mkF m 52 #[.val (.long q1), .second, .val (.long q2), .second] [(.long q2), (.long ((q2.toInt32).toInt64))])) _
    refine XS.lcmp X0.here hx rfl (hb hby d4_52) rfl ?_
    show Steps p.tables e below (s₁.setTop (mkF m 53 #[.val (.long q1), .second, .val (.long q2), .second] [(.int (lcmpW ((q2.toInt32).toInt64) q2))])) _
    refine XS.ifYes X0.here hx rfl (pc0 := 53) (pc' := 58) rfl (hb hby d4_53) rfl ((if0 _ _).trans (feq hc53).2) (by decide) (by decide) ?_
    show Steps p.tables e below (s₁.setTop (mkF m 58 #[.val (.long q1), .second, .val (.long q2), .second] [])) _
    refine XS.bipush X0.here hx rfl (hb hby d4_58) ?_
    show Steps p.tables e below (s₁.setTop (mkF m 60 #[.val (.long q1), .second, .val (.long q2), .second] [(.int (8 : Int32))])) _
    exact retI X0 hx Bd.returns (hb hby d4_60) hr
  · show QW (8 : Int32) h0 n0 _ s₁.heap _
    rw [e0]
    exact ⟨rfl, N0, rfl⟩

set_option maxRecDepth 65536 in
set_option maxHeartbeats 40000000 in
theorem rm4 (l : Launch) (Z : State) (a0 : Array Value) (hw : ∀ d ∈ tables_1, d.before a0 Z = true) (ws : List Jvm.Cond) (q1 : Int64) (q2 : Int64) (h0 : Heap) (n0 : Nat) (Z0 : n0 ≤ h0.size) (hle : q1.toInt ≤ q2.toInt) :
    MetFree l (⟨"com/example/ballpark/ballpark/io/StoreFormatWidthPinLaw", "reference", "(JJ)I"⟩ : MethodName) (head1 (Jvm.Cond.code (⟨"com/example/ballpark/ballpark/io/StoreFormatWidthPinLaw", "reference", "(JJ)I"⟩ : MethodName) method_2_code 4 (some .int) :: ws) ({ frames := 0, cells := 0, slots := 0, locals := 0 } : Room)) (fun a U => a = #[(.long q1), (.long q2)] ∧ Z.Warmed39 U.vm ∧ U.heap = h0) (fun _ _ _ _ _ => True) (fun _ U o U' => ∃ v L, o = .returned v ∧ QW (own_W q1 q2) h0 n0 v U'.heap L ∧ FrameEnd U o U' L ({ frames := 0, cells := 0, slots := 0, locals := 0 } : Room).cells ({ frames := 0, cells := 0, slots := 0, locals := 0 } : Room).slots) := by
  by_cases h6 : lcmpW (q1.toInt32.toInt8.toInt32.toInt64) q1 = (0 : Int32)
  · have e6 := (own_r0 q1).mp h6
    by_cases h15 : lcmpW (q2.toInt32.toInt8.toInt32.toInt64) q2 = (0 : Int32)
    · have e15 := (own_r0 q2).mp h15
      rw [own_W1 (by omega)]
      exact rm4_ff l Z a0 hw ws q1 q2 h0 n0 Z0 h6 h15
    · have e15 := (not_congr (own_r0 q2)).mp h15
      by_cases h26 : lcmpW (q1.toInt32.toInt16.toInt32.toInt64) q1 = (0 : Int32)
      · have e26 := (own_r1 q1).mp h26
        by_cases h35 : lcmpW (q2.toInt32.toInt16.toInt32.toInt64) q2 = (0 : Int32)
        · have e35 := (own_r1 q2).mp h35
          rw [own_W2 (by omega) (by omega)]
          exact rm4_ftff l Z a0 hw ws q1 q2 h0 n0 Z0 h6 h15 h26 h35
        · have e35 := (not_congr (own_r1 q2)).mp h35
          by_cases h45 : lcmpW (q1.toInt32.toInt64) q1 = (0 : Int32)
          · have e45 := (own_r2 q1).mp h45
            by_cases h53 : lcmpW (q2.toInt32.toInt64) q2 = (0 : Int32)
            · have e53 := (own_r2 q2).mp h53
              rw [own_W4 (by omega) (by omega) (by omega)]
              exact rm4_ftftff l Z a0 hw ws q1 q2 h0 n0 Z0 h6 h15 h26 h35 h45 h53
            · have e53 := (not_congr (own_r2 q2)).mp h53
              rw [own_W8 (by omega) (by omega) (by omega)]
              exact rm4_ftftft l Z a0 hw ws q1 q2 h0 n0 Z0 h6 h15 h26 h35 h45 h53
          · have e45 := (not_congr (own_r2 q1)).mp h45
            rw [own_W8 (by omega) (by omega) (by omega)]
            exact rm4_ftftt l Z a0 hw ws q1 q2 h0 n0 Z0 h6 h15 h26 h35 h45
      · have e26 := (not_congr (own_r1 q1)).mp h26
        by_cases h45 : lcmpW (q1.toInt32.toInt64) q1 = (0 : Int32)
        · have e45 := (own_r2 q1).mp h45
          by_cases h53 : lcmpW (q2.toInt32.toInt64) q2 = (0 : Int32)
          · have e53 := (own_r2 q2).mp h53
            rw [own_W4 (by omega) (by omega) (by omega)]
            exact rm4_fttff l Z a0 hw ws q1 q2 h0 n0 Z0 h6 h15 h26 h45 h53
          · have e53 := (not_congr (own_r2 q2)).mp h53
            rw [own_W8 (by omega) (by omega) (by omega)]
            exact rm4_fttft l Z a0 hw ws q1 q2 h0 n0 Z0 h6 h15 h26 h45 h53
        · have e45 := (not_congr (own_r2 q1)).mp h45
          rw [own_W8 (by omega) (by omega) (by omega)]
          exact rm4_fttt l Z a0 hw ws q1 q2 h0 n0 Z0 h6 h15 h26 h45
  · have e6 := (not_congr (own_r0 q1)).mp h6
    by_cases h26 : lcmpW (q1.toInt32.toInt16.toInt32.toInt64) q1 = (0 : Int32)
    · have e26 := (own_r1 q1).mp h26
      by_cases h35 : lcmpW (q2.toInt32.toInt16.toInt32.toInt64) q2 = (0 : Int32)
      · have e35 := (own_r1 q2).mp h35
        rw [own_W2 (by omega) (by omega)]
        exact rm4_tff l Z a0 hw ws q1 q2 h0 n0 Z0 h6 h26 h35
      · have e35 := (not_congr (own_r1 q2)).mp h35
        by_cases h45 : lcmpW (q1.toInt32.toInt64) q1 = (0 : Int32)
        · have e45 := (own_r2 q1).mp h45
          by_cases h53 : lcmpW (q2.toInt32.toInt64) q2 = (0 : Int32)
          · have e53 := (own_r2 q2).mp h53
            rw [own_W4 (by omega) (by omega) (by omega)]
            exact rm4_tftff l Z a0 hw ws q1 q2 h0 n0 Z0 h6 h26 h35 h45 h53
          · have e53 := (not_congr (own_r2 q2)).mp h53
            rw [own_W8 (by omega) (by omega) (by omega)]
            exact rm4_tftft l Z a0 hw ws q1 q2 h0 n0 Z0 h6 h26 h35 h45 h53
        · have e45 := (not_congr (own_r2 q1)).mp h45
          rw [own_W8 (by omega) (by omega) (by omega)]
          exact rm4_tftt l Z a0 hw ws q1 q2 h0 n0 Z0 h6 h26 h35 h45
    · have e26 := (not_congr (own_r1 q1)).mp h26
      by_cases h45 : lcmpW (q1.toInt32.toInt64) q1 = (0 : Int32)
      · have e45 := (own_r2 q1).mp h45
        by_cases h53 : lcmpW (q2.toInt32.toInt64) q2 = (0 : Int32)
        · have e53 := (own_r2 q2).mp h53
          rw [own_W4 (by omega) (by omega) (by omega)]
          exact rm4_ttff l Z a0 hw ws q1 q2 h0 n0 Z0 h6 h26 h45 h53
        · have e53 := (not_congr (own_r2 q2)).mp h53
          rw [own_W8 (by omega) (by omega) (by omega)]
          exact rm4_ttft l Z a0 hw ws q1 q2 h0 n0 Z0 h6 h26 h45 h53
      · have e45 := (not_congr (own_r2 q1)).mp h45
        rw [own_W8 (by omega) (by omega) (by omega)]
        exact rm4_ttt l Z a0 hw ws q1 q2 h0 n0 Z0 h6 h26 h45
theorem pn_0 : plainName "com/example/ballpark/ballpark/io/StoreFormatWidthPinLaw" = true := by first | (simp [plainName, overriddenIn]; done) | decide +kernel
theorem pd_0_0 : parseMethodDescriptor "(JJ)J" = some ⟨[.long, .long], some .long⟩ := by decide +kernel
theorem pd_0_1 : parseMethodDescriptor "(JJ)I" = some ⟨[.long, .long], some .int⟩ := by decide +kernel
theorem ef_0 (m : MethodId) (x0 : Int64) (x1 : Int64) (x2 : Int32) : entryFrame m #[(.long x0), (.long x1), (.int x2)] maxLocals = mkF m 0 #[.val (.long x0), .second, .val (.long x1), .second, .val (.int x2), .unset, .unset, .unset, .unset, .unset, .unset, .unset, .unset, .unset] [] := by first | (simp [entryFrame, mkF, argsToLocals, Value.category, maxLocals]; done) | rfl

def Q0 (h0 : Heap) (n0 : Nat) (v : Option Value) (h : Heap) (L : List Loc) : Prop := v = some (.int (1 : Int32)) ∧ Fr n0 L
set_option maxRecDepth 65536 in
set_option maxHeartbeats 40000000 in
theorem rm0 (l : Launch) (Z : State) (a0 : Array Value) (hw : ∀ d ∈ tables_1, d.before a0 Z = true) (ws : List Jvm.Cond) (q1 : Int64) (q2 : Int64) (p3 : Int32) (h0 : Heap) (n0 : Nat) (Z0 : n0 ≤ h0.size) :
    MetFree l x (head1 (Jvm.Cond.code x code maxLocals ret :: ws) room_1) (fun a U => a = #[(.long q1), (.long q2), (.int p3)] ∧ Z.Warmed39 U.vm ∧ U.heap = h0) (fun _ _ _ _ _ => True) (fun _ U o U' => ∃ v L, o = .returned v ∧ Q0 h0 n0 v U'.heap L ∧ FrameEnd U o U' L room_1.cells room_1.slots) := by
  refine MetFree.of_bodySF (plainFor_of_name pn_0) hisR ?_
  intro p e s m args below meth c s₁ Bd hml0 hP hK
  obtain ⟨rfl, hZ, hh⟩ := hP
  have hx := Bd.exec
  have hby := Bd.bytes
  have hml : c.maxLocals = 14 := hml0
  have hown : s.vm.findClass "com/example/ballpark/ballpark/io/StoreFormatWidthPinLaw" = some m.cls := findClass_of_methodNamed Bd.named
  have hnm := (name_of_methodNamed Bd.named Bd.method).1
  have X0 : Stand p l e room_1 s m #[(.long q1), (.long q2), (.int p3)] below meth c s₁ [] 0 0 := Stand.of_body Bd
  have e0 : s₁.heap = h0 := by rw [← hh, Bd.state]; rfl
  have N0 := Fr.nil n0
  have pre0 : ∀ t, Steps p.tables e below (s₁.setTop (mkF m 0 #[.val (.long q1), .second, .val (.long q2), .second, .val (.int p3), .unset, .unset, .unset, .unset, .unset, .unset, .unset, .unset, .unset] [])) t → Steps p.tables e below (s₁.setTop (entryFrame m #[(.long q1), (.long q2), (.int p3)] maxLocals)) t := fun t k => castTop (ef_0 m q1 q2 p3) k
  obtain ⟨lo, glo⟩ : ∃ q, q = Jvm.Free.JP.Math_min_JJ.val (q1 >>> ((p3 &&& (63 : Int32)) &&& 0x3f).toInt64) (q2 >>> ((((p3.toUInt32 >>> ((6 : Int32) &&& 31).toUInt32).toInt32) &&& (63 : Int32)) &&& 0x3f).toInt64) := ⟨_, rfl⟩
  obtain ⟨v4, vq4, ⟨T4, L4, k4, n4⟩, -, X4, ⟨hE4, l4, y4, z4⟩, st4⟩ := Jvm.LawKit.callS X0 hx (y := (⟨"java/lang/Math", "min", "(JJ)J"⟩ : MethodName)) hown (mvT hZ (hw _ (List.mem_of_getElem? (i := 0) rfl))) (mvT hZ (hw _ (List.mem_of_getElem? (i := 1) rfl))) (mvT hZ (hw _ (List.mem_of_getElem? (i := 2) rfl))) (mvT hZ (hw _ (List.mem_of_getElem? (i := 3) rfl))) (by decide) (Jvm.Free.JP.Math_min_JJ.pays (W := 0) (q1 >>> ((p3 &&& (63 : Int32)) &&& 0x3f).toInt64) (q2 >>> ((((p3.toUInt32 >>> ((6 : Int32) &&& 31).toUInt32).toInt32) &&& (63 : Int32)) &&& 0x3f).toInt64) (Jvm.Free.XT.unparts (mvT hZ (hw _ (List.mem_of_getElem? (i := 3) rfl))) (fun w hm => by cases List.mem_singleton.mp (show w ∈ ([.initialized "java/lang/Math"] : List Jvm.Cond) from hm); exact mvT hZ (hw _ (List.mem_of_getElem? (i := 2) rfl)))) (by decide) (by decide)) (g := (mkF m 25 #[.val (.long q1), .second, .val (.long q2), .second, .val (.int p3), .val (.long (q1 >>> ((p3 &&& (63 : Int32)) &&& 0x3f).toInt64)), .second, .val (.long (q2 >>> ((((p3.toUInt32 >>> ((6 : Int32) &&& 31).toUInt32).toInt32) &&& (63 : Int32)) &&& 0x3f).toInt64)), .second, .unset, .unset, .unset, .unset, .unset] [(.long (q2 >>> ((((p3.toUInt32 >>> ((6 : Int32) &&& 31).toUInt32).toInt32) &&& (63 : Int32)) &&& 0x3f).toInt64)), (.long (q1 >>> ((p3 &&& (63 : Int32)) &&& 0x3f).toInt64))])) rfl (by rw [hml]; rfl) (argsL := [(.long (q1 >>> ((p3 &&& (63 : Int32)) &&& 0x3f).toInt64)), (.long (q2 >>> ((((p3.toUInt32 >>> ((6 : Int32) &&& 31).toUInt32).toInt32) &&& (63 : Int32)) &&& 0x3f).toInt64))]) (rest := []) (lenOf pd_0_0 rfl) rfl (by show 2 * 0 + _ ≤ _; exact Nat.le_of_eq rfl) (hb hby at_25) (fun _ _ => ⟨Nat.le_of_ble_eq_true rfl, Nat.le_of_ble_eq_true rfl, rfl, trivial⟩)
  dsimp only [Pt.U, Pt.locs, Pt.cells, Pt.slots] at X4 l4 y4 z4 st4 hE4
  subst l4 y4 z4
  obtain ⟨hv4, hq4⟩ := hE4
  rw [← glo] at hv4
  subst hv4
  have eq4 : T4.heap = h0 := hq4.trans e0
  have N4 := Fr.app N0 (Fr.nil n0)
  obtain ⟨hi, ghi⟩ : ∃ q, q = Jvm.Free.JP.Math_max_JJ.val (q1 >>> ((p3 &&& (63 : Int32)) &&& 0x3f).toInt64) (q2 >>> ((((p3.toUInt32 >>> ((6 : Int32) &&& 31).toUInt32).toInt32) &&& (63 : Int32)) &&& 0x3f).toInt64) := ⟨_, rfl⟩
  obtain ⟨v5, vq5, ⟨T5, L5, k5, n5⟩, -, X5, ⟨hE5, l5, y5, z5⟩, st5⟩ := Jvm.LawKit.callS X4 hx (y := (⟨"java/lang/Math", "max", "(JJ)J"⟩ : MethodName)) hown (mvT hZ (hw _ (List.mem_of_getElem? (i := 4) rfl))) (mvT hZ (hw _ (List.mem_of_getElem? (i := 5) rfl))) (mvT hZ (hw _ (List.mem_of_getElem? (i := 2) rfl))) (mvT hZ (hw _ (List.mem_of_getElem? (i := 6) rfl))) (by decide) (Jvm.Free.JP.Math_max_JJ.pays (W := 0) (q1 >>> ((p3 &&& (63 : Int32)) &&& 0x3f).toInt64) (q2 >>> ((((p3.toUInt32 >>> ((6 : Int32) &&& 31).toUInt32).toInt32) &&& (63 : Int32)) &&& 0x3f).toInt64) (Jvm.Free.XT.unparts (mvT hZ (hw _ (List.mem_of_getElem? (i := 6) rfl))) (fun w hm => by cases List.mem_singleton.mp (show w ∈ ([.initialized "java/lang/Math"] : List Jvm.Cond) from hm); exact mvT hZ (hw _ (List.mem_of_getElem? (i := 2) rfl)))) (by decide) (by decide)) (g := (mkF m 34 #[.val (.long q1), .second, .val (.long q2), .second, .val (.int p3), .val (.long (q1 >>> ((p3 &&& (63 : Int32)) &&& 0x3f).toInt64)), .second, .val (.long (q2 >>> ((((p3.toUInt32 >>> ((6 : Int32) &&& 31).toUInt32).toInt32) &&& (63 : Int32)) &&& 0x3f).toInt64)), .second, .val (.long lo), .second, .unset, .unset, .unset] [(.long (q2 >>> ((((p3.toUInt32 >>> ((6 : Int32) &&& 31).toUInt32).toInt32) &&& (63 : Int32)) &&& 0x3f).toInt64)), (.long (q1 >>> ((p3 &&& (63 : Int32)) &&& 0x3f).toInt64))])) rfl (by rw [hml]; rfl) (argsL := [(.long (q1 >>> ((p3 &&& (63 : Int32)) &&& 0x3f).toInt64)), (.long (q2 >>> ((((p3.toUInt32 >>> ((6 : Int32) &&& 31).toUInt32).toInt32) &&& (63 : Int32)) &&& 0x3f).toInt64))]) (rest := []) (lenOf pd_0_0 rfl) rfl (by show 2 * 0 + _ ≤ _; exact Nat.le_of_eq rfl) (hb hby at_34) (fun _ _ => ⟨Nat.le_of_ble_eq_true rfl, Nat.le_of_ble_eq_true rfl, rfl, trivial⟩)
  dsimp only [Pt.U, Pt.locs, Pt.cells, Pt.slots] at X5 l5 y5 z5 st5 hE5
  subst l5 y5 z5
  obtain ⟨hv5, hq5⟩ := hE5
  rw [← ghi] at hv5
  subst hv5
  have eq5 : T5.heap = h0 := hq5.trans eq4
  have N5 := Fr.app N4 (Fr.nil n0)
  obtain ⟨_, _, ⟨T6, L6, k6, n6⟩, -, X6, ⟨Lc6, hQ6, l6, y6, z6⟩, st6⟩ := Jvm.LawKit.callS X5 hx (y := (⟨"com/example/ballpark/ballpark/io/StoreFormat", "width", "(JJ)I"⟩ : MethodName)) hown (mvT hZ (hw _ (List.mem_of_getElem? (i := 7) rfl))) (mvT hZ (hw _ (List.mem_of_getElem? (i := 8) rfl))) (mvT hZ (hw _ (List.mem_of_getElem? (i := 9) rfl))) (mvT hZ (hw _ (List.mem_of_getElem? (i := 10) rfl))) (by decide) (backOf (W := 0) (rm3 l Z a0 hw [] lo hi T5.heap n0 (by rw [eq5]; exact Z0)) hZ (hw _ (List.mem_of_getElem? (i := 10) rfl)) (hw _ (List.mem_of_getElem? (i := 9) rfl)) (by decide) (by decide)) (g := (mkF m 43 #[.val (.long q1), .second, .val (.long q2), .second, .val (.int p3), .val (.long (q1 >>> ((p3 &&& (63 : Int32)) &&& 0x3f).toInt64)), .second, .val (.long (q2 >>> ((((p3.toUInt32 >>> ((6 : Int32) &&& 31).toUInt32).toInt32) &&& (63 : Int32)) &&& 0x3f).toInt64)), .second, .val (.long lo), .second, .val (.long hi), .second, .unset] [(.long hi), (.long lo)])) rfl (by rw [hml]; rfl) (argsL := [(.long lo), (.long hi)]) (rest := []) (lenOf pd_0_1 rfl) rfl (by show 2 * 0 + _ ≤ _; exact Nat.le_of_eq rfl) (hb hby at_43) (fun _ _ => ⟨rfl, rfl, (by decide : 0 + 0 ≤ _), (by decide : 0 + 0 ≤ _)⟩)
  dsimp only [Pt.U, Pt.locs, Pt.cells, Pt.slots] at X6 l6 y6 z6 st6 hQ6
  subst l6 y6 z6
  obtain ⟨rfl, N6q, hq6⟩ := hQ6
  have eq6 : T6.heap = h0 := hq6.trans eq5
  have N6 := Fr.app N5 N6q
  obtain ⟨_, _, ⟨T7, L7, k7, n7⟩, -, X7, ⟨Lc7, hQ7, l7, y7, z7⟩, st7⟩ := Jvm.LawKit.callS X6 hx (y := (⟨"com/example/ballpark/ballpark/io/StoreFormatWidthPinLaw", "reference", "(JJ)I"⟩ : MethodName)) hown (mvT hZ (hw _ (List.mem_of_getElem? (i := 13) rfl))) (mvT hZ (hw _ (List.mem_of_getElem? (i := 14) rfl))) (mvT hZ (hw _ (List.mem_of_getElem? (i := 15) rfl))) (mvT hZ (hw _ (List.mem_of_getElem? (i := 16) rfl))) (by decide) (backOf (W := 1) (rm4 l Z a0 hw [] lo hi T6.heap n0 (by rw [eq6]; exact Z0) (by rw [glo, ghi, Jvm.Free.JP.Math_min_JJ.toInt_val, Jvm.Free.JP.Math_max_JJ.toInt_val]; omega)) hZ (hw _ (List.mem_of_getElem? (i := 16) rfl)) (hw _ (List.mem_of_getElem? (i := 15) rfl)) (by decide) (by decide)) (g := (mkF m 54 #[.val (.long q1), .second, .val (.long q2), .second, .val (.int p3), .val (.long (q1 >>> ((p3 &&& (63 : Int32)) &&& 0x3f).toInt64)), .second, .val (.long (q2 >>> ((((p3.toUInt32 >>> ((6 : Int32) &&& 31).toUInt32).toInt32) &&& (63 : Int32)) &&& 0x3f).toInt64)), .second, .val (.long lo), .second, .val (.long hi), .second, .val (.int (own_W lo hi))] [(.long hi), (.long lo), (.int (own_W lo hi))])) rfl (by rw [hml]; rfl) (argsL := [(.long lo), (.long hi)]) (rest := [(.int (own_W lo hi))]) (lenOf pd_0_1 rfl) rfl (by show 2 * 0 + _ ≤ _; exact Nat.le_of_eq rfl) (hb hby at_54) (fun _ _ => ⟨rfl, rfl, (by decide : 0 + 0 ≤ _), (by decide : 0 + 0 ≤ _)⟩)
  dsimp only [Pt.U, Pt.locs, Pt.cells, Pt.slots] at X7 l7 y7 z7 st7 hQ7
  subst l7 y7 z7
  obtain ⟨rfl, N7q, hq7⟩ := hQ7
  have N7 := Fr.app N6 N7q
  obtain ⟨fs, hr, hrun, hended, hW, hsame⟩ := X7.leave (v := some (.int (1 : Int32))) (fun h => by rw [Bd.returns] at h; cases h)
  refine ⟨_, _, pre0 _ ?_, hrun, hended, _, _, rfl, ?_, ⟨_, rfl⟩, hW, hsame.mono (by decide) (by decide)⟩
  · show Steps p.tables e below (s₁.setTop (mkF m 0 #[.val (.long q1), .second, .val (.long q2), .second, .val (.int p3), .unset, .unset, .unset, .unset, .unset, .unset, .unset, .unset, .unset] [])) _
    refine XS.lloadN X0.here hx rfl (hb hby at_0) rfl ?_
    show Steps p.tables e below (s₁.setTop (mkF m 1 #[.val (.long q1), .second, .val (.long q2), .second, .val (.int p3), .unset, .unset, .unset, .unset, .unset, .unset, .unset, .unset, .unset] [(.long q1)])) _
    refine XS.iload X0.here hx rfl (hb hby at_1) rfl ?_
    show Steps p.tables e below (s₁.setTop (mkF m 3 #[.val (.long q1), .second, .val (.long q2), .second, .val (.int p3), .unset, .unset, .unset, .unset, .unset, .unset, .unset, .unset, .unset] [(.int p3), (.long q1)])) _
    refine XS.bipush X0.here hx rfl (hb hby at_3) ?_
    show Steps p.tables e below (s₁.setTop (mkF m 5 #[.val (.long q1), .second, .val (.long q2), .second, .val (.int p3), .unset, .unset, .unset, .unset, .unset, .unset, .unset, .unset, .unset] [(.int (63 : Int32)), (.int p3), (.long q1)])) _
    refine XS.iand X0.here hx rfl (hb hby at_5) rfl ?_
    show Steps p.tables e below (s₁.setTop (mkF m 6 #[.val (.long q1), .second, .val (.long q2), .second, .val (.int p3), .unset, .unset, .unset, .unset, .unset, .unset, .unset, .unset, .unset] [(.int (p3 &&& (63 : Int32))), (.long q1)])) _
    refine XS.lshr X0.here hx rfl (hb hby at_6) rfl ?_
    show Steps p.tables e below (s₁.setTop (mkF m 7 #[.val (.long q1), .second, .val (.long q2), .second, .val (.int p3), .unset, .unset, .unset, .unset, .unset, .unset, .unset, .unset, .unset] [(.long (q1 >>> ((p3 &&& (63 : Int32)) &&& 0x3f).toInt64))])) _
    refine XS.lstore X0.here hx rfl (hb hby at_7) rfl (l' := #[.val (.long q1), .second, .val (.long q2), .second, .val (.int p3), .val (.long (q1 >>> ((p3 &&& (63 : Int32)) &&& 0x3f).toInt64)), .second, .unset, .unset, .unset, .unset, .unset, .unset, .unset]) rfl ?_
    show Steps p.tables e below (s₁.setTop (mkF m 9 #[.val (.long q1), .second, .val (.long q2), .second, .val (.int p3), .val (.long (q1 >>> ((p3 &&& (63 : Int32)) &&& 0x3f).toInt64)), .second, .unset, .unset, .unset, .unset, .unset, .unset, .unset] [])) _
    refine XS.lloadN X0.here hx rfl (hb hby at_9) rfl ?_
    show Steps p.tables e below (s₁.setTop (mkF m 10 #[.val (.long q1), .second, .val (.long q2), .second, .val (.int p3), .val (.long (q1 >>> ((p3 &&& (63 : Int32)) &&& 0x3f).toInt64)), .second, .unset, .unset, .unset, .unset, .unset, .unset, .unset] [(.long q2)])) _
    refine XS.iload X0.here hx rfl (hb hby at_10) rfl ?_
    show Steps p.tables e below (s₁.setTop (mkF m 12 #[.val (.long q1), .second, .val (.long q2), .second, .val (.int p3), .val (.long (q1 >>> ((p3 &&& (63 : Int32)) &&& 0x3f).toInt64)), .second, .unset, .unset, .unset, .unset, .unset, .unset, .unset] [(.int p3), (.long q2)])) _
    refine XS.bipush X0.here hx rfl (hb hby at_12) ?_
    show Steps p.tables e below (s₁.setTop (mkF m 14 #[.val (.long q1), .second, .val (.long q2), .second, .val (.int p3), .val (.long (q1 >>> ((p3 &&& (63 : Int32)) &&& 0x3f).toInt64)), .second, .unset, .unset, .unset, .unset, .unset, .unset, .unset] [(.int (6 : Int32)), (.int p3), (.long q2)])) _
    refine XS.iushr X0.here hx rfl (hb hby at_14) rfl ?_
    show Steps p.tables e below (s₁.setTop (mkF m 15 #[.val (.long q1), .second, .val (.long q2), .second, .val (.int p3), .val (.long (q1 >>> ((p3 &&& (63 : Int32)) &&& 0x3f).toInt64)), .second, .unset, .unset, .unset, .unset, .unset, .unset, .unset] [(.int ((p3.toUInt32 >>> ((6 : Int32) &&& 31).toUInt32).toInt32)), (.long q2)])) _
    refine XS.bipush X0.here hx rfl (hb hby at_15) ?_
    show Steps p.tables e below (s₁.setTop (mkF m 17 #[.val (.long q1), .second, .val (.long q2), .second, .val (.int p3), .val (.long (q1 >>> ((p3 &&& (63 : Int32)) &&& 0x3f).toInt64)), .second, .unset, .unset, .unset, .unset, .unset, .unset, .unset] [(.int (63 : Int32)), (.int ((p3.toUInt32 >>> ((6 : Int32) &&& 31).toUInt32).toInt32)), (.long q2)])) _
    refine XS.iand X0.here hx rfl (hb hby at_17) rfl ?_
    show Steps p.tables e below (s₁.setTop (mkF m 18 #[.val (.long q1), .second, .val (.long q2), .second, .val (.int p3), .val (.long (q1 >>> ((p3 &&& (63 : Int32)) &&& 0x3f).toInt64)), .second, .unset, .unset, .unset, .unset, .unset, .unset, .unset] [(.int (((p3.toUInt32 >>> ((6 : Int32) &&& 31).toUInt32).toInt32) &&& (63 : Int32))), (.long q2)])) _
    refine XS.lshr X0.here hx rfl (hb hby at_18) rfl ?_
    show Steps p.tables e below (s₁.setTop (mkF m 19 #[.val (.long q1), .second, .val (.long q2), .second, .val (.int p3), .val (.long (q1 >>> ((p3 &&& (63 : Int32)) &&& 0x3f).toInt64)), .second, .unset, .unset, .unset, .unset, .unset, .unset, .unset] [(.long (q2 >>> ((((p3.toUInt32 >>> ((6 : Int32) &&& 31).toUInt32).toInt32) &&& (63 : Int32)) &&& 0x3f).toInt64))])) _
    refine XS.lstore X0.here hx rfl (hb hby at_19) rfl (l' := #[.val (.long q1), .second, .val (.long q2), .second, .val (.int p3), .val (.long (q1 >>> ((p3 &&& (63 : Int32)) &&& 0x3f).toInt64)), .second, .val (.long (q2 >>> ((((p3.toUInt32 >>> ((6 : Int32) &&& 31).toUInt32).toInt32) &&& (63 : Int32)) &&& 0x3f).toInt64)), .second, .unset, .unset, .unset, .unset, .unset]) rfl ?_
    show Steps p.tables e below (s₁.setTop (mkF m 21 #[.val (.long q1), .second, .val (.long q2), .second, .val (.int p3), .val (.long (q1 >>> ((p3 &&& (63 : Int32)) &&& 0x3f).toInt64)), .second, .val (.long (q2 >>> ((((p3.toUInt32 >>> ((6 : Int32) &&& 31).toUInt32).toInt32) &&& (63 : Int32)) &&& 0x3f).toInt64)), .second, .unset, .unset, .unset, .unset, .unset] [])) _
    refine XS.lload X0.here hx rfl (hb hby at_21) rfl ?_
    show Steps p.tables e below (s₁.setTop (mkF m 23 #[.val (.long q1), .second, .val (.long q2), .second, .val (.int p3), .val (.long (q1 >>> ((p3 &&& (63 : Int32)) &&& 0x3f).toInt64)), .second, .val (.long (q2 >>> ((((p3.toUInt32 >>> ((6 : Int32) &&& 31).toUInt32).toInt32) &&& (63 : Int32)) &&& 0x3f).toInt64)), .second, .unset, .unset, .unset, .unset, .unset] [(.long (q1 >>> ((p3 &&& (63 : Int32)) &&& 0x3f).toInt64))])) _
    refine XS.lload X0.here hx rfl (hb hby at_23) rfl ?_
    show Steps p.tables e below (s₁.setTop (mkF m 25 #[.val (.long q1), .second, .val (.long q2), .second, .val (.int p3), .val (.long (q1 >>> ((p3 &&& (63 : Int32)) &&& 0x3f).toInt64)), .second, .val (.long (q2 >>> ((((p3.toUInt32 >>> ((6 : Int32) &&& 31).toUInt32).toInt32) &&& (63 : Int32)) &&& 0x3f).toInt64)), .second, .unset, .unset, .unset, .unset, .unset] [(.long (q2 >>> ((((p3.toUInt32 >>> ((6 : Int32) &&& 31).toUInt32).toInt32) &&& (63 : Int32)) &&& 0x3f).toInt64)), (.long (q1 >>> ((p3 &&& (63 : Int32)) &&& 0x3f).toInt64))])) _
    refine st4 _ ?_
    show Steps p.tables e below (T4.setTop (mkF m 28 #[.val (.long q1), .second, .val (.long q2), .second, .val (.int p3), .val (.long (q1 >>> ((p3 &&& (63 : Int32)) &&& 0x3f).toInt64)), .second, .val (.long (q2 >>> ((((p3.toUInt32 >>> ((6 : Int32) &&& 31).toUInt32).toInt32) &&& (63 : Int32)) &&& 0x3f).toInt64)), .second, .unset, .unset, .unset, .unset, .unset] [(.long lo)])) _
    refine XS.lstore X4.here hx rfl (hb hby at_28) rfl (l' := #[.val (.long q1), .second, .val (.long q2), .second, .val (.int p3), .val (.long (q1 >>> ((p3 &&& (63 : Int32)) &&& 0x3f).toInt64)), .second, .val (.long (q2 >>> ((((p3.toUInt32 >>> ((6 : Int32) &&& 31).toUInt32).toInt32) &&& (63 : Int32)) &&& 0x3f).toInt64)), .second, .val (.long lo), .second, .unset, .unset, .unset]) rfl ?_
    show Steps p.tables e below (T4.setTop (mkF m 30 #[.val (.long q1), .second, .val (.long q2), .second, .val (.int p3), .val (.long (q1 >>> ((p3 &&& (63 : Int32)) &&& 0x3f).toInt64)), .second, .val (.long (q2 >>> ((((p3.toUInt32 >>> ((6 : Int32) &&& 31).toUInt32).toInt32) &&& (63 : Int32)) &&& 0x3f).toInt64)), .second, .val (.long lo), .second, .unset, .unset, .unset] [])) _
    refine XS.lload X4.here hx rfl (hb hby at_30) rfl ?_
    show Steps p.tables e below (T4.setTop (mkF m 32 #[.val (.long q1), .second, .val (.long q2), .second, .val (.int p3), .val (.long (q1 >>> ((p3 &&& (63 : Int32)) &&& 0x3f).toInt64)), .second, .val (.long (q2 >>> ((((p3.toUInt32 >>> ((6 : Int32) &&& 31).toUInt32).toInt32) &&& (63 : Int32)) &&& 0x3f).toInt64)), .second, .val (.long lo), .second, .unset, .unset, .unset] [(.long (q1 >>> ((p3 &&& (63 : Int32)) &&& 0x3f).toInt64))])) _
    refine XS.lload X4.here hx rfl (hb hby at_32) rfl ?_
    show Steps p.tables e below (T4.setTop (mkF m 34 #[.val (.long q1), .second, .val (.long q2), .second, .val (.int p3), .val (.long (q1 >>> ((p3 &&& (63 : Int32)) &&& 0x3f).toInt64)), .second, .val (.long (q2 >>> ((((p3.toUInt32 >>> ((6 : Int32) &&& 31).toUInt32).toInt32) &&& (63 : Int32)) &&& 0x3f).toInt64)), .second, .val (.long lo), .second, .unset, .unset, .unset] [(.long (q2 >>> ((((p3.toUInt32 >>> ((6 : Int32) &&& 31).toUInt32).toInt32) &&& (63 : Int32)) &&& 0x3f).toInt64)), (.long (q1 >>> ((p3 &&& (63 : Int32)) &&& 0x3f).toInt64))])) _
    refine st5 _ ?_
    show Steps p.tables e below (T5.setTop (mkF m 37 #[.val (.long q1), .second, .val (.long q2), .second, .val (.int p3), .val (.long (q1 >>> ((p3 &&& (63 : Int32)) &&& 0x3f).toInt64)), .second, .val (.long (q2 >>> ((((p3.toUInt32 >>> ((6 : Int32) &&& 31).toUInt32).toInt32) &&& (63 : Int32)) &&& 0x3f).toInt64)), .second, .val (.long lo), .second, .unset, .unset, .unset] [(.long hi)])) _
    refine XS.lstore X5.here hx rfl (hb hby at_37) rfl (l' := #[.val (.long q1), .second, .val (.long q2), .second, .val (.int p3), .val (.long (q1 >>> ((p3 &&& (63 : Int32)) &&& 0x3f).toInt64)), .second, .val (.long (q2 >>> ((((p3.toUInt32 >>> ((6 : Int32) &&& 31).toUInt32).toInt32) &&& (63 : Int32)) &&& 0x3f).toInt64)), .second, .val (.long lo), .second, .val (.long hi), .second, .unset]) rfl ?_
    show Steps p.tables e below (T5.setTop (mkF m 39 #[.val (.long q1), .second, .val (.long q2), .second, .val (.int p3), .val (.long (q1 >>> ((p3 &&& (63 : Int32)) &&& 0x3f).toInt64)), .second, .val (.long (q2 >>> ((((p3.toUInt32 >>> ((6 : Int32) &&& 31).toUInt32).toInt32) &&& (63 : Int32)) &&& 0x3f).toInt64)), .second, .val (.long lo), .second, .val (.long hi), .second, .unset] [])) _
    refine XS.lload X5.here hx rfl (hb hby at_39) rfl ?_
    show Steps p.tables e below (T5.setTop (mkF m 41 #[.val (.long q1), .second, .val (.long q2), .second, .val (.int p3), .val (.long (q1 >>> ((p3 &&& (63 : Int32)) &&& 0x3f).toInt64)), .second, .val (.long (q2 >>> ((((p3.toUInt32 >>> ((6 : Int32) &&& 31).toUInt32).toInt32) &&& (63 : Int32)) &&& 0x3f).toInt64)), .second, .val (.long lo), .second, .val (.long hi), .second, .unset] [(.long lo)])) _
    refine XS.lload X5.here hx rfl (hb hby at_41) rfl ?_
    show Steps p.tables e below (T5.setTop (mkF m 43 #[.val (.long q1), .second, .val (.long q2), .second, .val (.int p3), .val (.long (q1 >>> ((p3 &&& (63 : Int32)) &&& 0x3f).toInt64)), .second, .val (.long (q2 >>> ((((p3.toUInt32 >>> ((6 : Int32) &&& 31).toUInt32).toInt32) &&& (63 : Int32)) &&& 0x3f).toInt64)), .second, .val (.long lo), .second, .val (.long hi), .second, .unset] [(.long hi), (.long lo)])) _
    refine st6 _ ?_
    show Steps p.tables e below (T6.setTop (mkF m 46 #[.val (.long q1), .second, .val (.long q2), .second, .val (.int p3), .val (.long (q1 >>> ((p3 &&& (63 : Int32)) &&& 0x3f).toInt64)), .second, .val (.long (q2 >>> ((((p3.toUInt32 >>> ((6 : Int32) &&& 31).toUInt32).toInt32) &&& (63 : Int32)) &&& 0x3f).toInt64)), .second, .val (.long lo), .second, .val (.long hi), .second, .unset] [(.int (own_W lo hi))])) _
    refine XS.istore X6.here hx rfl (hb hby at_46) rfl (l' := #[.val (.long q1), .second, .val (.long q2), .second, .val (.int p3), .val (.long (q1 >>> ((p3 &&& (63 : Int32)) &&& 0x3f).toInt64)), .second, .val (.long (q2 >>> ((((p3.toUInt32 >>> ((6 : Int32) &&& 31).toUInt32).toInt32) &&& (63 : Int32)) &&& 0x3f).toInt64)), .second, .val (.long lo), .second, .val (.long hi), .second, .val (.int (own_W lo hi))]) rfl ?_
    show Steps p.tables e below (T6.setTop (mkF m 48 #[.val (.long q1), .second, .val (.long q2), .second, .val (.int p3), .val (.long (q1 >>> ((p3 &&& (63 : Int32)) &&& 0x3f).toInt64)), .second, .val (.long (q2 >>> ((((p3.toUInt32 >>> ((6 : Int32) &&& 31).toUInt32).toInt32) &&& (63 : Int32)) &&& 0x3f).toInt64)), .second, .val (.long lo), .second, .val (.long hi), .second, .val (.int (own_W lo hi))] [])) _
    refine XS.iload X6.here hx rfl (hb hby at_48) rfl ?_
    show Steps p.tables e below (T6.setTop (mkF m 50 #[.val (.long q1), .second, .val (.long q2), .second, .val (.int p3), .val (.long (q1 >>> ((p3 &&& (63 : Int32)) &&& 0x3f).toInt64)), .second, .val (.long (q2 >>> ((((p3.toUInt32 >>> ((6 : Int32) &&& 31).toUInt32).toInt32) &&& (63 : Int32)) &&& 0x3f).toInt64)), .second, .val (.long lo), .second, .val (.long hi), .second, .val (.int (own_W lo hi))] [(.int (own_W lo hi))])) _
    refine XS.lload X6.here hx rfl (hb hby at_50) rfl ?_
    show Steps p.tables e below (T6.setTop (mkF m 52 #[.val (.long q1), .second, .val (.long q2), .second, .val (.int p3), .val (.long (q1 >>> ((p3 &&& (63 : Int32)) &&& 0x3f).toInt64)), .second, .val (.long (q2 >>> ((((p3.toUInt32 >>> ((6 : Int32) &&& 31).toUInt32).toInt32) &&& (63 : Int32)) &&& 0x3f).toInt64)), .second, .val (.long lo), .second, .val (.long hi), .second, .val (.int (own_W lo hi))] [(.long lo), (.int (own_W lo hi))])) _
    refine XS.lload X6.here hx rfl (hb hby at_52) rfl ?_
    show Steps p.tables e below (T6.setTop (mkF m 54 #[.val (.long q1), .second, .val (.long q2), .second, .val (.int p3), .val (.long (q1 >>> ((p3 &&& (63 : Int32)) &&& 0x3f).toInt64)), .second, .val (.long (q2 >>> ((((p3.toUInt32 >>> ((6 : Int32) &&& 31).toUInt32).toInt32) &&& (63 : Int32)) &&& 0x3f).toInt64)), .second, .val (.long lo), .second, .val (.long hi), .second, .val (.int (own_W lo hi))] [(.long hi), (.long lo), (.int (own_W lo hi))])) _
    refine st7 _ ?_
    show Steps p.tables e below (T7.setTop (mkF m 57 #[.val (.long q1), .second, .val (.long q2), .second, .val (.int p3), .val (.long (q1 >>> ((p3 &&& (63 : Int32)) &&& 0x3f).toInt64)), .second, .val (.long (q2 >>> ((((p3.toUInt32 >>> ((6 : Int32) &&& 31).toUInt32).toInt32) &&& (63 : Int32)) &&& 0x3f).toInt64)), .second, .val (.long lo), .second, .val (.long hi), .second, .val (.int (own_W lo hi))] [(.int (own_W lo hi)), (.int (own_W lo hi))])) _
    refine XS.icmpNo X7.here hx rfl (hb hby at_57) rfl (teq (rfl : (own_W lo hi) = (own_W lo hi))).2 ?_
    show Steps p.tables e below (T7.setTop (mkF m 60 #[.val (.long q1), .second, .val (.long q2), .second, .val (.int p3), .val (.long (q1 >>> ((p3 &&& (63 : Int32)) &&& 0x3f).toInt64)), .second, .val (.long (q2 >>> ((((p3.toUInt32 >>> ((6 : Int32) &&& 31).toUInt32).toInt32) &&& (63 : Int32)) &&& 0x3f).toInt64)), .second, .val (.long lo), .second, .val (.long hi), .second, .val (.int (own_W lo hi))] [])) _
    refine XS.iconst X7.here hx rfl (hb hby at_60) ?_
    show Steps p.tables e below (T7.setTop (mkF m 61 #[.val (.long q1), .second, .val (.long q2), .second, .val (.int p3), .val (.long (q1 >>> ((p3 &&& (63 : Int32)) &&& 0x3f).toInt64)), .second, .val (.long (q2 >>> ((((p3.toUInt32 >>> ((6 : Int32) &&& 31).toUInt32).toInt32) &&& (63 : Int32)) &&& 0x3f).toInt64)), .second, .val (.long lo), .second, .val (.long hi), .second, .val (.int (own_W lo hi))] [(.int (1 : Int32))])) _
    refine XS.goto X7.here hx rfl (pc0 := 61) (pc' := 65) rfl (hb hby at_61) (by decide) (by decide) ?_
    show Steps p.tables e below (T7.setTop (mkF m 65 #[.val (.long q1), .second, .val (.long q2), .second, .val (.int p3), .val (.long (q1 >>> ((p3 &&& (63 : Int32)) &&& 0x3f).toInt64)), .second, .val (.long (q2 >>> ((((p3.toUInt32 >>> ((6 : Int32) &&& 31).toUInt32).toInt32) &&& (63 : Int32)) &&& 0x3f).toInt64)), .second, .val (.long lo), .second, .val (.long hi), .second, .val (.int (own_W lo hi))] [(.int (1 : Int32))])) _
    exact retN X7 hx (t := .boolean) Bd.returns (by simp) (hb hby at_65) hr
  · show Q0 h0 n0 _ T7.heap _
    exact ⟨rfl, N7⟩
set_option maxRecDepth 65536 in
set_option maxHeartbeats 40000000 in
theorem comes_1 {Post : Tables → Env → Array Value → State → Outcome → State → Prop} (hpost : ∀ tb e args s v u, (limb_1_1.after args s (.returned v) u = true ∧ limb_1_2.after args s (.returned v) u = true ∧ True) → FrameEnd s (.returned v) u (Jvm.fieldLocs frame_1_writes args s ++ Jvm.arrayLocs frame_1_arrays args s ++ Jvm.staticLocs frame_1_statics s) 0 0 → Post tb e args s (.returned v) u) :
    ArmFor flags0 classFile x code maxLocals ret World_1 tables_1 room_1 Calls_1 rest_1 Pre_1 Post := by
  intro l hfl _ _ p e ha hc hk s m args below hf hA hF happ hP
  obtain ⟨hcalls, hrest, hpre⟩ := hP
  obtain ⟨-, -, -, hnamed, -, -, -, hat⟩ := (Spec.applies_iff hf).mp happ
  obtain ⟨hg, hn⟩ := and_e (Cond.before_iff.mp (show (Jvm.Cond.and given_1 narrow_1).before args s = true from hpre))
  obtain ⟨g8, g9⟩ := and_e hg
  obtain ⟨g10, g11⟩ := and_e g9
  obtain ⟨g12, g13⟩ := and_e g11
  obtain ⟨w0, w1, w2, rfl⟩ : ∃ w0 w1 w2 : Value, args = #[w0, w1, w2] := by
    have hs : args.size = 3 := by simpa [Cond.value, given_1] using g8
    obtain ⟨L⟩ := args
    match L, hs with
    | [w0, w1, w2], _ => exact ⟨w0, w1, w2, rfl⟩
  have hw := fun d (hd : d ∈ tables_1) => atoms_spec (ws := Jvm.Cond.code x code maxLocals ret :: tables_1) hat d (List.mem_cons_of_mem _ hd)
  have hfit : Fit s := fun {y c} hc i hi => by
    obtain ⟨ha, rfl⟩ := Array.getElem?_eq_some_iff.mp hc
    have q := List.all_eq_true.mp ((Array.all_eq_true_iff_forall_mem.mp hF) _ (Array.getElem_mem ha)) i (List.mem_range.mpr hi)
    simpa [Array.getElem?_eq_getElem hi] using q
  obtain ⟨i0, ei0⟩ := isL_v g10
  obtain rfl : w0 = (.long i0) := Option.some.inj ei0
  obtain ⟨i1, ei1⟩ := isL_v g12
  obtain rfl : w1 = (.long i1) := Option.some.inj ei1
  obtain ⟨i2, ei2⟩ := is_v g13
  obtain rfl : w2 = (.int i2) := Option.some.inj ei2
  obtain ⟨n, o, h1, h2, h3, _, L, rfl, ⟨rfl, N⟩, hq⟩ := rm0 l s _ hw tables_1 i0 i1 i2 s.heap s.heap.size (Nat.le_refl _) p e ha hc hk s m _ below hf ((Spec.applies_iff_loose hf).mp happ).1 ⟨rfl, State.Warmed39.refl s, rfl⟩ trivial
  refine ⟨n, _, h1, h2, h3, hpost _ _ _ _ _ _ ⟨Cond.after_iff.mpr rfl, Cond.after_iff.mpr (eq_i res_at (Term.int_eval (1)) rfl), trivial⟩ ⟨hq.1, hq.2.1, (hq.2.2.sift fun y hy => Or.inr (N y hy)).mono (by decide) (by decide)⟩⟩
theorem main_1_1 : Claimed_1_1 := comes_1 fun _ _ _ _ _ _ h hF => ⟨h.1, hF⟩
theorem main_1_2 : Claimed_1_2 := comes_1 fun _ _ _ _ _ _ h hF => ⟨h.2.1, hF⟩

end Jvm.Pilot.@@N@@
namespace Jvm.Pilot.@@N@@
open Jvm Jvm.ClassFile Sem Op Lib Jvm.Free Jvm.Stand Jvm.Pilot.@@N@@.Jvm.D
/-! MADE BY PROGRAM (witnessworld.py) out of the Statement's table words and the real class files: 10 classes; the members and pool entries that the words name. The judged class is class 1, her method 2. -/
namespace start1
open Jvm.ClassFile
def u (s : String) : CpInfo := .utf8 (stringToUtf16 s)
/-- a pool by its gaps: so many unusable entries, then the entry; so many at the end -/
def gap : Nat → List CpInfo → List CpInfo
  | 0, r => r
  | n + 1, r => .unusable :: gap n r
def poolList (es : List (Nat × CpInfo)) (last : Nat) : List CpInfo := es.foldr (fun e r => gap e.1 (e.2 :: r)) (gap last [])
def pool (es : List (Nat × CpInfo)) (last : Nat) : Array CpInfo := ⟨poolList es last⟩
def fileOf (pool : Array CpInfo) (this : Nat) (attrs : Array Attribute := #[]) (ms : Array MethodInfo := #[]) (fl : Nat := 33) (sup : Nat := 0) (ifs : Array Nat := #[]) (fds : Array FieldInfo := #[]) : ClassFile where
  minorVersion := 0
  majorVersion := 65
  constantPool := pool
  accessFlags := fl
  thisClass := this
  superClass := sup
  interfaces := ifs
  fields := fds
  methods := ms
  attributes := attrs
def plain (name : String) (sup : Option ClassId) : Class where
  name := name
  kind := .ordinary
  loader := none
  accessFlags := 33
  super := sup
  interfaces := #[]
  cf := none
  fields := #[]
  methods := #[]
  instanceTypes := #[]
  staticTypes := #[]
  resolved := #[]
  callSites := []
  init := .initialized
  statics := none
  mirror := none

def pool0 : Array CpInfo := pool [(5, u "<init>"), (0, u "()V"), (1, .class_ 10), (1, u "java/lang/Object")] 113

def k0m0 : Method := { name := "<init>", desc := "()V", sig := { parameters := [], returnType := none }, accessFlags := 1, code := none }
/-- java/lang/Object -/
def k0 : Class := { plain "java/lang/Object" none with
  accessFlags := 33
  interfaces := #[]
  cf := some (fileOf pool0 8 #[] #[{ accessFlags := 1, nameIndex := 5, descriptorIndex := 6, attributes := #[] }] 33 0 #[] #[])
  fields := #[]
  methods := #[k0m0]
  instanceTypes := #[]
  staticTypes := #[]
  resolved := Array.replicate 124 none
  statics := none }

def pool1 : Array CpInfo := pool [(2, .class_ 4), (1, u "java/lang/Object"), (0, u "<init>"), (0, u "()V"), (0, .methodref 8 9), (0, .class_ 10), (0, .nameAndType 11 12), (0, u "java/lang/Math"), (0, u "min"), (0, u "(JJ)J"), (0, .methodref 8 14), (0, .nameAndType 15 12), (0, u "max"), (0, .methodref 17 18), (0, .class_ 19), (0, .nameAndType 20 21), (0, u "com/example/ballpark/ballpark/io/StoreFormat"), (0, u "width"), (0, u "(JJ)I"), (0, .methodref 23 24), (0, .class_ 25), (0, .nameAndType 26 21), (0, u "com/example/ballpark/ballpark/io/StoreFormatWidthPinLaw"), (0, u "reference"), (3, u "law"), (0, u "(JJI)Z")] 2

def k1m0 : Method := { name := "<init>", desc := "()V", sig := { parameters := [], returnType := none }, accessFlags := 2, code := none }
def k1c1 : Code := { maxStack := 4, maxLocals := 4, code := method_2_code, exceptionTable := #[], attributes := #[] }
def k1m1 : Method := { name := "reference", desc := "(JJ)I", sig := { parameters := [.long, .long], returnType := some .int }, accessFlags := 10, code := some k1c1 }
def k1c2 : Code := { maxStack := 5, maxLocals := 14, code := code, exceptionTable := #[], attributes := #[] }
def k1m2 : Method := { name := "law", desc := "(JJI)Z", sig := { parameters := [.long, .long, .int], returnType := some .boolean }, accessFlags := 9, code := some k1c2 }
/-- com/example/ballpark/ballpark/io/StoreFormatWidthPinLaw -/
def k1 : Class := { plain "com/example/ballpark/ballpark/io/StoreFormatWidthPinLaw" (some 0) with
  accessFlags := 49
  interfaces := #[]
  cf := some (fileOf pool1 23 #[] #[{ accessFlags := 2, nameIndex := 5, descriptorIndex := 6, attributes := #[] }, { accessFlags := 10, nameIndex := 26, descriptorIndex := 21, attributes := #[] }, { accessFlags := 9, nameIndex := 30, descriptorIndex := 31, attributes := #[] }] 49 2 #[] #[])
  fields := #[]
  methods := #[k1m0, k1m1, k1m2]
  instanceTypes := #[]
  staticTypes := #[]
  resolved := Array.replicate 34 none
  statics := none }

def pool2 : Array CpInfo := pool [(1, .class_ 2), (0, u "java/lang/Math"), (1, .class_ 6), (1, u "java/lang/Object"), (0, u "<init>"), (0, u "()V"), (89, .class_ 100), (1, u "java/lang/Math$RandomNumberGeneratorHolder"), (20, u "(JJ)J"), (50, u "negativeZeroFloatBits"), (0, u "J"), (2, u "negativeZeroDoubleBits"), (21, u "max"), (2, u "min"), (43, u "$assertionsDisabled"), (0, u "Z"), (91, u "twoToTheDoubleScaleDown"), (0, u "D"), (4, u "twoToTheDoubleScaleUp"), (9, u "E"), (3, u "PI"), (2, u "TAU"), (2, u "DEGREES_TO_RADIANS"), (0, u "RADIANS_TO_DEGREES")] 94

def k2m0 : Method := { name := "<init>", desc := "()V", sig := { parameters := [], returnType := none }, accessFlags := 2, code := none }
def k2c1 : Code := { maxStack := 4, maxLocals := 4, code := jdk_29_method_66_code, exceptionTable := #[], attributes := #[] }
def k2m1 : Method := { name := "max", desc := "(JJ)J", sig := { parameters := [.long, .long], returnType := some .long }, accessFlags := 9, code := some k2c1 }
def k2c2 : Code := { maxStack := 4, maxLocals := 4, code := jdk_29_method_70_code, exceptionTable := #[], attributes := #[] }
def k2m2 : Method := { name := "min", desc := "(JJ)J", sig := { parameters := [.long, .long], returnType := some .long }, accessFlags := 9, code := some k2c2 }
/-- java/lang/Math -/
def k2 : Class := { plain "java/lang/Math" (some 0) with
  accessFlags := 49
  interfaces := #[]
  cf := some (fileOf pool2 1 #[.nestMembers #[98]] #[{ accessFlags := 2, nameIndex := 7, descriptorIndex := 8, attributes := #[] }, { accessFlags := 9, nameIndex := 198, descriptorIndex := 121, attributes := #[] }, { accessFlags := 9, nameIndex := 201, descriptorIndex := 121, attributes := #[] }] 49 4 #[] #[{ accessFlags := 25, nameIndex := 354, descriptorIndex := 339, attributes := #[] }, { accessFlags := 25, nameIndex := 358, descriptorIndex := 339, attributes := #[] }, { accessFlags := 25, nameIndex := 361, descriptorIndex := 339, attributes := #[] }, { accessFlags := 26, nameIndex := 364, descriptorIndex := 339, attributes := #[] }, { accessFlags := 26, nameIndex := 365, descriptorIndex := 339, attributes := #[] }, { accessFlags := 26, nameIndex := 172, descriptorIndex := 173, attributes := #[] }, { accessFlags := 26, nameIndex := 176, descriptorIndex := 173, attributes := #[] }, { accessFlags := 8, nameIndex := 344, descriptorIndex := 339, attributes := #[] }, { accessFlags := 8, nameIndex := 338, descriptorIndex := 339, attributes := #[] }, { accessFlags := 4120, nameIndex := 245, descriptorIndex := 246, attributes := #[] }])
  fields := #[{ name := "E", type := .double, accessFlags := 25, slot := 0, constantValue := 0 }, { name := "PI", type := .double, accessFlags := 25, slot := 1, constantValue := 0 }, { name := "TAU", type := .double, accessFlags := 25, slot := 2, constantValue := 0 }, { name := "DEGREES_TO_RADIANS", type := .double, accessFlags := 26, slot := 3, constantValue := 0 }, { name := "RADIANS_TO_DEGREES", type := .double, accessFlags := 26, slot := 4, constantValue := 0 }, { name := "negativeZeroFloatBits", type := .long, accessFlags := 26, slot := 5, constantValue := 0 }, { name := "negativeZeroDoubleBits", type := .long, accessFlags := 26, slot := 6, constantValue := 0 }, { name := "twoToTheDoubleScaleUp", type := .double, accessFlags := 8, slot := 7, constantValue := 0 }, { name := "twoToTheDoubleScaleDown", type := .double, accessFlags := 8, slot := 8, constantValue := 0 }, { name := "$assertionsDisabled", type := .boolean, accessFlags := 4120, slot := 9, constantValue := 0 }]
  methods := #[k2m0, k2m1, k2m2]
  instanceTypes := #[]
  staticTypes := #[.double, .double, .double, .double, .double, .long, .long, .double, .double, .boolean]
  resolved := Array.replicate 460 none
  statics := none }

def pool3 : Array CpInfo := pool [(2, .class_ 4), (1, u "java/lang/Object"), (0, u "<init>"), (0, u "()V"), (12, .long 18446744073709551488), (1, .long 127), (3, .long 18446744073709518848), (1, .long 32767), (3, .long 18446744071562067968), (1, .long 2147483647), (1, .class_ 36), (0, u "com/example/ballpark/ballpark/io/StoreFormat"), (18, u "MAGIC"), (0, u "[B"), (35, u "HEADER"), (0, u "Ljava/lang/String;"), (1, u "VERSION"), (0, u "I"), (1, u "INPUT_ROWS"), (2, u "VALUES"), (2, u "NULLS"), (2, u "DIGITS"), (2, u "WORDS"), (2, u "WORD_STARTS"), (2, u "LISTS"), (2, u "LIST_STARTS"), (6, u "width"), (0, u "(JJ)I")] 26

def k3m0 : Method := { name := "<init>", desc := "()V", sig := { parameters := [], returnType := none }, accessFlags := 2, code := none }
def k3c1 : Code := { maxStack := 4, maxLocals := 4, code := prog_54_method_3_code, exceptionTable := #[], attributes := #[] }
def k3m1 : Method := { name := "width", desc := "(JJ)I", sig := { parameters := [.long, .long], returnType := some .int }, accessFlags := 8, code := some k3c1 }
/-- com/example/ballpark/ballpark/io/StoreFormat -/
def k3 : Class := { plain "com/example/ballpark/ballpark/io/StoreFormat" (some 0) with
  accessFlags := 48
  interfaces := #[]
  cf := some (fileOf pool3 35 #[] #[{ accessFlags := 2, nameIndex := 5, descriptorIndex := 6, attributes := #[] }, { accessFlags := 8, nameIndex := 126, descriptorIndex := 127, attributes := #[] }] 48 2 #[] #[{ accessFlags := 24, nameIndex := 92, descriptorIndex := 93, attributes := #[] }, { accessFlags := 24, nameIndex := 55, descriptorIndex := 56, attributes := #[] }, { accessFlags := 24, nameIndex := 95, descriptorIndex := 96, attributes := #[] }, { accessFlags := 24, nameIndex := 98, descriptorIndex := 93, attributes := #[] }, { accessFlags := 24, nameIndex := 101, descriptorIndex := 93, attributes := #[] }, { accessFlags := 24, nameIndex := 104, descriptorIndex := 93, attributes := #[] }, { accessFlags := 24, nameIndex := 107, descriptorIndex := 93, attributes := #[] }, { accessFlags := 24, nameIndex := 110, descriptorIndex := 93, attributes := #[] }, { accessFlags := 24, nameIndex := 113, descriptorIndex := 93, attributes := #[] }, { accessFlags := 24, nameIndex := 116, descriptorIndex := 93, attributes := #[] }, { accessFlags := 24, nameIndex := 119, descriptorIndex := 93, attributes := #[] }])
  fields := #[{ name := "HEADER", type := (.object "java/lang/String"), accessFlags := 24, slot := 0, constantValue := 0 }, { name := "MAGIC", type := (.array .byte), accessFlags := 24, slot := 1, constantValue := 0 }, { name := "VERSION", type := .int, accessFlags := 24, slot := 2, constantValue := 0 }, { name := "INPUT_ROWS", type := (.object "java/lang/String"), accessFlags := 24, slot := 3, constantValue := 0 }, { name := "VALUES", type := (.object "java/lang/String"), accessFlags := 24, slot := 4, constantValue := 0 }, { name := "NULLS", type := (.object "java/lang/String"), accessFlags := 24, slot := 5, constantValue := 0 }, { name := "DIGITS", type := (.object "java/lang/String"), accessFlags := 24, slot := 6, constantValue := 0 }, { name := "WORDS", type := (.object "java/lang/String"), accessFlags := 24, slot := 7, constantValue := 0 }, { name := "WORD_STARTS", type := (.object "java/lang/String"), accessFlags := 24, slot := 8, constantValue := 0 }, { name := "LISTS", type := (.object "java/lang/String"), accessFlags := 24, slot := 9, constantValue := 0 }, { name := "LIST_STARTS", type := (.object "java/lang/String"), accessFlags := 24, slot := 10, constantValue := 0 }]
  methods := #[k3m0, k3m1]
  instanceTypes := #[]
  staticTypes := #[(.object "java/lang/String"), (.array .byte), .int, (.object "java/lang/String"), (.object "java/lang/String"), (.object "java/lang/String"), (.object "java/lang/String"), (.object "java/lang/String"), (.object "java/lang/String"), (.object "java/lang/String"), (.object "java/lang/String")]
  resolved := Array.replicate 154 none
  statics := none }

def pool4 : Array CpInfo := pool [(1, u "java/lang/Cloneable"), (0, .class_ 1), (0, u "java/lang/Object"), (0, .class_ 3)] 3

/-- java/lang/Cloneable -/
def k4 : Class := { plain "java/lang/Cloneable" (some 0) with
  accessFlags := 1537
  interfaces := #[]
  cf := some (fileOf pool4 2 #[] #[] 1537 4 #[] #[])
  fields := #[]
  methods := #[]
  instanceTypes := #[]
  staticTypes := #[]
  resolved := Array.replicate 8 none
  statics := none }

def pool5 : Array CpInfo := pool [(1, u "java/io/Serializable"), (0, .class_ 1), (0, u "java/lang/Object"), (0, .class_ 3)] 3

/-- java/io/Serializable -/
def k5 : Class := { plain "java/io/Serializable" (some 0) with
  accessFlags := 1537
  interfaces := #[]
  cf := some (fileOf pool5 2 #[] #[] 1537 4 #[] #[])
  fields := #[]
  methods := #[]
  instanceTypes := #[]
  staticTypes := #[]
  resolved := Array.replicate 8 none
  statics := none }

/-- the primitive byte -/
def k6 : Class := { plain "byte" none with kind := .primitive 'B', accessFlags := 0x411 }
/-- [B -/
def k7 : Class := { plain "[B" (some 0) with kind := .array 6 .byte, interfaces := #[4, 5], accessFlags := 1041 }

/-- the primitive int -/
def k8 : Class := { plain "int" none with kind := .primitive 'I', accessFlags := 0x411 }
/-- [I -/
def k9 : Class := { plain "[I" (some 0) with kind := .array 8 .int, interfaces := #[4, 5], accessFlags := 1041 }

def heap : Heap := #[]
def classes : Array Class := #[k0, k1, k2, k3, k4, k5, k6, k7, k8, k9]
def interned : List (Array UInt16 × Addr) := []
def slotsUsed : Nat := 0
def theMethod : MethodId := ⟨1, 2⟩
def args0 : Array Value := #[.long 5, .long 300, .int 7]
def aboutOver (below : List Frame) : State where
  vm := { classes := classes, interned := interned.toArray }
  heap := heap
  slotsUsed := slotsUsed
  threads := #[{ frames := .invoking theMethod args0 :: below }]
def below0 : List Frame := [.native { method := ⟨0, 0⟩, args := #[] }]
def about1 : State := aboutOver below0
def p0 : Program := .bare "" "" ""
def e0 : Env := launch0.env 0 0 0
theorem w_frames : about1.frames = Frame.invoking theMethod args0 :: below0 := rfl
set_option maxRecDepth 65536 in
theorem w_args : argsFit about1.vm theMethod args0 = true := by decide +kernel
set_option maxRecDepth 65536 in
theorem w_heap : heapFits about1 = true := by decide +kernel
set_option maxRecDepth 65536 in
theorem w_runnable : about1.curStatus? = some .runnable := by decide +kernel
set_option maxRecDepth 65536 in
theorem w_alone : about1.alone = true := by decide +kernel
set_option maxRecDepth 65536 in
theorem w_named : about1.methodNamed? x = some theMethod := by decide +kernel
set_option maxRecDepth 65536 in
theorem w_hears : about1.hears theMethod below0 = true := by decide +kernel
set_option maxRecDepth 65536 in
theorem w_ripe : about1.ripe theMethod args0 below0 = true := by decide +kernel
theorem w_running : about1.status = .running := rfl
set_option maxRecDepth 65536 in
theorem w_room : about1.hasRoom e0.platform room_1 = true :=
  launch0.hasRoom_least _ room_1 (by decide +kernel) (by decide +kernel) (by decide +kernel) (by decide +kernel) (by decide +kernel) (by decide +kernel)
theorem allAtoms_all (ts : List Jvm.Cond) (a : Array Jvm.Value) (st : Jvm.State) : (allAtoms ts).before a st = ts.all (fun c => c.before a st) := by
  induction ts with
  | nil => rfl
  | cons c t ih =>
    show (Jvm.Cond.and c (allAtoms t)).before a st = _
    rw [Jvm.Cond.before_and, ih, List.all_cons]
def words1 : List Jvm.Cond := Jvm.Cond.code x code maxLocals ret :: tables_1
/-- a 'code' word, met by the world's own term for the bytes: nothing is compared byte by byte -/
theorem code_word {y : MethodName} {bytes : ByteArray} {mx : Nat} {rt : Option FieldType} {a : Array Value} {s : State} {m : MethodId} {meth : Method} {c : Code} (h1 : s.methodNamed? y = some m) (h2 : s.vm.method? m = some meth) (h3 : meth.code = some c) (h4 : c.code = bytes)
    (h5 : (c.maxLocals == mx && c.exceptionTable.isEmpty && decide (c.maxStack ≤ mostOperands) && decide (meth.sig.returnType = rt) && !meth.locks && decide (parseMethodDescriptor y.desc = some meth.sig)) = true) : (Jvm.Cond.code y bytes mx rt).before a s = true := by
  simp only [Bool.and_eq_true, beq_iff_eq, Bool.not_eq_true', decide_eq_true_eq] at h5
  obtain ⟨⟨⟨⟨⟨g1, g2⟩, g3⟩, g4⟩, g5⟩, g6⟩ := h5
  simp [Cond.before, Cond.holds, Cond.value, h1, h2, h3, h4, g1, g2, g3, g4, g5, g6]
def isCode : Jvm.Cond → Bool
  | .code _ _ _ _ => true
  | _ => false
theorem all_split {L : List Jvm.Cond} {P : Jvm.Cond → Bool} (h1 : L.all (fun c => isCode c || P c) = true) (h2 : ∀ c ∈ L.filter isCode, P c = true) : L.all P = true := by
  refine List.all_eq_true.mpr fun c hc => ?_
  have h := List.all_eq_true.mp h1 c hc
  rcases Bool.eq_false_or_eq_true (isCode c) with hi | hi
  · exact h2 c (List.mem_filter.mpr ⟨hc, hi⟩)
  · simpa [hi] using h
set_option maxRecDepth 65536 in
theorem w_c0 : (Jvm.Cond.code x code maxLocals ret).before args0 about1 = true := code_word (m := ⟨1, 2⟩) (meth := k1m2) (c := k1c2) (by decide +kernel) rfl rfl rfl (by decide +kernel)
set_option maxRecDepth 65536 in
theorem w_c1 : (Jvm.Cond.code ({ cls := "java/lang/Math", name := "min", desc := "(JJ)J" } : Jvm.MethodName) jdk_29_method_70_code (4 : Nat) (Option.some Jvm.ClassFile.FieldType.long)).before args0 about1 = true := code_word (m := ⟨2, 2⟩) (meth := k2m2) (c := k2c2) (by decide +kernel) rfl rfl rfl (by decide +kernel)
set_option maxRecDepth 65536 in
theorem w_c2 : (Jvm.Cond.code ({ cls := "java/lang/Math", name := "max", desc := "(JJ)J" } : Jvm.MethodName) jdk_29_method_66_code (4 : Nat) (Option.some Jvm.ClassFile.FieldType.long)).before args0 about1 = true := code_word (m := ⟨2, 1⟩) (meth := k2m1) (c := k2c1) (by decide +kernel) rfl rfl rfl (by decide +kernel)
set_option maxRecDepth 65536 in
theorem w_c3 : (Jvm.Cond.code ({ cls := "com/example/ballpark/ballpark/io/StoreFormat", name := "width", desc := "(JJ)I" } : Jvm.MethodName) prog_54_method_3_code (4 : Nat) (Option.some Jvm.ClassFile.FieldType.int)).before args0 about1 = true := code_word (m := ⟨3, 1⟩) (meth := k3m1) (c := k3c1) (by decide +kernel) rfl rfl rfl (by decide +kernel)
set_option maxRecDepth 65536 in
theorem w_c4 : (Jvm.Cond.code ({ cls := "com/example/ballpark/ballpark/io/StoreFormatWidthPinLaw", name := "reference", desc := "(JJ)I" } : Jvm.MethodName) method_2_code (4 : Nat) (Option.some Jvm.ClassFile.FieldType.int)).before args0 about1 = true := code_word (m := ⟨1, 1⟩) (meth := k1m1) (c := k1c1) (by decide +kernel) rfl rfl rfl (by decide +kernel)
def codes1 : List Jvm.Cond := [Jvm.Cond.code x code maxLocals ret, Jvm.Cond.code ({ cls := "java/lang/Math", name := "min", desc := "(JJ)J" } : Jvm.MethodName) jdk_29_method_70_code (4 : Nat) (Option.some Jvm.ClassFile.FieldType.long), Jvm.Cond.code ({ cls := "java/lang/Math", name := "max", desc := "(JJ)J" } : Jvm.MethodName) jdk_29_method_66_code (4 : Nat) (Option.some Jvm.ClassFile.FieldType.long), Jvm.Cond.code ({ cls := "com/example/ballpark/ballpark/io/StoreFormat", name := "width", desc := "(JJ)I" } : Jvm.MethodName) prog_54_method_3_code (4 : Nat) (Option.some Jvm.ClassFile.FieldType.int), Jvm.Cond.code ({ cls := "com/example/ballpark/ballpark/io/StoreFormatWidthPinLaw", name := "reference", desc := "(JJ)I" } : Jvm.MethodName) method_2_code (4 : Nat) (Option.some Jvm.ClassFile.FieldType.int)]
set_option maxRecDepth 65536 in
theorem codes_eq : words1.filter isCode = codes1 := rfl
theorem w_codes : ∀ c ∈ words1.filter isCode, c.before args0 about1 = true := by
  rw [codes_eq]
  intro c hc
  simp only [codes1, List.mem_cons, List.not_mem_nil, or_false] at hc
  rcases hc with rfl | rfl | rfl | rfl | rfl
  · exact w_c0
  · exact w_c1
  · exact w_c2
  · exact w_c3
  · exact w_c4
set_option maxRecDepth 65536 in
theorem w_t1 : words1.all (fun c => isCode c || c.before args0 about1) = true := by decide +kernel
theorem w_tables : (allAtoms (Jvm.Cond.code x code maxLocals ret :: tables_1)).before args0 about1 = true := by
  rw [allAtoms_all]
  show words1.all (fun c => c.before args0 about1) = true
  refine all_split ?_ w_codes
  rw [w_t1]
set_option maxRecDepth 65536 in
theorem w_case : (Jvm.Cond.and given_1 narrow_1).before args0 about1 = true := by decide +kernel
theorem w_applies : (headSpec (Jvm.Cond.code x code maxLocals ret :: tables_1) room_1).applies x e0.platform about1 = true :=
  (Spec.applies_iff w_frames).mpr ⟨w_running, w_runnable, w_alone, w_named, w_hears, w_ripe, w_room, w_tables⟩
theorem atStart : AtStart classFile x code maxLocals ret World_1 tables_1 room_1 Calls_1 rest_1 Pre_1 launch0 p0 e0 about1 theMethod args0 below0 :=
  ⟨lists_1, trivial, launch0.admits_env _ _ _, launch0.least_env, fairChoices_fair.cas, fairChoices_fair.clock, w_frames, w_args, w_heap, w_applies, trivial, trivial, w_case⟩
end start1
theorem witness_1 : WitnessClaimed_1 := ⟨start1.p0, start1.e0, start1.about1, start1.theMethod, start1.args0, start1.below0, start1.atStart⟩
end Jvm.Pilot.@@N@@
