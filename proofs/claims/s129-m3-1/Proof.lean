import JvmDerived
import JvmDerived.Pilot.@@N@@Statement
import JvmDerived.Pilot.@@N@@Code
set_option linter.unusedVariables false
set_option linter.unusedSimpArgs false
@@BLOCK:HandJ.lean.txt@@
@@BLOCK:HandW.lean.txt@@
@@BLOCK:HandBits.lean.txt@@
@@BLOCK:MathCallees.lean.txt@@
@@BLOCK:SymRun.lean.txt@@
@@BLOCK:RowBasics.lean.txt@@
@@BLOCK:Bridge.lean.txt@@
@@BLOCK:SymKit.lean.txt@@
@@BLOCK:SymWays.lean.txt@@
@@BLOCK:NumsL.lean.txt@@
namespace Jvm.Pilot.@@N@@
open Jvm Jvm.ClassFile Sem Op Jvm.Sym Jvm.Pilot.@@N@@.Jvm.D
def yroom : Room := { frames := 1, cells := 0, slots := 0, locals := 20 }
def y : MethodName := ⟨"com/example/glossator/glossator/Capacity", "grown", "(II)I"⟩
def ycode : ByteArray := prog_2_method_2_code
def yI : Info := { own := "com/example/glossator/glossator/Capacity", ret := some .int, ints := [(11, 2147483639)], longs := [(19, 2), (21, 2147483639)], shut := [10], calls := [(23, Kit.MathC.minL.callee), (29, Kit.MathC.maxL.callee)], maxLocals := 2, room := yroom }
def yout : Option (Cond × List Cond × List Cond) := walk yI ycode 400 (entry [.int, .int] 2)
theorem ywalks : yout.isSome = true := by decide +kernel
def ygot : Cond × List Cond × List Cond := yout.get ywalks
def yspec : Spec := specOf y ycode 2 (some .int) [.int, .int] ygot.1 ygot.2.1 ygot.2.2 yroom
theorem ymeets (l : Launch) : MeetsLoose l y yspec :=
  walk_meets (n := 400) (I := yI) (by decide) rfl rfl (show walk yI ycode 400 (entry [.int, .int] 2) = some (ygot.1, ygot.2.1, ygot.2.2) from (Option.some_get ywalks).symm)
    (fun q hq => by
      simp only [yI, List.mem_cons, List.not_mem_nil, or_false] at hq
      rcases hq with rfl | rfl
      · exact ⟨rfl, rfl, Kit.MathC.minL.meets l, Kit.MathC.minL.cold⟩
      · exact ⟨rfl, rfl, Kit.MathC.maxL.meets l, Kit.MathC.maxL.cold⟩)
theorem ycold : yspec.Cold := Spec.cold_of_keeps (by decide +kernel)
def ycallee : Callee := { y := y, S := yspec, bytes := ycode, maxL := 2, ret := some .int, static := true, params := 2, res := some .int }
def I : Info := { own := x.cls, ret := ret, ints := [(7, 2147483639), (8, 2147483647), (15, 1073741819)], calls := [(9, ycallee)], maxLocals := maxLocals, room := room_1 }
def w := walkTo I code [] 400 true (entry [.int, .int] maxLocals)
/-! own kit: kinds of closed terms, guards that are worth something, needs, a tree followed by rules -/
def own_b (p q : Option VKind) (k1 k2 r : VKind) : Option VKind := if p = some k1 ∧ q = some k2 then some r else none
def own_op2 : Binary → Option (VKind × VKind × VKind)
  | .iand => some (.int, .int, .int) | .ior => some (.int, .int, .int) | .ixor => some (.int, .int, .int)
  | .ishl => some (.int, .int, .int) | .ishr => some (.int, .int, .int) | .iushr => some (.int, .int, .int)
  | .ladd => some (.long, .long, .long) | .lsub => some (.long, .long, .long) | .lmul => some (.long, .long, .long)
  | .land => some (.long, .long, .long) | .lor => some (.long, .long, .long) | .lxor => some (.long, .long, .long)
  | .lcmp => some (.long, .long, .int)
  | .lshl => some (.long, .int, .long) | .lshr => some (.long, .int, .long) | .lushr => some (.long, .int, .long)
  | _ => none
def own_op1 : Unary → Option (VKind × VKind)
  | .ineg => some (.int, .int) | .i2b => some (.int, .int) | .i2c => some (.int, .int) | .i2s => some (.int, .int)
  | .i2l => some (.int, .long) | .l2i => some (.long, .int) | .lneg => some (.long, .long)
  | _ => none
/-- ex: terms with a division whose divisor is no literal, known to be ints -/
def own_ty (ks : List VKind) (ex : List Term) : Term → Option VKind
  | .arg i => ks[i]?
  | .int _ => some .int
  | .long _ => some .long
  | .old t => own_ty ks ex t
  | .add a b => own_b (own_ty ks ex a) (own_ty ks ex b) .int .int .int
  | .sub a b => own_b (own_ty ks ex a) (own_ty ks ex b) .int .int .int
  | .mul a b => own_b (own_ty ks ex a) (own_ty ks ex b) .int .int .int
  | .div a b => if ex.contains (.div a b) then some .int else none
  | .rem a b => if ex.contains (.rem a b) then some .int else none
  | .op2 o a b => match own_op2 o with
    | some (k1, k2, r) => own_b (own_ty ks ex a) (own_ty ks ex b) k1 k2 r
    | none => none
  | .op1 o a => match own_op1 o with
    | some (k1, r) => if own_ty ks ex a = some k1 then some r else none
    | none => none
  | _ => none
def own_is : VKind → Option Value → Prop
  | .int, v => ∃ x, v = some (.int x)
  | .long, v => ∃ x, v = some (.long x)
  | .ref, _ => False
theorem own_op2_ok {o : Binary} {k1 k2 r : VKind} {u v : Option Value} (h : own_op2 o = some (k1, k2, r)) (hu : own_is k1 u) (hv : own_is k2 v) : own_is r (do o.apply (← u) (← v)) := by
  cases o <;> simp only [own_op2, Option.some.injEq, Prod.mk.injEq, reduceCtorEq] at h <;> obtain ⟨rfl, rfl, rfl⟩ := h <;> obtain ⟨x, rfl⟩ := hu <;> obtain ⟨y, rfl⟩ := hv <;> exact ⟨_, rfl⟩
theorem own_op1_ok {o : Unary} {k1 r : VKind} {u : Option Value} (h : own_op1 o = some (k1, r)) (hu : own_is k1 u) : own_is r (do o.apply (← u)) := by
  cases o <;> simp only [own_op1, Option.some.injEq, Prod.mk.injEq, reduceCtorEq] at h <;> obtain ⟨rfl, rfl⟩ := h <;> obtain ⟨x, rfl⟩ := hu <;> exact ⟨_, rfl⟩
theorem own_b_ok {p q : Option VKind} {k1 k2 r k : VKind} (h : own_b p q k1 k2 r = some k) : p = some k1 ∧ q = some k2 ∧ k = r := by
  unfold own_b at h
  split at h
  · rename_i h1; cases h; exact ⟨h1.1, h1.2, rfl⟩
  · cases h
section OwnKit
variable {ks : List VKind} {ex : List Term} {A : Array Value} {s : State}
theorem own_ty_ok (hA : ∀ (i : Nat) (k : VKind), ks[i]? = some k → own_is k A[i]?) (hE : ∀ t ∈ ex, ∃ x, t.eval A s none [] s = some (.int x)) (t : Term) : ∀ k, own_ty ks ex t = some k → own_is k (t.eval A s none [] s) := by
  induction t with
  | arg i => intro k h; exact hA i k h
  | int v => intro k h; cases h; exact ⟨v, rfl⟩
  | long v => intro k h; cases h; exact ⟨v, rfl⟩
  | old t ih => intro k h; exact ih k h
  | add a b iha ihb => intro k h; obtain ⟨h1, h2, rfl⟩ := own_b_ok h; obtain ⟨x, hx⟩ := iha _ h1; obtain ⟨y, hy⟩ := ihb _ h2; exact ⟨x + y, by simp [Term.eval, hx, hy]⟩
  | sub a b iha ihb => intro k h; obtain ⟨h1, h2, rfl⟩ := own_b_ok h; obtain ⟨x, hx⟩ := iha _ h1; obtain ⟨y, hy⟩ := ihb _ h2; exact ⟨x - y, by simp [Term.eval, hx, hy]⟩
  | mul a b iha ihb => intro k h; obtain ⟨h1, h2, rfl⟩ := own_b_ok h; obtain ⟨x, hx⟩ := iha _ h1; obtain ⟨y, hy⟩ := ihb _ h2; exact ⟨x * y, by simp [Term.eval, hx, hy]⟩
  | div a b iha ihb => intro k h; simp only [own_ty] at h; split at h; · rename_i h1; cases h; exact hE _ (List.contains_iff_mem.mp h1)
                       · cases h
  | rem a b iha ihb => intro k h; simp only [own_ty] at h; split at h; · rename_i h1; cases h; exact hE _ (List.contains_iff_mem.mp h1)
                       · cases h
  | op2 o a b iha ihb =>
    intro k h
    simp only [own_ty] at h
    split at h
    · rename_i k1 k2 r h0; obtain ⟨h1, h2, rfl⟩ := own_b_ok h; exact own_op2_ok h0 (iha _ h1) (ihb _ h2)
    · cases h
  | op1 o a iha =>
    intro k h
    simp only [own_ty] at h
    split at h
    · rename_i k1 r h0
      split at h
      · rename_i h1; cases h; exact own_op1_ok h0 (iha _ h1)
      · cases h
    · cases h
  | _ => intro k h; simp [own_ty] at h
def own_two (p q : Option VKind) : Bool := (p == some .int && q == some .int) || (p == some .long && q == some .long)
def own_def (ks : List VKind) (ex : List Term) : Cond → Bool
  | .lt a b => own_two (own_ty ks ex a) (own_ty ks ex b)
  | .le a b => own_two (own_ty ks ex a) (own_ty ks ex b)
  | .eq a b => own_two (own_ty ks ex a) (own_ty ks ex b)
  | .not c => own_def ks ex c
  | _ => false
theorem own_two_ok (hA : ∀ (i : Nat) (k : VKind), ks[i]? = some k → own_is k A[i]?) (hE : ∀ t ∈ ex, ∃ x, t.eval A s none [] s = some (.int x)) {a b : Term} (h : own_two (own_ty ks ex a) (own_ty ks ex b) = true) :
    (∃ x y, a.eval A s none [] s = some (.int x) ∧ b.eval A s none [] s = some (.int y)) ∨ (∃ x y, a.eval A s none [] s = some (.long x) ∧ b.eval A s none [] s = some (.long y)) := by
  simp only [own_two, Bool.or_eq_true, Bool.and_eq_true, beq_iff_eq] at h
  rcases h with ⟨h1, h2⟩ | ⟨h1, h2⟩
  · obtain ⟨x, hx⟩ := own_ty_ok hA hE a _ h1; obtain ⟨y, hy⟩ := own_ty_ok hA hE b _ h2; exact Or.inl ⟨x, y, hx, hy⟩
  · obtain ⟨x, hx⟩ := own_ty_ok hA hE a _ h1; obtain ⟨y, hy⟩ := own_ty_ok hA hE b _ h2; exact Or.inr ⟨x, y, hx, hy⟩
theorem own_def_ok (hA : ∀ (i : Nat) (k : VKind), ks[i]? = some k → own_is k A[i]?) (hE : ∀ t ∈ ex, ∃ x, t.eval A s none [] s = some (.int x)) (c : Cond) : own_def ks ex c = true → ∃ b, c.value A s none s [] = some b := by
  induction c with
  | lt a b => intro h; rcases own_two_ok hA hE h with ⟨x, y, hx, hy⟩ | ⟨x, y, hx, hy⟩ <;> exact ⟨decide (x < y), by simp [Cond.value, hx, hy]⟩
  | le a b => intro h; rcases own_two_ok hA hE h with ⟨x, y, hx, hy⟩ | ⟨x, y, hx, hy⟩ <;> exact ⟨decide (x ≤ y), by simp [Cond.value, hx, hy]⟩
  | eq a b => intro h; rcases own_two_ok hA hE h with ⟨x, y, hx, hy⟩ | ⟨x, y, hx, hy⟩ <;> exact ⟨decide (x = y), by simp [Cond.value, hx, hy]⟩
  | not c ih => intro h; obtain ⟨b, hb⟩ := ih h; exact ⟨!b, by simp [Cond.value, hb]⟩
  | _ => intro h; simp [own_def] at h
def own_nd (ks : List VKind) (ex : List Term) (T : List Cond) (q : Cond) : Bool :=
  T.contains q || match q with
  | .tt => true
  | .isInt t => own_ty ks ex t == some .int
  | .isLong t => own_ty ks ex t == some .long
  | .and a b => own_nd ks ex T a && own_nd ks ex T b
  | .or a b => own_def ks ex a && own_nd ks ex T b
  | _ => false
theorem own_nd_ok {T : List Cond} (hA : ∀ (i : Nat) (k : VKind), ks[i]? = some k → own_is k A[i]?) (hE : ∀ t ∈ ex, ∃ x, t.eval A s none [] s = some (.int x)) (hT : ∀ c ∈ T, c.value A s none s [] = some true) (q : Cond) : own_nd ks ex T q = true → q.value A s none s [] = some true := by
  induction q with
  | tt => intro _; rfl
  | isInt t => intro h; unfold own_nd at h; simp only [Bool.or_eq_true, beq_iff_eq] at h; rcases h with h | h
               · exact hT _ (List.contains_iff_mem.mp h)
               · obtain ⟨x, hx⟩ := own_ty_ok hA hE t _ h; simp [Cond.value, hx]
  | isLong t => intro h; unfold own_nd at h; simp only [Bool.or_eq_true, beq_iff_eq] at h; rcases h with h | h
                · exact hT _ (List.contains_iff_mem.mp h)
                · obtain ⟨x, hx⟩ := own_ty_ok hA hE t _ h; simp [Cond.value, hx]
  | and a b iha ihb => intro h; unfold own_nd at h; simp only [Bool.or_eq_true, Bool.and_eq_true] at h; rcases h with h | h
                       · exact hT _ (List.contains_iff_mem.mp h)
                       · simp [Cond.value, iha h.1, ihb h.2]
  | or a b iha ihb => intro h; unfold own_nd at h; simp only [Bool.or_eq_true, Bool.and_eq_true] at h; rcases h with h | h
                      · exact hT _ (List.contains_iff_mem.mp h)
                      · obtain ⟨v, hv⟩ := own_def_ok hA hE a h.1
                        cases v <;> simp [Cond.value, hv, ihb h.2]
  | _ => intro h; unfold own_nd at h; simp only [Bool.or_false] at h; exact hT _ (List.contains_iff_mem.mp h)
theorem own_needs {L T : List Cond} (hA : ∀ (i : Nat) (k : VKind), ks[i]? = some k → own_is k A[i]?) (hE : ∀ t ∈ ex, ∃ x, t.eval A s none [] s = some (.int x)) (hT : ∀ c ∈ T, c.value A s none s [] = some true) (h : (L.all fun q => own_nd ks ex T q) = true) : ∀ q ∈ L, q.before A s = true :=
  fun q hq => before_of_value (own_nd_ok hA hE hT q (List.all_eq_true.mp h q hq))
/-- what a guard is worth, by what is known and by rules: (these hold, these fail, then this one is so) -/
def own_rd (R : List (List Cond × List Cond × Cond × Bool)) (T F : List Cond) (G : Cond) : Option Bool :=
  if T.contains G then some true else if F.contains G then some false else
  (R.find? fun r => decide (r.2.2.1 = G) && r.1.all (fun c => T.contains c) && r.2.1.all (fun c => F.contains c)).map fun r => r.2.2.2
def own_ok (ks : List VKind) (ex : List Term) (R : List (List Cond × List Cond × Cond × Bool)) : STree → List Cond → List Cond → Bool
  | .ret (some x) _, _, _ => decide (x.t = .op2 .iand (.int 1) (.int 1))
  | .ret none _, _, _ => false
  | .cut _, _, _ => false
  | .fork G a b, T, F => match own_rd R T F G with
    | some true => own_ok ks ex R a T F
    | some false => own_ok ks ex R b T F
    | none => own_def ks ex G && own_ok ks ex R a (G :: T) F && own_ok ks ex R b T (G :: F)
theorem own_rd_ok {R : List (List Cond × List Cond × Cond × Bool)} (hR : ∀ r ∈ R, (∀ c ∈ r.1, c.value A s none s [] = some true) → (∀ c ∈ r.2.1, c.value A s none s [] = some false) → r.2.2.1.value A s none s [] = some r.2.2.2)
    {T F : List Cond} (hT : ∀ c ∈ T, c.value A s none s [] = some true) (hF : ∀ c ∈ F, c.value A s none s [] = some false) {G : Cond} {b : Bool} (h : own_rd R T F G = some b) : G.value A s none s [] = some b := by
  unfold own_rd at h
  split at h
  · rename_i h1; cases h; exact hT _ (List.contains_iff_mem.mp h1)
  · split at h
    · rename_i h1; cases h; exact hF _ (List.contains_iff_mem.mp h1)
    · obtain ⟨r, hr, rfl⟩ := Option.map_eq_some_iff.mp h
      have hp := List.find?_some hr
      simp only [Bool.and_eq_true, decide_eq_true_eq, List.all_eq_true] at hp
      obtain ⟨⟨rfl, p1⟩, p2⟩ := hp
      exact hR r (List.mem_of_find?_eq_some hr) (fun c hc => hT c (List.contains_iff_mem.mp (p1 c hc))) (fun c hc => hF c (List.contains_iff_mem.mp (p2 c hc)))
theorem own_cons {T : List Cond} {G : Cond} {b : Bool} (hT : ∀ c ∈ T, c.value A s none s [] = some b) (hG : G.value A s none s [] = some b) : ∀ c ∈ G :: T, c.value A s none s [] = some b := fun c hc => by
  rcases List.mem_cons.mp hc with rfl | hc
  · exact hG
  · exact hT c hc
theorem own_ok_ok {R : List (List Cond × List Cond × Cond × Bool)} (hA : ∀ (i : Nat) (k : VKind), ks[i]? = some k → own_is k A[i]?) (hE : ∀ t ∈ ex, ∃ x, t.eval A s none [] s = some (.int x))
    (hR : ∀ r ∈ R, (∀ c ∈ r.1, c.value A s none s [] = some true) → (∀ c ∈ r.2.1, c.value A s none s [] = some false) → r.2.2.1.value A s none s [] = some r.2.2.2) (t : STree) :
    ∀ T F : List Cond, (∀ c ∈ T, c.value A s none s [] = some true) → (∀ c ∈ F, c.value A s none s [] = some false) → own_ok ks ex R t T F = true → Kit.valueOf A s t = some (.int 1) := by
  induction t with
  | ret v W =>
    intro T F _ _ h
    cases v with
    | none => simp [own_ok] at h
    | some x => simp only [own_ok, decide_eq_true_eq] at h; simp only [Kit.valueOf, h]; rfl
  | cut σ => intro T F _ _ h; simp [own_ok] at h
  | fork G a b iha ihb =>
    intro T F hT hF h
    simp only [own_ok] at h
    split at h
    · rename_i h1; simp only [Kit.valueOf, own_rd_ok hR hT hF h1]; exact iha T F hT hF h
    · rename_i h1; simp only [Kit.valueOf, own_rd_ok hR hT hF h1]; exact ihb T F hT hF h
    · simp only [Bool.and_eq_true] at h
      obtain ⟨v, hv⟩ := own_def_ok hA hE G h.1.1
      cases v with
      | true => simp only [Kit.valueOf, hv]; exact iha _ F (own_cons hT hv) hF h.1.2
      | false => simp only [Kit.valueOf, hv]; exact ihb T _ hT (own_cons hF hv) h.2
/-! what a guard over lcmp says -/
theorem own_lc (x y : Int64) : ((if x > y then (1 : Int32) else if x == y then 0 else -1) < 0 ↔ x < y) ∧ ((if x > y then (1 : Int32) else if x == y then 0 else -1) ≤ 0 ↔ x ≤ y) ∧ (0 < (if x > y then (1 : Int32) else if x == y then 0 else -1) ↔ y < x) ∧ ((if x > y then (1 : Int32) else if x == y then 0 else -1) = 0 ↔ x = y) := by
  have e1 : x < y ↔ x.toInt < y.toInt := Int64.lt_iff_toInt_lt
  have e2 : x ≤ y ↔ x.toInt ≤ y.toInt := Int64.le_iff_toInt_le
  have e3 : y < x ↔ y.toInt < x.toInt := Int64.lt_iff_toInt_lt
  have e4 : x = y ↔ x.toInt = y.toInt := Int64.toInt_inj.symm
  generalize hc : (if x > y then (1 : Int32) else if x == y then 0 else -1) = c
  rw [e1, e2, e3, e4]
  rcases (by omega : y.toInt < x.toInt ∨ x.toInt = y.toInt ∨ x.toInt < y.toInt) with h | h | h
  · have hc' : c = 1 := by rw [← hc]; exact if_pos (e3.mpr h)
    subst hc'
    exact ⟨⟨fun q => absurd q (by decide), fun q => by omega⟩, ⟨fun q => absurd q (by decide), fun q => by omega⟩, ⟨fun _ => h, fun _ => by decide⟩, ⟨fun q => absurd q (by decide), fun q => by omega⟩⟩
  · have hc' : c = 0 := by
      rw [← hc, if_neg (fun q => by have := e3.mp q; omega), if_pos (by rw [e4.mpr h]; exact beq_self_eq_true y)]
    subst hc'
    exact ⟨⟨fun q => absurd q (by decide), fun q => by omega⟩, ⟨fun _ => by omega, fun _ => by decide⟩, ⟨fun q => absurd q (by decide), fun q => by omega⟩, ⟨fun _ => h, fun _ => rfl⟩⟩
  · have hc' : c = -1 := by
      rw [← hc, if_neg (fun q => by have := e3.mp q; omega), if_neg (fun q => by have := e4.mp (eq_of_beq q); omega)]
    subst hc'
    exact ⟨⟨fun _ => h, fun _ => by decide⟩, ⟨fun _ => by omega, fun _ => by decide⟩, ⟨fun q => absurd q (by decide), fun q => by omega⟩, ⟨fun q => absurd q (by decide), fun q => by omega⟩⟩
theorem own_lcmp {a b : Term} {x y : Int64} (ha : a.eval A s none [] s = some (.long x)) (hb : b.eval A s none [] s = some (.long y)) : (Term.op2 .lcmp a b).eval A s none [] s = some (.int (if x > y then 1 else if x == y then 0 else -1)) := by
  simp only [Term.eval, ha, hb]; rfl
theorem own_old {a : Term} {v : Value} (ha : a.eval A s none [] s = some v) : (Term.old a).eval A s none [] s = some v := ha
theorem own_glt {a b : Term} {x y : Int64} (ha : a.eval A s none [] s = some (.long x)) (hb : b.eval A s none [] s = some (.long y)) : (Cond.lt (.old (.op2 .lcmp a b)) (.int 0)).value A s none s [] = some (decide (x < y)) := by
  rw [Cond.lt_ints (own_old (own_lcmp ha hb)) rfl]; exact congrArg some (decide_eq_decide.mpr (own_lc x y).1)
theorem own_gle {a b : Term} {x y : Int64} (ha : a.eval A s none [] s = some (.long x)) (hb : b.eval A s none [] s = some (.long y)) : (Cond.le (.old (.op2 .lcmp a b)) (.int 0)).value A s none s [] = some (decide (x ≤ y)) := by
  rw [Cond.le_ints (own_old (own_lcmp ha hb)) rfl]; exact congrArg some (decide_eq_decide.mpr (own_lc x y).2.1)
theorem own_ggt {a b : Term} {x y : Int64} (ha : a.eval A s none [] s = some (.long x)) (hb : b.eval A s none [] s = some (.long y)) : (Cond.lt (.int 0) (.old (.op2 .lcmp a b))).value A s none s [] = some (decide (y < x)) := by
  rw [Cond.lt_ints rfl (own_old (own_lcmp ha hb))]; exact congrArg some (decide_eq_decide.mpr (own_lc x y).2.2.1)
theorem own_geq {a b : Term} {x y : Int64} (ha : a.eval A s none [] s = some (.long x)) (hb : b.eval A s none [] s = some (.long y)) : (Cond.eq (.old (.op2 .lcmp a b)) (.int 0)).value A s none s [] = some (decide (x = y)) := by
  have e : (Cond.eq (.old (.op2 .lcmp a b)) (.int 0)).value A s none s [] = some (decide ((if x > y then (1 : Int32) else if x == y then 0 else -1) = 0)) := by
    simp only [Cond.value, own_old (own_lcmp ha hb)]; rfl
  rw [e]; exact congrArg some (decide_eq_decide.mpr (own_lc x y).2.2.2)
end OwnKit
theorem w_some : w.isSome = true := by decide +kernel
theorem callsOk (l : Launch) : CallsOk l I maxLocals room_1 := fun q hq => by
  simp only [I, List.mem_cons, List.not_mem_nil, or_false] at hq
  subst hq; exact ⟨rfl, rfl, ymeets l, ycold⟩
def t0 : STree := (w.get w_some).1
theorem entry_walk : walkTo I code [] 400 true (entry [.int, .int] maxLocals) = some (t0, (w.get w_some).2.1, (w.get w_some).2.2) := (Option.some_get w_some).symm
def own_ks : List VKind := [.int, .int]
theorem sorts_ok {a : Int32} {b : Int32} {s : State} : ∀ q ∈ Sym.sorts 0 [.int, .int], q.before #[.int a, .int b] s = true := by
  intro q hq
  simp only [Sym.sorts, List.mem_cons, List.not_mem_nil, or_false] at hq
  rcases hq with rfl | rfl <;> simp [isK, Cond.before, Cond.holds, Cond.value, Term.eval]
theorem own_hA (a : Int32) (b : Int32) : ∀ (i : Nat) (k : VKind), own_ks[i]? = some k → own_is k (#[.int a, .int b] : Array Value)[i]? := by
  intro i k h
  match i, h with
  | 0, h => cases h; exact ⟨a, rfl⟩
  | 1, h => cases h; exact ⟨b, rfl⟩
  | n + 2, h => simp [own_ks] at h

def tL : Term := .rem (.op2 .iand (.arg 0) (.int 2147483647)) (.int 2147483639)
def tM : Term := .rem (.op2 .iand (.arg 1) (.int 2147483647)) (.sub (.int 2147483639) tL)
def tN : Term := .add (.add tL (.int 1)) tM
def own_ex : List Term := [tL, tM]
def own_l (a : Int32) : Int32 := (a &&& 2147483647) % 2147483639
def own_m (a b : Int32) : Int32 := (b &&& 2147483647) % (2147483639 - own_l a)
def own_n (a b : Int32) : Int32 := (own_l a + 1) + own_m a b
theorem own_mod (x y : Int) (hy : 0 < y) : 0 ≤ x % y ∧ x % y < y := ⟨Int.emod_nonneg _ (by omega), Int.emod_lt_of_pos _ hy⟩
theorem own_int (x y l m : Int) (hl : l = x % 2147483639) (hm : m = y % (2147483639 - l)) : 0 ≤ l ∧ l < 2147483639 ∧ 0 ≤ m ∧ m < 2147483639 - l := by
  have h1 : 0 ≤ l ∧ l < 2147483639 := by clear hm; omega
  have hd : 0 < 2147483639 - l := by clear hm hl; omega
  have h2 := own_mod y (2147483639 - l) hd
  rw [← hm] at h2
  exact ⟨h1.1, h1.2, h2.1, h2.2⟩
theorem own_pos31 (a : Int32) : 0 ≤ (a &&& 2147483647).toInt := by
  rw [Jvm.Kit.i32_mask a 2147483647 (k := 31) (by decide) (by decide)]
  exact (own_mod _ _ (by decide)).1
theorem own_lmod (a : Int32) : (own_l a).toInt = (a &&& 2147483647).toInt % 2147483639 := by
  have h := Jvm.Kit.i32_rem_nonneg (x := a &&& 2147483647) (y := 2147483639) (own_pos31 a)
  rw [(by decide : (2147483639 : Int32).toInt = 2147483639)] at h
  exact h
theorem own_lbd (a : Int32) : 0 ≤ (own_l a).toInt ∧ (own_l a).toInt < 2147483639 := by
  have h := own_lmod a
  generalize (own_l a).toInt = l at *
  generalize (a &&& 2147483647).toInt = x at *
  omega
theorem own_sub (a : Int32) : (2147483639 - own_l a).toInt = 2147483639 - (own_l a).toInt := by
  have h := own_lbd a
  have lM : (2147483639 : Int32).toInt = 2147483639 := by decide
  have e : (2147483639 - own_l a).toInt = (2147483639 : Int32).toInt - (own_l a).toInt := Jvm.Kit.i32_sub (by rw [lM]; omega) (by rw [lM]; omega)
  rw [e, lM]
theorem own_mmod (a b : Int32) : (own_m a b).toInt = (b &&& 2147483647).toInt % (2147483639 - (own_l a).toInt) := by
  have h := Jvm.Kit.i32_rem_nonneg (x := b &&& 2147483647) (y := 2147483639 - own_l a) (own_pos31 b)
  rw [own_sub a] at h
  exact h
theorem own_nums (a b : Int32) : 0 ≤ (own_l a).toInt ∧ (own_l a).toInt < 2147483639 ∧ (2147483639 - own_l a).toInt = 2147483639 - (own_l a).toInt ∧ (own_l a).toInt + 1 ≤ (own_n a b).toInt ∧ (own_n a b).toInt ≤ 2147483639 := by
  have l1 : (1 : Int32).toInt = 1 := by decide
  obtain ⟨h1, h2, h3, h4⟩ := own_int _ _ _ _ (own_lmod a) (own_mmod a b)
  have e4 := own_sub a
  have e6 : (own_l a + 1).toInt = (own_l a).toInt + (1 : Int32).toInt := Jvm.Kit.i32_add (by rw [l1]; omega) (by rw [l1]; omega)
  have e7 : (own_n a b).toInt = (own_l a + 1).toInt + (own_m a b).toInt := Jvm.Kit.i32_add (p := own_l a + 1) (q := own_m a b) (by rw [e6, l1]; omega) (by rw [e6, l1]; omega)
  rw [e6, l1] at e7
  refine ⟨h1, h2, e4, ?_, ?_⟩ <;> rw [e7] <;> omega
theorem own_eL (a b : Int32) (s : State) : tL.eval #[.int a, .int b] s none [] s = some (.int (own_l a)) := rfl
theorem own_hz (a : Int32) : ¬ ((2147483639 : Int32) - own_l a = 0) := fun q => by
  have h1 := own_lbd a
  have h2 := own_sub a
  rw [q, (by decide : (0 : Int32).toInt = 0)] at h2
  generalize (own_l a).toInt = l at *
  omega
theorem own_eR (a b : Int32) (s : State) : (Term.sub (.int 2147483639) tL).eval #[.int a, .int b] s none [] s = some (.int (2147483639 - own_l a)) := by
  have e := own_eL a b s
  generalize tL = t at *
  simp [Term.eval, e]
theorem own_eM (a b : Int32) (s : State) : tM.eval #[.int a, .int b] s none [] s = some (.int (own_m a b)) :=
  Jvm.RoadKit.rem_f (x := b &&& 2147483647) (y := 2147483639 - own_l a) rfl (own_eR a b s) (own_hz a)
theorem own_eN (a b : Int32) (s : State) : tN.eval #[.int a, .int b] s none [] s = some (.int (own_n a b)) := by
  have e1 : (Term.add tL (.int 1)).eval #[.int a, .int b] s none [] s = some (.int (own_l a + 1)) := rfl
  have e2 := own_eM a b s
  show (Term.add _ _).eval _ _ _ _ _ = _
  generalize Term.add tL (.int 1) = t1 at e1 ⊢
  generalize tM = t2 at e2 ⊢
  simp [Term.eval, e1, e2, own_n]
theorem own_hE (a b : Int32) (s : State) : ∀ t ∈ own_ex, ∃ x, t.eval #[.int a, .int b] s none [] s = some (.int x) := fun t ht => by
  simp only [own_ex, List.mem_cons, List.not_mem_nil, or_false] at ht
  rcases ht with rfl | rfl
  · exact ⟨_, own_eL a b s⟩
  · exact ⟨_, own_eM a b s⟩
def tl : Term := .op1 .i2l tL
def tn : Term := .op1 .i2l tN
def tD : Term := .op2 .lmul (.long 2) tl
def tLL : Term := .add tL tL
def gA : Cond := .lt (.long 2147483639) tD
def gB : Cond := .lt (.long 2147483639) tn
def gB2 : Cond := .eq tD (.long 2147483639)
def gG : Cond := .le (.old tL) (.old (.int 1073741819))
def gH1 : Cond := .le (.old tN) (.old tLL)
def gH2 : Cond := .le (.old tN) (.old (.int 2147483639))
def gE1 : Cond := .eq tn (.long 2147483639)
def gE2 : Cond := .eq tn tD
def gD : Cond := .lt tD tn
def gF (r e : Term) : Cond := .not (.eq (.old (.op1 .l2i r)) (.old e))
def own_R : List (List Cond × List Cond × Cond × Bool) :=
  [([], [], gB, false), ([], [], gB2, false), ([gA], [], gG, false), ([], [gA], gG, true), ([], [], gH2, true), ([gD], [gA], gH1, false), ([], [gA, gD], gH1, true),
   ([gE1], [], gF tn (.int 2147483639), false), ([], [], gF (.long 2147483639) (.int 2147483639), false), ([], [], gF tn tN, false), ([gE2], [gA], gF tn tLL, false), ([], [gA], gF tD tLL, false)]
theorem own_not {q : Cond} {A : Array Value} {s : State} {v : Bool} (h : q.value A s none s [] = some v) : (Cond.not q).value A s none s [] = some (!v) := by simp [Cond.value, h]
theorem own_ltL {p q : Term} {A : Array Value} {s : State} {x y : Int64} (h1 : p.eval A s none [] s = some (.long x)) (h2 : q.eval A s none [] s = some (.long y)) : (Cond.lt p q).value A s none s [] = some (decide (x < y)) := by simp [Cond.value, h1, h2]
theorem own_eqL {p q : Term} {A : Array Value} {s : State} {x y : Int64} (h1 : p.eval A s none [] s = some (.long x)) (h2 : q.eval A s none [] s = some (.long y)) : (Cond.eq p q).value A s none s [] = some (decide (x = y)) := by simp [Cond.value, h1, h2]
theorem own_un {o : Unary} {p : Term} {A : Array Value} {s : State} {v : Value} (h : p.eval A s none [] s = some v) : (Term.op1 o p).eval A s none [] s = o.apply v := by simp [Term.eval, h]
theorem own_rules (a b : Int32) (s : State) : ∀ r ∈ own_R, (∀ c ∈ r.1, c.value #[.int a, .int b] s none s [] = some true) → (∀ c ∈ r.2.1, c.value #[.int a, .int b] s none s [] = some false) → r.2.2.1.value #[.int a, .int b] s none s [] = some r.2.2.2 := by
  have eL := own_eL a b s
  have eN := own_eN a b s
  obtain ⟨n1, n2, -, n4, n5⟩ := own_nums a b
  have el : tl.eval #[.int a, .int b] s none [] s = some (.long (own_l a).toInt64) := own_un eL
  have en : tn.eval #[.int a, .int b] s none [] s = some (.long (own_n a b).toInt64) := own_un eN
  have eD : tD.eval #[.int a, .int b] s none [] s = some (.long (2 * (own_l a).toInt64)) := rfl
  have eLL : tLL.eval #[.int a, .int b] s none [] s = some (.int (own_l a + own_l a)) := rfl
  generalize own_l a = l at *
  generalize own_n a b = n at *
  have l2 : (2 : Int64).toInt = 2 := by decide
  have lM : (2147483639 : Int64).toInt = 2147483639 := by decide
  have il : l.toInt64.toInt = l.toInt := Jvm.Kit.i64_of_i32 l
  have in_ : n.toInt64.toInt = n.toInt := Jvm.Kit.i64_of_i32 n
  have iD : (2 * l.toInt64).toInt = (2 : Int64).toInt * l.toInt64.toInt := Jvm.Kit.i64_mul (by rw [l2, il]; omega) (by rw [l2, il]; omega)
  rw [l2, il] at iD
  have kA : (2147483639 : Int64) < 2 * l.toInt64 ↔ 2147483639 < 2 * l.toInt := by rw [Int64.lt_iff_toInt_lt, lM, iD]
  have kB : (2147483639 : Int64) < n.toInt64 ↔ 2147483639 < n.toInt := by rw [Int64.lt_iff_toInt_lt, lM, in_]
  have kB2 : 2 * l.toInt64 = (2147483639 : Int64) ↔ 2 * l.toInt = 2147483639 := by rw [← Int64.toInt_inj, lM, iD]
  have kE1 : n.toInt64 = (2147483639 : Int64) ↔ n.toInt = 2147483639 := by rw [← Int64.toInt_inj, lM, in_]
  have kE2 : n.toInt64 = 2 * l.toInt64 ↔ n.toInt = 2 * l.toInt := by rw [← Int64.toInt_inj, iD, in_]
  have kD : 2 * l.toInt64 < n.toInt64 ↔ 2 * l.toInt < n.toInt := by rw [Int64.lt_iff_toInt_lt, iD, in_]
  have kG : l ≤ (1073741819 : Int32) ↔ l.toInt ≤ 1073741819 := by rw [Int32.le_iff_toInt_le, (by decide : (1073741819 : Int32).toInt = 1073741819)]
  have kH2 : n ≤ (2147483639 : Int32) ↔ n.toInt ≤ 2147483639 := by rw [Int32.le_iff_toInt_le, (by decide : (2147483639 : Int32).toInt = 2147483639)]
  have vA : gA.value #[.int a, .int b] s none s [] = some (decide (2147483639 < 2 * l.toInt)) := (own_ltL rfl eD).trans (congrArg some (decide_eq_decide.mpr kA))
  have vB : gB.value #[.int a, .int b] s none s [] = some (decide (2147483639 < n.toInt)) := (own_ltL rfl en).trans (congrArg some (decide_eq_decide.mpr kB))
  have vB2 : gB2.value #[.int a, .int b] s none s [] = some (decide (2 * l.toInt = 2147483639)) := (own_eqL eD rfl).trans (congrArg some (decide_eq_decide.mpr kB2))
  have vE1 : gE1.value #[.int a, .int b] s none s [] = some (decide (n.toInt = 2147483639)) := (own_eqL en rfl).trans (congrArg some (decide_eq_decide.mpr kE1))
  have vE2 : gE2.value #[.int a, .int b] s none s [] = some (decide (n.toInt = 2 * l.toInt)) := (own_eqL en eD).trans (congrArg some (decide_eq_decide.mpr kE2))
  have vD : gD.value #[.int a, .int b] s none s [] = some (decide (2 * l.toInt < n.toInt)) := (own_ltL eD en).trans (congrArg some (decide_eq_decide.mpr kD))
  have vG : gG.value #[.int a, .int b] s none s [] = some (decide (l.toInt ≤ 1073741819)) := (Cond.le_ints (own_old eL) rfl).trans (congrArg some (decide_eq_decide.mpr kG))
  have vH2 : gH2.value #[.int a, .int b] s none s [] = some (decide (n.toInt ≤ 2147483639)) := (Cond.le_ints (own_old eN) rfl).trans (congrArg some (decide_eq_decide.mpr kH2))
  have vH1 : gH1.value #[.int a, .int b] s none s [] = some (decide (n ≤ l + l)) := Cond.le_ints (own_old eN) (own_old eLL)
  have iLL : ¬ (2147483639 < 2 * l.toInt) → (l + l).toInt = 2 * l.toInt := fun q => by rw [Jvm.Kit.i32_add (by omega) (by omega)]; omega
  have fn : (Term.op1 .l2i tn).eval #[.int a, .int b] s none [] s = some (.int n.toInt64.toInt32) := own_un en
  have fD : (Term.op1 .l2i tD).eval #[.int a, .int b] s none [] s = some (.int (2 * l.toInt64).toInt32) := own_un eD
  have jn : n.toInt64.toInt32 = n := by
    refine Int32.toInt_inj.mp ?_
    rw [Jvm.Kit.i32_of_i64 (by rw [in_]; omega) (by rw [in_]; omega), in_]
  have jD : ¬ (2147483639 < 2 * l.toInt) → (2 * l.toInt64).toInt32 = l + l := fun q => by
    refine Int32.toInt_inj.mp ?_
    rw [Jvm.Kit.i32_of_i64 (by rw [iD]; omega) (by rw [iD]; omega), iD, iLL q]
  have nA : gA.value #[.int a, .int b] s none s [] = some false → ¬ (2147483639 < 2 * l.toInt) := fun h => of_decide_eq_false (Option.some.inj (vA.symm.trans h))
  intro r hr hT hF
  simp only [own_R, List.mem_cons, List.not_mem_nil, or_false] at hr
  rcases hr with rfl | rfl | rfl | rfl | rfl | rfl | rfl | rfl | rfl | rfl | rfl | rfl
  · exact vB.trans (congrArg some (decide_eq_false (by omega)))
  · exact vB2.trans (congrArg some (decide_eq_false (by omega)))
  · have h := hT gA (List.mem_cons_self ..)
    rw [vA] at h
    have h : 2147483639 < 2 * l.toInt := of_decide_eq_true (Option.some.inj h)
    exact vG.trans (congrArg some (decide_eq_false (by omega)))
  · have h := nA (hF gA (List.mem_cons_self ..))
    exact vG.trans (congrArg some (decide_eq_true (by omega)))
  · exact vH2.trans (congrArg some (decide_eq_true (by omega)))
  · have h := nA (hF gA (List.mem_cons_self ..))
    have d := hT gD (List.mem_cons_self ..)
    rw [vD] at d
    have d : 2 * l.toInt < n.toInt := of_decide_eq_true (Option.some.inj d)
    exact vH1.trans (congrArg some (decide_eq_false fun q => by rw [Int32.le_iff_toInt_le, iLL h] at q; omega))
  · have h := nA (hF gA (List.mem_cons_self ..))
    have d := hF gD (List.mem_cons_of_mem _ (List.mem_cons_self ..))
    rw [vD] at d
    have d : ¬ 2 * l.toInt < n.toInt := of_decide_eq_false (Option.some.inj d)
    exact vH1.trans (congrArg some (decide_eq_true (by rw [Int32.le_iff_toInt_le, iLL h]; omega)))
  · have h := hT gE1 (List.mem_cons_self ..)
    rw [vE1] at h
    have h : n.toInt = 2147483639 := of_decide_eq_true (Option.some.inj h)
    exact own_not (v := true) ((Cond.eq_ints (own_old fn) rfl).trans (congrArg some (decide_eq_true (by rw [jn]; exact Int32.toInt_inj.mp (h.trans (by decide))))))
  · exact own_not (v := true) ((Cond.eq_ints (x := 2147483639) (y := 2147483639) rfl rfl).trans (congrArg some (decide_eq_true rfl)))
  · exact own_not (v := true) ((Cond.eq_ints (own_old fn) (own_old eN)).trans (congrArg some (decide_eq_true jn)))
  · have h := nA (hF gA (List.mem_cons_self ..))
    have d := hT gE2 (List.mem_cons_self ..)
    rw [vE2] at d
    have d : n.toInt = 2 * l.toInt := of_decide_eq_true (Option.some.inj d)
    exact own_not (v := true) ((Cond.eq_ints (own_old fn) (own_old eLL)).trans (congrArg some (decide_eq_true (by rw [jn]; exact Int32.toInt_inj.mp (d.trans (iLL h).symm)))))
  · have h := nA (hF gA (List.mem_cons_self ..))
    exact own_not (v := true) ((Cond.eq_ints (own_old fD) (own_old eLL)).trans (congrArg some (decide_eq_true (jD h))))
theorem own_gt (a b : Int32) (s : State) : ∀ q ∈ ([.not (.lt (.old tN) (.int 0)), gH2] : List Cond), q.value #[.int a, .int b] s none s [] = some true := by
  have eN := own_eN a b s
  obtain ⟨n1, n2, -, n4, n5⟩ := own_nums a b
  intro q hq
  simp only [List.mem_cons, List.not_mem_nil, or_false] at hq
  rcases hq with rfl | rfl
  · exact own_not (v := false) ((Cond.lt_ints (own_old eN) rfl).trans (congrArg some (decide_eq_false fun h => by
      rw [Int32.lt_iff_toInt_lt, (by decide : (0 : Int32).toInt = 0)] at h; omega)))
  · exact (Cond.le_ints (own_old eN) rfl).trans (congrArg some (decide_eq_true (by
      rw [Int32.le_iff_toInt_le, (by decide : (2147483639 : Int32).toInt = 2147483639)]; omega)))
def post_1 : Cond := .and limb_1_1 limb_1_2
theorem own_pure : Kit.pureVal t0 = true := by decide +kernel
theorem own_tree : own_ok own_ks own_ex own_R t0 [] [] = true := by decide +kernel
theorem met_1 (l : Launch) : MeetsLoose l x (armSpec x code maxLocals ret tables_1 room_1 .tt (.and given_1 narrow_1) post_1 frame_1_writes frame_1_arrays frame_1_statics) := by
  refine loops_meets (I := I) (ks0 := [.int, .int]) (cuts := []) (by decide) rfl rfl rfl rfl rfl (fun args s h => ?_) entry_walk (fun _ => none) (fun _ _ _ _ _ => False) (fun _ _ _ => 0) (fun args s h => ?_) (fun args s _ h ks hks => by cases hks) (callsOk l)
  · simp only [armSpec, allAtoms, List.foldr_cons, Cond.before_and, Bool.and_eq_true] at h; exact h.1.1
  · have hts : (allAtoms (Cond.code x code maxLocals ret :: tables_1)).before args s = true := by simp only [armSpec, Cond.before_and, Bool.and_eq_true] at h; exact h.1
    have hK : (Cond.and .tt (.and given_1 narrow_1)).before args s = true := by simp only [armSpec, Cond.before_and, Bool.and_eq_true] at h ⊢; exact h.2
    simp only [armSpec, given_1, Cond.before_and, Bool.and_eq_true] at h
    obtain ⟨-, -, ⟨hc, h0, h1⟩, hn⟩ := h
    obtain ⟨a, b, rfl⟩ := Cond.two_ints hc h0 h1
    have hT := known3 (Gt := [.not (.lt (.old tN) (.int 0)), gH2]) hts hK (own_gt a b s)
    refine ⟨rfl, sorts_ok, tabs_of_sub hts (by decide +kernel), own_needs (own_hA a b) (own_hE a b s) hT (by decide +kernel), Kit.vc_of_value (w₀ := .int 1) (fun E => ?_) t0 own_pure (own_ok_ok (own_hA a b) (own_hE a b s) (own_rules a b s) t0 [] [] (fun _ h => by cases h) (fun _ h => by cases h) own_tree)⟩
    simp [armSpec, post_1, limb_1_1, limb_1_2, Cond.after, Cond.holds, Cond.value, Term.eval]
theorem main_1_1 : Claimed_1_1 := armFor_of_meets0 (fun l => (met_1 l).meets) (fun _ _ _ _ h => by simp only [post_1, Cond.after_and, Bool.and_eq_true] at h; exact h.1)
theorem main_1_2 : Claimed_1_2 := armFor_of_meets0 (fun l => (met_1 l).meets) (fun _ _ _ _ h => by simp only [post_1, Cond.after_and, Bool.and_eq_true] at h; exact h.2)
end Jvm.Pilot.@@N@@
namespace Jvm.Pilot.@@N@@
open Jvm Jvm.ClassFile Sem Op Lib Jvm.Free Jvm.Stand Jvm.Pilot.@@N@@.Jvm.D
/-! MADE BY PROGRAM (witnessworld.py) out of the Statement's table words and the real class files: 10 classes; the members and pool entries that the words name. The judged class is class 1, her method 1. -/
namespace start1
open Jvm.ClassFile
def u (s : String) : CpInfo := .utf8 (stringToUtf16 s)
/-- a pool by its gaps: so many unusable entries, then the entry; so many at the end -/
def gap : Nat → List CpInfo → List CpInfo
  | 0, r => r
  | n + 1, r => .unusable :: gap n r
def poolList (es : List (Nat × CpInfo)) (last : Nat) : List CpInfo := es.foldr (fun e r => gap e.1 (e.2 :: r)) (gap last [])
def pool (es : List (Nat × CpInfo)) (last : Nat) : Array CpInfo := ⟨poolList es last⟩
def fileOf (pool : Array CpInfo) (this : Nat) (attrs : Array Attribute := #[]) (ms : Array MethodInfo := #[]) (fl : Nat := 33) (sup : Nat := 0) (ifs : Array Nat := #[]) (fds : Array FieldInfo := #[]) : ClassFile where
  minorVersion := 0
  majorVersion := 65
  constantPool := pool
  accessFlags := fl
  thisClass := this
  superClass := sup
  interfaces := ifs
  fields := fds
  methods := ms
  attributes := attrs
def plain (name : String) (sup : Option ClassId) : Class where
  name := name
  kind := .ordinary
  loader := none
  accessFlags := 33
  super := sup
  interfaces := #[]
  cf := none
  fields := #[]
  methods := #[]
  instanceTypes := #[]
  staticTypes := #[]
  resolved := #[]
  callSites := []
  init := .initialized
  statics := none
  mirror := none

def pool0 : Array CpInfo := pool [(5, u "<init>"), (0, u "()V"), (1, .class_ 10), (1, u "java/lang/Object")] 113

def k0m0 : Method := { name := "<init>", desc := "()V", sig := { parameters := [], returnType := none }, accessFlags := 1, code := none }
/-- java/lang/Object -/
def k0 : Class := { plain "java/lang/Object" none with
  accessFlags := 33
  interfaces := #[]
  cf := some (fileOf pool0 8 #[] #[{ accessFlags := 1, nameIndex := 5, descriptorIndex := 6, attributes := #[] }] 33 0 #[] #[])
  fields := #[]
  methods := #[k0m0]
  instanceTypes := #[]
  staticTypes := #[]
  resolved := Array.replicate 124 none
  statics := none }

def pool1 : Array CpInfo := pool [(2, .class_ 4), (1, u "java/lang/Object"), (0, u "<init>"), (0, u "()V"), (0, .integer 2147483639), (0, .integer 2147483647), (0, .methodref 10 11), (0, .class_ 12), (0, .nameAndType 13 14), (0, u "com/example/glossator/glossator/Capacity"), (0, u "grown"), (0, u "(II)I"), (0, .integer 1073741819), (0, .class_ 17), (0, u "com/example/glossator/glossator/CapacityGrownPinLaw"), (2, u "law"), (0, u "(II)Z")] 3

def k1m0 : Method := { name := "<init>", desc := "()V", sig := { parameters := [], returnType := none }, accessFlags := 2, code := none }
def k1c1 : Code := { maxStack := 3, maxLocals := 9, code := code, exceptionTable := #[], attributes := #[] }
def k1m1 : Method := { name := "law", desc := "(II)Z", sig := { parameters := [.int, .int], returnType := some .boolean }, accessFlags := 9, code := some k1c1 }
/-- com/example/glossator/glossator/CapacityGrownPinLaw -/
def k1 : Class := { plain "com/example/glossator/glossator/CapacityGrownPinLaw" (some 0) with
  accessFlags := 49
  interfaces := #[]
  cf := some (fileOf pool1 16 #[] #[{ accessFlags := 2, nameIndex := 5, descriptorIndex := 6, attributes := #[] }, { accessFlags := 9, nameIndex := 20, descriptorIndex := 21, attributes := #[] }] 49 2 #[] #[])
  fields := #[]
  methods := #[k1m0, k1m1]
  instanceTypes := #[]
  staticTypes := #[]
  resolved := Array.replicate 25 none
  statics := none }

def pool2 : Array CpInfo := pool [(4, .class_ 6), (1, u "java/lang/Object"), (0, u "<init>"), (0, u "()V"), (0, .class_ 10), (0, u "com/example/glossator/glossator/Capacity"), (0, .integer 2147483639), (7, .long 2), (1, .long 2147483639), (1, .methodref 24 25), (0, .class_ 26), (0, .nameAndType 27 28), (0, u "java/lang/Math"), (0, u "min"), (0, u "(JJ)J"), (0, .methodref 24 30), (0, .nameAndType 31 28), (0, u "max"), (0, u "MAX"), (0, u "I"), (3, u "grown"), (0, u "(II)I")] 3

def k2m0 : Method := { name := "<init>", desc := "()V", sig := { parameters := [], returnType := none }, accessFlags := 2, code := none }
def k2c1 : Code := { maxStack := 6, maxLocals := 2, code := prog_2_method_2_code, exceptionTable := #[], attributes := #[] }
def k2m1 : Method := { name := "grown", desc := "(II)I", sig := { parameters := [.int, .int], returnType := some .int }, accessFlags := 8, code := some k2c1 }
/-- com/example/glossator/glossator/Capacity -/
def k2 : Class := { plain "com/example/glossator/glossator/Capacity" (some 0) with
  accessFlags := 48
  interfaces := #[]
  cf := some (fileOf pool2 9 #[] #[{ accessFlags := 2, nameIndex := 7, descriptorIndex := 8, attributes := #[] }, { accessFlags := 8, nameIndex := 37, descriptorIndex := 38, attributes := #[] }] 48 4 #[] #[{ accessFlags := 24, nameIndex := 32, descriptorIndex := 33, attributes := #[] }])
  fields := #[{ name := "MAX", type := .int, accessFlags := 24, slot := 0, constantValue := 0 }]
  methods := #[k2m0, k2m1]
  instanceTypes := #[]
  staticTypes := #[.int]
  resolved := Array.replicate 42 none
  statics := none }

def pool3 : Array CpInfo := pool [(1, .class_ 2), (0, u "java/lang/Math"), (1, .class_ 6), (1, u "java/lang/Object"), (0, u "<init>"), (0, u "()V"), (89, .class_ 100), (1, u "java/lang/Math$RandomNumberGeneratorHolder"), (20, u "(JJ)J"), (50, u "negativeZeroFloatBits"), (0, u "J"), (2, u "negativeZeroDoubleBits"), (21, u "max"), (2, u "min"), (43, u "$assertionsDisabled"), (0, u "Z"), (91, u "twoToTheDoubleScaleDown"), (0, u "D"), (4, u "twoToTheDoubleScaleUp"), (9, u "E"), (3, u "PI"), (2, u "TAU"), (2, u "DEGREES_TO_RADIANS"), (0, u "RADIANS_TO_DEGREES")] 94

def k3m0 : Method := { name := "<init>", desc := "()V", sig := { parameters := [], returnType := none }, accessFlags := 2, code := none }
def k3c1 : Code := { maxStack := 4, maxLocals := 4, code := jdk_29_method_66_code, exceptionTable := #[], attributes := #[] }
def k3m1 : Method := { name := "max", desc := "(JJ)J", sig := { parameters := [.long, .long], returnType := some .long }, accessFlags := 9, code := some k3c1 }
def k3c2 : Code := { maxStack := 4, maxLocals := 4, code := jdk_29_method_70_code, exceptionTable := #[], attributes := #[] }
def k3m2 : Method := { name := "min", desc := "(JJ)J", sig := { parameters := [.long, .long], returnType := some .long }, accessFlags := 9, code := some k3c2 }
/-- java/lang/Math -/
def k3 : Class := { plain "java/lang/Math" (some 0) with
  accessFlags := 49
  interfaces := #[]
  cf := some (fileOf pool3 1 #[.nestMembers #[98]] #[{ accessFlags := 2, nameIndex := 7, descriptorIndex := 8, attributes := #[] }, { accessFlags := 9, nameIndex := 198, descriptorIndex := 121, attributes := #[] }, { accessFlags := 9, nameIndex := 201, descriptorIndex := 121, attributes := #[] }] 49 4 #[] #[{ accessFlags := 25, nameIndex := 354, descriptorIndex := 339, attributes := #[] }, { accessFlags := 25, nameIndex := 358, descriptorIndex := 339, attributes := #[] }, { accessFlags := 25, nameIndex := 361, descriptorIndex := 339, attributes := #[] }, { accessFlags := 26, nameIndex := 364, descriptorIndex := 339, attributes := #[] }, { accessFlags := 26, nameIndex := 365, descriptorIndex := 339, attributes := #[] }, { accessFlags := 26, nameIndex := 172, descriptorIndex := 173, attributes := #[] }, { accessFlags := 26, nameIndex := 176, descriptorIndex := 173, attributes := #[] }, { accessFlags := 8, nameIndex := 344, descriptorIndex := 339, attributes := #[] }, { accessFlags := 8, nameIndex := 338, descriptorIndex := 339, attributes := #[] }, { accessFlags := 4120, nameIndex := 245, descriptorIndex := 246, attributes := #[] }])
  fields := #[{ name := "E", type := .double, accessFlags := 25, slot := 0, constantValue := 0 }, { name := "PI", type := .double, accessFlags := 25, slot := 1, constantValue := 0 }, { name := "TAU", type := .double, accessFlags := 25, slot := 2, constantValue := 0 }, { name := "DEGREES_TO_RADIANS", type := .double, accessFlags := 26, slot := 3, constantValue := 0 }, { name := "RADIANS_TO_DEGREES", type := .double, accessFlags := 26, slot := 4, constantValue := 0 }, { name := "negativeZeroFloatBits", type := .long, accessFlags := 26, slot := 5, constantValue := 0 }, { name := "negativeZeroDoubleBits", type := .long, accessFlags := 26, slot := 6, constantValue := 0 }, { name := "twoToTheDoubleScaleUp", type := .double, accessFlags := 8, slot := 7, constantValue := 0 }, { name := "twoToTheDoubleScaleDown", type := .double, accessFlags := 8, slot := 8, constantValue := 0 }, { name := "$assertionsDisabled", type := .boolean, accessFlags := 4120, slot := 9, constantValue := 0 }]
  methods := #[k3m0, k3m1, k3m2]
  instanceTypes := #[]
  staticTypes := #[.double, .double, .double, .double, .double, .long, .long, .double, .double, .boolean]
  resolved := Array.replicate 460 none
  statics := none }

def pool4 : Array CpInfo := pool [(1, u "java/lang/Cloneable"), (0, .class_ 1), (0, u "java/lang/Object"), (0, .class_ 3)] 3

/-- java/lang/Cloneable -/
def k4 : Class := { plain "java/lang/Cloneable" (some 0) with
  accessFlags := 1537
  interfaces := #[]
  cf := some (fileOf pool4 2 #[] #[] 1537 4 #[] #[])
  fields := #[]
  methods := #[]
  instanceTypes := #[]
  staticTypes := #[]
  resolved := Array.replicate 8 none
  statics := none }

def pool5 : Array CpInfo := pool [(1, u "java/io/Serializable"), (0, .class_ 1), (0, u "java/lang/Object"), (0, .class_ 3)] 3

/-- java/io/Serializable -/
def k5 : Class := { plain "java/io/Serializable" (some 0) with
  accessFlags := 1537
  interfaces := #[]
  cf := some (fileOf pool5 2 #[] #[] 1537 4 #[] #[])
  fields := #[]
  methods := #[]
  instanceTypes := #[]
  staticTypes := #[]
  resolved := Array.replicate 8 none
  statics := none }

/-- the primitive byte -/
def k6 : Class := { plain "byte" none with kind := .primitive 'B', accessFlags := 0x411 }
/-- [B -/
def k7 : Class := { plain "[B" (some 0) with kind := .array 6 .byte, interfaces := #[4, 5], accessFlags := 1041 }

/-- the primitive int -/
def k8 : Class := { plain "int" none with kind := .primitive 'I', accessFlags := 0x411 }
/-- [I -/
def k9 : Class := { plain "[I" (some 0) with kind := .array 8 .int, interfaces := #[4, 5], accessFlags := 1041 }

def heap : Heap := #[]
def classes : Array Class := #[k0, k1, k2, k3, k4, k5, k6, k7, k8, k9]
def interned : List (Array UInt16 × Addr) := []
def slotsUsed : Nat := 0
def theMethod : MethodId := ⟨1, 1⟩
def args0 : Array Value := #[.int 5, .int 300]
def aboutOver (below : List Frame) : State where
  vm := { classes := classes, interned := interned.toArray }
  heap := heap
  slotsUsed := slotsUsed
  threads := #[{ frames := .invoking theMethod args0 :: below }]
def below0 : List Frame := [.native { method := ⟨0, 0⟩, args := #[] }]
def about1 : State := aboutOver below0
def p0 : Program := .bare "" "" ""
def e0 : Env := launch0.env 0 0 0
theorem w_frames : about1.frames = Frame.invoking theMethod args0 :: below0 := rfl
set_option maxRecDepth 65536 in
theorem w_args : argsFit about1.vm theMethod args0 = true := by decide +kernel
set_option maxRecDepth 65536 in
theorem w_heap : heapFits about1 = true := by decide +kernel
set_option maxRecDepth 65536 in
theorem w_runnable : about1.curStatus? = some .runnable := by decide +kernel
set_option maxRecDepth 65536 in
theorem w_alone : about1.alone = true := by decide +kernel
set_option maxRecDepth 65536 in
theorem w_named : about1.methodNamed? x = some theMethod := by decide +kernel
set_option maxRecDepth 65536 in
theorem w_hears : about1.hears theMethod below0 = true := by decide +kernel
set_option maxRecDepth 65536 in
theorem w_ripe : about1.ripe theMethod args0 below0 = true := by decide +kernel
theorem w_running : about1.status = .running := rfl
set_option maxRecDepth 65536 in
theorem w_room : about1.hasRoom e0.platform room_1 = true :=
  launch0.hasRoom_least _ room_1 (by decide +kernel) (by decide +kernel) (by decide +kernel) (by decide +kernel) (by decide +kernel) (by decide +kernel)
theorem allAtoms_all (ts : List Jvm.Cond) (a : Array Jvm.Value) (st : Jvm.State) : (allAtoms ts).before a st = ts.all (fun c => c.before a st) := by
  induction ts with
  | nil => rfl
  | cons c t ih =>
    show (Jvm.Cond.and c (allAtoms t)).before a st = _
    rw [Jvm.Cond.before_and, ih, List.all_cons]
def words1 : List Jvm.Cond := Jvm.Cond.code x code maxLocals ret :: tables_1
/-- a 'code' word, met by the world's own term for the bytes: nothing is compared byte by byte -/
theorem code_word {y : MethodName} {bytes : ByteArray} {mx : Nat} {rt : Option FieldType} {a : Array Value} {s : State} {m : MethodId} {meth : Method} {c : Code} (h1 : s.methodNamed? y = some m) (h2 : s.vm.method? m = some meth) (h3 : meth.code = some c) (h4 : c.code = bytes)
    (h5 : (c.maxLocals == mx && c.exceptionTable.isEmpty && decide (c.maxStack ≤ mostOperands) && decide (meth.sig.returnType = rt) && !meth.locks && decide (parseMethodDescriptor y.desc = some meth.sig)) = true) : (Jvm.Cond.code y bytes mx rt).before a s = true := by
  simp only [Bool.and_eq_true, beq_iff_eq, Bool.not_eq_true', decide_eq_true_eq] at h5
  obtain ⟨⟨⟨⟨⟨g1, g2⟩, g3⟩, g4⟩, g5⟩, g6⟩ := h5
  simp [Cond.before, Cond.holds, Cond.value, h1, h2, h3, h4, g1, g2, g3, g4, g5, g6]
def isCode : Jvm.Cond → Bool
  | .code _ _ _ _ => true
  | _ => false
theorem all_split {L : List Jvm.Cond} {P : Jvm.Cond → Bool} (h1 : L.all (fun c => isCode c || P c) = true) (h2 : ∀ c ∈ L.filter isCode, P c = true) : L.all P = true := by
  refine List.all_eq_true.mpr fun c hc => ?_
  have h := List.all_eq_true.mp h1 c hc
  rcases Bool.eq_false_or_eq_true (isCode c) with hi | hi
  · exact h2 c (List.mem_filter.mpr ⟨hc, hi⟩)
  · simpa [hi] using h
set_option maxRecDepth 65536 in
theorem w_c0 : (Jvm.Cond.code x code maxLocals ret).before args0 about1 = true := code_word (m := ⟨1, 1⟩) (meth := k1m1) (c := k1c1) (by decide +kernel) rfl rfl rfl (by decide +kernel)
set_option maxRecDepth 65536 in
theorem w_c1 : (Jvm.Cond.code ({ cls := "com/example/glossator/glossator/Capacity", name := "grown", desc := "(II)I" } : Jvm.MethodName) prog_2_method_2_code (2 : Nat) (Option.some Jvm.ClassFile.FieldType.int)).before args0 about1 = true := code_word (m := ⟨2, 1⟩) (meth := k2m1) (c := k2c1) (by decide +kernel) rfl rfl rfl (by decide +kernel)
set_option maxRecDepth 65536 in
theorem w_c2 : (Jvm.Cond.code ({ cls := "java/lang/Math", name := "min", desc := "(JJ)J" } : Jvm.MethodName) jdk_29_method_70_code (4 : Nat) (Option.some Jvm.ClassFile.FieldType.long)).before args0 about1 = true := code_word (m := ⟨3, 2⟩) (meth := k3m2) (c := k3c2) (by decide +kernel) rfl rfl rfl (by decide +kernel)
set_option maxRecDepth 65536 in
theorem w_c3 : (Jvm.Cond.code ({ cls := "java/lang/Math", name := "max", desc := "(JJ)J" } : Jvm.MethodName) jdk_29_method_66_code (4 : Nat) (Option.some Jvm.ClassFile.FieldType.long)).before args0 about1 = true := code_word (m := ⟨3, 1⟩) (meth := k3m1) (c := k3c1) (by decide +kernel) rfl rfl rfl (by decide +kernel)
def codes1 : List Jvm.Cond := [Jvm.Cond.code x code maxLocals ret, Jvm.Cond.code ({ cls := "com/example/glossator/glossator/Capacity", name := "grown", desc := "(II)I" } : Jvm.MethodName) prog_2_method_2_code (2 : Nat) (Option.some Jvm.ClassFile.FieldType.int), Jvm.Cond.code ({ cls := "java/lang/Math", name := "min", desc := "(JJ)J" } : Jvm.MethodName) jdk_29_method_70_code (4 : Nat) (Option.some Jvm.ClassFile.FieldType.long), Jvm.Cond.code ({ cls := "java/lang/Math", name := "max", desc := "(JJ)J" } : Jvm.MethodName) jdk_29_method_66_code (4 : Nat) (Option.some Jvm.ClassFile.FieldType.long)]
set_option maxRecDepth 65536 in
theorem codes_eq : words1.filter isCode = codes1 := rfl
theorem w_codes : ∀ c ∈ words1.filter isCode, c.before args0 about1 = true := by
  rw [codes_eq]
  intro c hc
  simp only [codes1, List.mem_cons, List.not_mem_nil, or_false] at hc
  rcases hc with rfl | rfl | rfl | rfl
  · exact w_c0
  · exact w_c1
  · exact w_c2
  · exact w_c3
set_option maxRecDepth 65536 in
theorem w_t1 : words1.all (fun c => isCode c || c.before args0 about1) = true := by decide +kernel
theorem w_tables : (allAtoms (Jvm.Cond.code x code maxLocals ret :: tables_1)).before args0 about1 = true := by
  rw [allAtoms_all]
  show words1.all (fun c => c.before args0 about1) = true
  refine all_split ?_ w_codes
  rw [w_t1]
set_option maxRecDepth 65536 in
theorem w_case : (Jvm.Cond.and given_1 narrow_1).before args0 about1 = true := by decide +kernel
theorem w_applies : (headSpec (Jvm.Cond.code x code maxLocals ret :: tables_1) room_1).applies x e0.platform about1 = true :=
  (Spec.applies_iff w_frames).mpr ⟨w_running, w_runnable, w_alone, w_named, w_hears, w_ripe, w_room, w_tables⟩
theorem atStart : AtStart classFile x code maxLocals ret World_1 tables_1 room_1 Calls_1 rest_1 Pre_1 launch0 p0 e0 about1 theMethod args0 below0 :=
  ⟨lists_1, trivial, launch0.admits_env _ _ _, launch0.least_env, fairChoices_fair.cas, fairChoices_fair.clock, w_frames, w_args, w_heap, w_applies, trivial, trivial, w_case⟩
end start1
theorem witness_1 : WitnessClaimed_1 := ⟨start1.p0, start1.e0, start1.about1, start1.theMethod, start1.args0, start1.below0, start1.atStart⟩
end Jvm.Pilot.@@N@@
