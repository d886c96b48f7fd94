import JvmDerived
import JvmDerived.Pilot.@@N@@Statement
import JvmDerived.Pilot.@@N@@Code
set_option linter.unusedVariables false
set_option linter.unusedSimpArgs false
@@BLOCK:HandJ.lean.txt@@
@@BLOCK:HandW.lean.txt@@
@@BLOCK:HandBits.lean.txt@@
@@BLOCK:SymRun.lean.txt@@
@@BLOCK:RowBasics.lean.txt@@
@@BLOCK:Bridge.lean.txt@@
@@BLOCK:SymKit.lean.txt@@
@@BLOCK:SymWays.lean.txt@@
@@BLOCK:NumsL.lean.txt@@
namespace Jvm.Pilot.@@N@@
open Jvm Jvm.ClassFile Sem Op Jvm.Sym Jvm.Pilot.@@N@@.Jvm.D
def y : MethodName := ⟨"bg/iskar/formats/sepa/DataType", "isSpace", "(C)Z"⟩
def ycode : ByteArray := prog_153_method_17_code
def yI : Info := { own := "bg/iskar/formats/sepa/DataType", ret := some .boolean }
def yout : Option (Cond × List Cond × List Cond) := walk yI ycode 400 (entry [.int] 1)
theorem ywalks : yout.isSome = true := by decide +kernel
def ygot : Cond × List Cond × List Cond := yout.get ywalks
def yspec : Spec := specOf y ycode 1 (some .boolean) [.int] ygot.1 ygot.2.1 ygot.2.2 
theorem ymeets (l : Launch) : MeetsLoose l y yspec :=
  walk_meets (n := 400) (I := yI) (by decide) rfl rfl (show walk yI ycode 400 (entry [.int] 1) = some (ygot.1, ygot.2.1, ygot.2.2) from (Option.some_get ywalks).symm)
theorem ycold : yspec.Cold := Spec.cold_of_keeps (by decide +kernel)
def ycallee : Callee := { y := y, S := yspec, bytes := ycode, maxL := 1, ret := some .boolean, static := true, params := 1, res := some .int }
def I : Info := { own := x.cls, ret := ret, ints := [(7, 65535)], longs := [(8, 4294977024)], calls := [(10, ycallee)], maxLocals := maxLocals, room := room_1 }
def w := walkTo I code [] 400 true (entry [.int] maxLocals)
/-! own kit: kinds of closed terms, guards that are worth something, needs, a tree followed by rules -/
def own_b (p q : Option VKind) (k1 k2 r : VKind) : Option VKind := if p = some k1 ∧ q = some k2 then some r else none
def own_op2 : Binary → Option (VKind × VKind × VKind)
  | .iand => some (.int, .int, .int) | .ior => some (.int, .int, .int) | .ixor => some (.int, .int, .int)
  | .ishl => some (.int, .int, .int) | .ishr => some (.int, .int, .int) | .iushr => some (.int, .int, .int)
  | .ladd => some (.long, .long, .long) | .lsub => some (.long, .long, .long) | .lmul => some (.long, .long, .long)
  | .land => some (.long, .long, .long) | .lor => some (.long, .long, .long) | .lxor => some (.long, .long, .long)
  | .lcmp => some (.long, .long, .int)
  | .lshl => some (.long, .int, .long) | .lshr => some (.long, .int, .long) | .lushr => some (.long, .int, .long)
  | _ => none
def own_op1 : Unary → Option (VKind × VKind)
  | .ineg => some (.int, .int) | .i2b => some (.int, .int) | .i2c => some (.int, .int) | .i2s => some (.int, .int)
  | .i2l => some (.int, .long) | .l2i => some (.long, .int) | .lneg => some (.long, .long)
  | _ => none
/-- ex: terms with a division whose divisor is no literal, known to be ints -/
def own_ty (ks : List VKind) (ex : List Term) : Term → Option VKind
  | .arg i => ks[i]?
  | .int _ => some .int
  | .long _ => some .long
  | .old t => own_ty ks ex t
  | .add a b => own_b (own_ty ks ex a) (own_ty ks ex b) .int .int .int
  | .sub a b => own_b (own_ty ks ex a) (own_ty ks ex b) .int .int .int
  | .mul a b => own_b (own_ty ks ex a) (own_ty ks ex b) .int .int .int
  | .div a b => if ex.contains (.div a b) then some .int else none
  | .rem a b => if ex.contains (.rem a b) then some .int else none
  | .op2 o a b => match own_op2 o with
    | some (k1, k2, r) => own_b (own_ty ks ex a) (own_ty ks ex b) k1 k2 r
    | none => none
  | .op1 o a => match own_op1 o with
    | some (k1, r) => if own_ty ks ex a = some k1 then some r else none
    | none => none
  | _ => none
def own_is : VKind → Option Value → Prop
  | .int, v => ∃ x, v = some (.int x)
  | .long, v => ∃ x, v = some (.long x)
  | .ref, _ => False
theorem own_op2_ok {o : Binary} {k1 k2 r : VKind} {u v : Option Value} (h : own_op2 o = some (k1, k2, r)) (hu : own_is k1 u) (hv : own_is k2 v) : own_is r (do o.apply (← u) (← v)) := by
  cases o <;> simp only [own_op2, Option.some.injEq, Prod.mk.injEq, reduceCtorEq] at h <;> obtain ⟨rfl, rfl, rfl⟩ := h <;> obtain ⟨x, rfl⟩ := hu <;> obtain ⟨y, rfl⟩ := hv <;> exact ⟨_, rfl⟩
theorem own_op1_ok {o : Unary} {k1 r : VKind} {u : Option Value} (h : own_op1 o = some (k1, r)) (hu : own_is k1 u) : own_is r (do o.apply (← u)) := by
  cases o <;> simp only [own_op1, Option.some.injEq, Prod.mk.injEq, reduceCtorEq] at h <;> obtain ⟨rfl, rfl⟩ := h <;> obtain ⟨x, rfl⟩ := hu <;> exact ⟨_, rfl⟩
theorem own_b_ok {p q : Option VKind} {k1 k2 r k : VKind} (h : own_b p q k1 k2 r = some k) : p = some k1 ∧ q = some k2 ∧ k = r := by
  unfold own_b at h
  split at h
  · rename_i h1; cases h; exact ⟨h1.1, h1.2, rfl⟩
  · cases h
section OwnKit
variable {ks : List VKind} {ex : List Term} {A : Array Value} {s : State}
theorem own_ty_ok (hA : ∀ (i : Nat) (k : VKind), ks[i]? = some k → own_is k A[i]?) (hE : ∀ t ∈ ex, ∃ x, t.eval A s none [] s = some (.int x)) (t : Term) : ∀ k, own_ty ks ex t = some k → own_is k (t.eval A s none [] s) := by
  induction t with
  | arg i => intro k h; exact hA i k h
  | int v => intro k h; cases h; exact ⟨v, rfl⟩
  | long v => intro k h; cases h; exact ⟨v, rfl⟩
  | old t ih => intro k h; exact ih k h
  | add a b iha ihb => intro k h; obtain ⟨h1, h2, rfl⟩ := own_b_ok h; obtain ⟨x, hx⟩ := iha _ h1; obtain ⟨y, hy⟩ := ihb _ h2; exact ⟨x + y, by simp [Term.eval, hx, hy]⟩
  | sub a b iha ihb => intro k h; obtain ⟨h1, h2, rfl⟩ := own_b_ok h; obtain ⟨x, hx⟩ := iha _ h1; obtain ⟨y, hy⟩ := ihb _ h2; exact ⟨x - y, by simp [Term.eval, hx, hy]⟩
  | mul a b iha ihb => intro k h; obtain ⟨h1, h2, rfl⟩ := own_b_ok h; obtain ⟨x, hx⟩ := iha _ h1; obtain ⟨y, hy⟩ := ihb _ h2; exact ⟨x * y, by simp [Term.eval, hx, hy]⟩
  | div a b iha ihb => intro k h; simp only [own_ty] at h; split at h; · rename_i h1; cases h; exact hE _ (List.contains_iff_mem.mp h1)
                       · cases h
  | rem a b iha ihb => intro k h; simp only [own_ty] at h; split at h; · rename_i h1; cases h; exact hE _ (List.contains_iff_mem.mp h1)
                       · cases h
  | op2 o a b iha ihb =>
    intro k h
    simp only [own_ty] at h
    split at h
    · rename_i k1 k2 r h0; obtain ⟨h1, h2, rfl⟩ := own_b_ok h; exact own_op2_ok h0 (iha _ h1) (ihb _ h2)
    · cases h
  | op1 o a iha =>
    intro k h
    simp only [own_ty] at h
    split at h
    · rename_i k1 r h0
      split at h
      · rename_i h1; cases h; exact own_op1_ok h0 (iha _ h1)
      · cases h
    · cases h
  | _ => intro k h; simp [own_ty] at h
def own_two (p q : Option VKind) : Bool := (p == some .int && q == some .int) || (p == some .long && q == some .long)
def own_def (ks : List VKind) (ex : List Term) : Cond → Bool
  | .lt a b => own_two (own_ty ks ex a) (own_ty ks ex b)
  | .le a b => own_two (own_ty ks ex a) (own_ty ks ex b)
  | .eq a b => own_two (own_ty ks ex a) (own_ty ks ex b)
  | .not c => own_def ks ex c
  | _ => false
theorem own_two_ok (hA : ∀ (i : Nat) (k : VKind), ks[i]? = some k → own_is k A[i]?) (hE : ∀ t ∈ ex, ∃ x, t.eval A s none [] s = some (.int x)) {a b : Term} (h : own_two (own_ty ks ex a) (own_ty ks ex b) = true) :
    (∃ x y, a.eval A s none [] s = some (.int x) ∧ b.eval A s none [] s = some (.int y)) ∨ (∃ x y, a.eval A s none [] s = some (.long x) ∧ b.eval A s none [] s = some (.long y)) := by
  simp only [own_two, Bool.or_eq_true, Bool.and_eq_true, beq_iff_eq] at h
  rcases h with ⟨h1, h2⟩ | ⟨h1, h2⟩
  · obtain ⟨x, hx⟩ := own_ty_ok hA hE a _ h1; obtain ⟨y, hy⟩ := own_ty_ok hA hE b _ h2; exact Or.inl ⟨x, y, hx, hy⟩
  · obtain ⟨x, hx⟩ := own_ty_ok hA hE a _ h1; obtain ⟨y, hy⟩ := own_ty_ok hA hE b _ h2; exact Or.inr ⟨x, y, hx, hy⟩
theorem own_def_ok (hA : ∀ (i : Nat) (k : VKind), ks[i]? = some k → own_is k A[i]?) (hE : ∀ t ∈ ex, ∃ x, t.eval A s none [] s = some (.int x)) (c : Cond) : own_def ks ex c = true → ∃ b, c.value A s none s [] = some b := by
  induction c with
  | lt a b => intro h; rcases own_two_ok hA hE h with ⟨x, y, hx, hy⟩ | ⟨x, y, hx, hy⟩ <;> exact ⟨decide (x < y), by simp [Cond.value, hx, hy]⟩
  | le a b => intro h; rcases own_two_ok hA hE h with ⟨x, y, hx, hy⟩ | ⟨x, y, hx, hy⟩ <;> exact ⟨decide (x ≤ y), by simp [Cond.value, hx, hy]⟩
  | eq a b => intro h; rcases own_two_ok hA hE h with ⟨x, y, hx, hy⟩ | ⟨x, y, hx, hy⟩ <;> exact ⟨decide (x = y), by simp [Cond.value, hx, hy]⟩
  | not c ih => intro h; obtain ⟨b, hb⟩ := ih h; exact ⟨!b, by simp [Cond.value, hb]⟩
  | _ => intro h; simp [own_def] at h
def own_nd (ks : List VKind) (ex : List Term) (T : List Cond) (q : Cond) : Bool :=
  T.contains q || match q with
  | .tt => true
  | .isInt t => own_ty ks ex t == some .int
  | .isLong t => own_ty ks ex t == some .long
  | .and a b => own_nd ks ex T a && own_nd ks ex T b
  | .or a b => own_def ks ex a && own_nd ks ex T b
  | _ => false
theorem own_nd_ok {T : List Cond} (hA : ∀ (i : Nat) (k : VKind), ks[i]? = some k → own_is k A[i]?) (hE : ∀ t ∈ ex, ∃ x, t.eval A s none [] s = some (.int x)) (hT : ∀ c ∈ T, c.value A s none s [] = some true) (q : Cond) : own_nd ks ex T q = true → q.value A s none s [] = some true := by
  induction q with
  | tt => intro _; rfl
  | isInt t => intro h; unfold own_nd at h; simp only [Bool.or_eq_true, beq_iff_eq] at h; rcases h with h | h
               · exact hT _ (List.contains_iff_mem.mp h)
               · obtain ⟨x, hx⟩ := own_ty_ok hA hE t _ h; simp [Cond.value, hx]
  | isLong t => intro h; unfold own_nd at h; simp only [Bool.or_eq_true, beq_iff_eq] at h; rcases h with h | h
                · exact hT _ (List.contains_iff_mem.mp h)
                · obtain ⟨x, hx⟩ := own_ty_ok hA hE t _ h; simp [Cond.value, hx]
  | and a b iha ihb => intro h; unfold own_nd at h; simp only [Bool.or_eq_true, Bool.and_eq_true] at h; rcases h with h | h
                       · exact hT _ (List.contains_iff_mem.mp h)
                       · simp [Cond.value, iha h.1, ihb h.2]
  | or a b iha ihb => intro h; unfold own_nd at h; simp only [Bool.or_eq_true, Bool.and_eq_true] at h; rcases h with h | h
                      · exact hT _ (List.contains_iff_mem.mp h)
                      · obtain ⟨v, hv⟩ := own_def_ok hA hE a h.1
                        cases v <;> simp [Cond.value, hv, ihb h.2]
  | _ => intro h; unfold own_nd at h; simp only [Bool.or_false] at h; exact hT _ (List.contains_iff_mem.mp h)
theorem own_needs {L T : List Cond} (hA : ∀ (i : Nat) (k : VKind), ks[i]? = some k → own_is k A[i]?) (hE : ∀ t ∈ ex, ∃ x, t.eval A s none [] s = some (.int x)) (hT : ∀ c ∈ T, c.value A s none s [] = some true) (h : (L.all fun q => own_nd ks ex T q) = true) : ∀ q ∈ L, q.before A s = true :=
  fun q hq => before_of_value (own_nd_ok hA hE hT q (List.all_eq_true.mp h q hq))
/-- what a guard is worth, by what is known and by rules: (these hold, these fail, then this one is so) -/
def own_rd (R : List (List Cond × List Cond × Cond × Bool)) (T F : List Cond) (G : Cond) : Option Bool :=
  if T.contains G then some true else if F.contains G then some false else
  (R.find? fun r => decide (r.2.2.1 = G) && r.1.all (fun c => T.contains c) && r.2.1.all (fun c => F.contains c)).map fun r => r.2.2.2
def own_ok (ks : List VKind) (ex : List Term) (R : List (List Cond × List Cond × Cond × Bool)) : STree → List Cond → List Cond → Bool
  | .ret (some x) _, _, _ => decide (x.t = .op2 .iand (.int 1) (.int 1))
  | .ret none _, _, _ => false
  | .cut _, _, _ => false
  | .fork G a b, T, F => match own_rd R T F G with
    | some true => own_ok ks ex R a T F
    | some false => own_ok ks ex R b T F
    | none => own_def ks ex G && own_ok ks ex R a (G :: T) F && own_ok ks ex R b T (G :: F)
theorem own_rd_ok {R : List (List Cond × List Cond × Cond × Bool)} (hR : ∀ r ∈ R, (∀ c ∈ r.1, c.value A s none s [] = some true) → (∀ c ∈ r.2.1, c.value A s none s [] = some false) → r.2.2.1.value A s none s [] = some r.2.2.2)
    {T F : List Cond} (hT : ∀ c ∈ T, c.value A s none s [] = some true) (hF : ∀ c ∈ F, c.value A s none s [] = some false) {G : Cond} {b : Bool} (h : own_rd R T F G = some b) : G.value A s none s [] = some b := by
  unfold own_rd at h
  split at h
  · rename_i h1; cases h; exact hT _ (List.contains_iff_mem.mp h1)
  · split at h
    · rename_i h1; cases h; exact hF _ (List.contains_iff_mem.mp h1)
    · obtain ⟨r, hr, rfl⟩ := Option.map_eq_some_iff.mp h
      have hp := List.find?_some hr
      simp only [Bool.and_eq_true, decide_eq_true_eq, List.all_eq_true] at hp
      obtain ⟨⟨rfl, p1⟩, p2⟩ := hp
      exact hR r (List.mem_of_find?_eq_some hr) (fun c hc => hT c (List.contains_iff_mem.mp (p1 c hc))) (fun c hc => hF c (List.contains_iff_mem.mp (p2 c hc)))
theorem own_cons {T : List Cond} {G : Cond} {b : Bool} (hT : ∀ c ∈ T, c.value A s none s [] = some b) (hG : G.value A s none s [] = some b) : ∀ c ∈ G :: T, c.value A s none s [] = some b := fun c hc => by
  rcases List.mem_cons.mp hc with rfl | hc
  · exact hG
  · exact hT c hc
theorem own_ok_ok {R : List (List Cond × List Cond × Cond × Bool)} (hA : ∀ (i : Nat) (k : VKind), ks[i]? = some k → own_is k A[i]?) (hE : ∀ t ∈ ex, ∃ x, t.eval A s none [] s = some (.int x))
    (hR : ∀ r ∈ R, (∀ c ∈ r.1, c.value A s none s [] = some true) → (∀ c ∈ r.2.1, c.value A s none s [] = some false) → r.2.2.1.value A s none s [] = some r.2.2.2) (t : STree) :
    ∀ T F : List Cond, (∀ c ∈ T, c.value A s none s [] = some true) → (∀ c ∈ F, c.value A s none s [] = some false) → own_ok ks ex R t T F = true → Kit.valueOf A s t = some (.int 1) := by
  induction t with
  | ret v W =>
    intro T F _ _ h
    cases v with
    | none => simp [own_ok] at h
    | some x => simp only [own_ok, decide_eq_true_eq] at h; simp only [Kit.valueOf, h]; rfl
  | cut σ => intro T F _ _ h; simp [own_ok] at h
  | fork G a b iha ihb =>
    intro T F hT hF h
    simp only [own_ok] at h
    split at h
    · rename_i h1; simp only [Kit.valueOf, own_rd_ok hR hT hF h1]; exact iha T F hT hF h
    · rename_i h1; simp only [Kit.valueOf, own_rd_ok hR hT hF h1]; exact ihb T F hT hF h
    · simp only [Bool.and_eq_true] at h
      obtain ⟨v, hv⟩ := own_def_ok hA hE G h.1.1
      cases v with
      | true => simp only [Kit.valueOf, hv]; exact iha _ F (own_cons hT hv) hF h.1.2
      | false => simp only [Kit.valueOf, hv]; exact ihb T _ hT (own_cons hF hv) h.2
/-! what a guard over lcmp says -/
theorem own_lc (x y : Int64) : ((if x > y then (1 : Int32) else if x == y then 0 else -1) < 0 ↔ x < y) ∧ ((if x > y then (1 : Int32) else if x == y then 0 else -1) ≤ 0 ↔ x ≤ y) ∧ (0 < (if x > y then (1 : Int32) else if x == y then 0 else -1) ↔ y < x) ∧ ((if x > y then (1 : Int32) else if x == y then 0 else -1) = 0 ↔ x = y) := by
  have e1 : x < y ↔ x.toInt < y.toInt := Int64.lt_iff_toInt_lt
  have e2 : x ≤ y ↔ x.toInt ≤ y.toInt := Int64.le_iff_toInt_le
  have e3 : y < x ↔ y.toInt < x.toInt := Int64.lt_iff_toInt_lt
  have e4 : x = y ↔ x.toInt = y.toInt := Int64.toInt_inj.symm
  generalize hc : (if x > y then (1 : Int32) else if x == y then 0 else -1) = c
  rw [e1, e2, e3, e4]
  rcases (by omega : y.toInt < x.toInt ∨ x.toInt = y.toInt ∨ x.toInt < y.toInt) with h | h | h
  · have hc' : c = 1 := by rw [← hc]; exact if_pos (e3.mpr h)
    subst hc'
    exact ⟨⟨fun q => absurd q (by decide), fun q => by omega⟩, ⟨fun q => absurd q (by decide), fun q => by omega⟩, ⟨fun _ => h, fun _ => by decide⟩, ⟨fun q => absurd q (by decide), fun q => by omega⟩⟩
  · have hc' : c = 0 := by
      rw [← hc, if_neg (fun q => by have := e3.mp q; omega), if_pos (by rw [e4.mpr h]; exact beq_self_eq_true y)]
    subst hc'
    exact ⟨⟨fun q => absurd q (by decide), fun q => by omega⟩, ⟨fun _ => by omega, fun _ => by decide⟩, ⟨fun q => absurd q (by decide), fun q => by omega⟩, ⟨fun _ => h, fun _ => rfl⟩⟩
  · have hc' : c = -1 := by
      rw [← hc, if_neg (fun q => by have := e3.mp q; omega), if_neg (fun q => by have := e4.mp (eq_of_beq q); omega)]
    subst hc'
    exact ⟨⟨fun _ => h, fun _ => by decide⟩, ⟨fun _ => by omega, fun _ => by decide⟩, ⟨fun q => absurd q (by decide), fun q => by omega⟩, ⟨fun q => absurd q (by decide), fun q => by omega⟩⟩
theorem own_lcmp {a b : Term} {x y : Int64} (ha : a.eval A s none [] s = some (.long x)) (hb : b.eval A s none [] s = some (.long y)) : (Term.op2 .lcmp a b).eval A s none [] s = some (.int (if x > y then 1 else if x == y then 0 else -1)) := by
  simp only [Term.eval, ha, hb]; rfl
theorem own_old {a : Term} {v : Value} (ha : a.eval A s none [] s = some v) : (Term.old a).eval A s none [] s = some v := ha
theorem own_glt {a b : Term} {x y : Int64} (ha : a.eval A s none [] s = some (.long x)) (hb : b.eval A s none [] s = some (.long y)) : (Cond.lt (.old (.op2 .lcmp a b)) (.int 0)).value A s none s [] = some (decide (x < y)) := by
  rw [Cond.lt_ints (own_old (own_lcmp ha hb)) rfl]; exact congrArg some (decide_eq_decide.mpr (own_lc x y).1)
theorem own_gle {a b : Term} {x y : Int64} (ha : a.eval A s none [] s = some (.long x)) (hb : b.eval A s none [] s = some (.long y)) : (Cond.le (.old (.op2 .lcmp a b)) (.int 0)).value A s none s [] = some (decide (x ≤ y)) := by
  rw [Cond.le_ints (own_old (own_lcmp ha hb)) rfl]; exact congrArg some (decide_eq_decide.mpr (own_lc x y).2.1)
theorem own_ggt {a b : Term} {x y : Int64} (ha : a.eval A s none [] s = some (.long x)) (hb : b.eval A s none [] s = some (.long y)) : (Cond.lt (.int 0) (.old (.op2 .lcmp a b))).value A s none s [] = some (decide (y < x)) := by
  rw [Cond.lt_ints rfl (own_old (own_lcmp ha hb))]; exact congrArg some (decide_eq_decide.mpr (own_lc x y).2.2.1)
theorem own_geq {a b : Term} {x y : Int64} (ha : a.eval A s none [] s = some (.long x)) (hb : b.eval A s none [] s = some (.long y)) : (Cond.eq (.old (.op2 .lcmp a b)) (.int 0)).value A s none s [] = some (decide (x = y)) := by
  have e : (Cond.eq (.old (.op2 .lcmp a b)) (.int 0)).value A s none s [] = some (decide ((if x > y then (1 : Int32) else if x == y then 0 else -1) = 0)) := by
    simp only [Cond.value, own_old (own_lcmp ha hb)]; rfl
  rw [e]; exact congrArg some (decide_eq_decide.mpr (own_lc x y).2.2.2)
end OwnKit
theorem w_some : w.isSome = true := by decide +kernel
theorem callsOk (l : Launch) : CallsOk l I maxLocals room_1 := fun q hq => by
  simp only [I, List.mem_cons, List.not_mem_nil, or_false] at hq
  subst hq; exact ⟨rfl, rfl, ymeets l, ycold⟩
def t0 : STree := (w.get w_some).1
theorem entry_walk : walkTo I code [] 400 true (entry [.int] maxLocals) = some (t0, (w.get w_some).2.1, (w.get w_some).2.2) := (Option.some_get w_some).symm
def own_ks : List VKind := [.int]
theorem sorts_ok {a : Int32} {s : State} : ∀ q ∈ Sym.sorts 0 [.int], q.before #[.int a] s = true := by
  intro q hq
  simp only [Sym.sorts, List.mem_cons, List.not_mem_nil, or_false] at hq
  subst hq; simp [isK, Cond.before, Cond.holds, Cond.value, Term.eval]
theorem own_hA (a : Int32) : ∀ (i : Nat) (k : VKind), own_ks[i]? = some k → own_is k (#[.int a] : Array Value)[i]? := by
  intro i k h
  match i, h with
  | 0, h => cases h; exact ⟨a, rfl⟩
  | n + 1, h => simp [own_ks] at h

def own_ex : List Term := []
theorem own_hE (a : Int32) (s : State) : ∀ t ∈ own_ex, ∃ x, t.eval #[.int a] s none [] s = some (.int x) := fun t ht => by cases ht
def tC : Term := .op1 .i2c (.op2 .iand (.arg 0) (.int 65535))
def gB : Cond := .lt (.old (.int 32)) (.old tC)
def gE (k : Int32) : Cond := .eq (.old tC) (.old (.int k))
def gM : Cond := .eq (.old (.op2 .lcmp (.op2 .land (.op2 .lushr (.long 4294977024) tC) (.long 1)) (.long 0))) (.int 0)
def gk (i j : Int32) : Cond := .not (.eq (.old (.op2 .iand (.int i) (.int 1))) (.old (.int j)))
def own_R : List (List Cond × List Cond × Cond × Bool) :=
  [([gB], [], gE 32, false), ([gB], [], gE 9, false), ([gB], [], gE 10, false), ([gB], [], .not (gE 13), true),
   ([gM], [gB], gE 32, false), ([gM], [gB], gE 9, false), ([gM], [gB], gE 10, false), ([gM], [gB], .not (gE 13), true),
   ([], [gB, gM, gE 32, gE 9, gE 10], .not (gE 13), false),
   ([], [], gk 0 0, false), ([], [], gk 1 1, false), ([], [], gk 0 1, true), ([], [], gk 1 0, true)]
def own_bits (c : Int32) : Int64 := (((4294977024 : Int64).toUInt64 >>> (c &&& 0x3f).toInt64.toUInt64).toInt64) &&& 1
theorem own_all : ∀ k : Fin 33, (own_bits (Int32.ofNat k.val) = 0) ↔ ¬ (k.val = 32 ∨ k.val = 9 ∨ k.val = 10 ∨ k.val = 13) := by decide +kernel
theorem own_char (a : Int32) : ∃ k : Nat, k < 65536 ∧ (a &&& 65535).toUInt32.toUInt16.toUInt32.toInt32 = Int32.ofNat k ∧ ((a &&& 65535).toUInt32.toUInt16.toUInt32.toInt32).toInt = k := by
  generalize (a &&& 65535).toUInt32.toUInt16 = u
  have hk : u.toNat < 65536 := UInt16.toNat_lt u
  refine ⟨u.toNat, hk, ?_⟩
  have e : u.toUInt32.toInt32.toInt = (u.toNat : Int) := by
    have h1 : u.toUInt32.toNat = u.toNat := UInt16.toNat_toUInt32 u
    have h2 : u.toUInt32.toInt32.toBitVec.toNat = u.toNat := h1
    have h3 : u.toUInt32.toInt32.toInt = u.toUInt32.toInt32.toBitVec.toInt := rfl
    rw [h3, BitVec.toInt_eq_toNat_cond, h2, if_pos (by omega)]
  refine ⟨Int32.toInt_inj.mp ?_, e⟩
  rw [e, Int32.toInt_ofNat_small (by omega)]
theorem own_gk (i j : Int32) (a : Int32) (s : State) : (gk i j).value #[.int a] s none s [] = some (!decide ((i &&& 1) = j)) := by
  have e : (Cond.eq (.old (.op2 .iand (.int i) (.int 1))) (.old (.int j))).value #[.int a] s none s [] = some (decide ((i &&& 1) = j)) := Cond.eq_ints rfl rfl
  show (Cond.not _).value _ _ _ _ _ = _
  simp only [Cond.value] at e ⊢
  rw [e]; rfl
theorem own_not {c : Cond} {A : Array Value} {s : State} {b : Bool} (h : c.value A s none s [] = some b) : (Cond.not c).value A s none s [] = some (!b) := by simp [Cond.value, h]
theorem own_rules (a : Int32) (s : State) : ∀ r ∈ own_R, (∀ c ∈ r.1, c.value #[.int a] s none s [] = some true) → (∀ c ∈ r.2.1, c.value #[.int a] s none s [] = some false) → r.2.2.1.value #[.int a] s none s [] = some r.2.2.2 := by
  obtain ⟨k, hk, ek, ei⟩ := own_char a
  have eC : tC.eval #[.int a] s none [] s = some (.int (Int32.ofNat k)) := by rw [← ek]; rfl
  rw [ek] at ei
  have vE : ∀ j : Int32, (gE j).value #[.int a] s none s [] = some (decide (Int32.ofNat k = j)) := fun j => Cond.eq_ints (own_old eC) rfl
  have vB : gB.value #[.int a] s none s [] = some (decide ((32 : Int32) < Int32.ofNat k)) := Cond.lt_ints rfl (own_old eC)
  have eM : (Term.op2 .land (.op2 .lushr (.long 4294977024) tC) (.long 1)).eval #[.int a] s none [] s = some (.long (own_bits (Int32.ofNat k))) := by
    simp only [Term.eval] at eC ⊢
    rw [eC]; rfl
  have vM : gM.value #[.int a] s none s [] = some (decide (own_bits (Int32.ofNat k) = 0)) := own_geq eM rfl
  have kB : (32 : Int32) < Int32.ofNat k ↔ 32 < k := by rw [Int32.lt_iff_toInt_lt, ei, (by decide : (32 : Int32).toInt = 32)]; omega
  have kE : ∀ j : Nat, j < 65536 → (Int32.ofNat k = Int32.ofNat j ↔ k = j) := fun j hj => by
    rw [← Int32.toInt_inj, ei, Int32.toInt_ofNat_small (by omega)]; omega
  have e32 := kE 32 (by decide); have e9 := kE 9 (by decide); have e10 := kE 10 (by decide); have e13 := kE 13 (by decide)
  have w32 : (gE 32).value #[.int a] s none s [] = some (decide (k = 32)) := (vE 32).trans (congrArg some (decide_eq_decide.mpr e32))
  have w9 : (gE 9).value #[.int a] s none s [] = some (decide (k = 9)) := (vE 9).trans (congrArg some (decide_eq_decide.mpr e9))
  have w10 : (gE 10).value #[.int a] s none s [] = some (decide (k = 10)) := (vE 10).trans (congrArg some (decide_eq_decide.mpr e10))
  have w13 : (gE 13).value #[.int a] s none s [] = some (decide (k = 13)) := (vE 13).trans (congrArg some (decide_eq_decide.mpr e13))
  have wB : gB.value #[.int a] s none s [] = some (decide (32 < k)) := vB.trans (congrArg some (decide_eq_decide.mpr kB))
  have wM : k < 33 → gM.value #[.int a] s none s [] = some (decide (¬ (k = 32 ∨ k = 9 ∨ k = 10 ∨ k = 13))) := fun h => vM.trans (congrArg some (decide_eq_decide.mpr (own_all ⟨k, h⟩)))
  intro r hr hT hF
  simp only [own_R, List.mem_cons, List.not_mem_nil, or_false] at hr
  rcases hr with rfl | rfl | rfl | rfl | rfl | rfl | rfl | rfl | rfl | rfl | rfl | rfl | rfl
  · have h := hT gB (List.mem_cons_self ..); rw [wB] at h; have h : 32 < k := by simpa using h
    exact w32.trans (congrArg some (decide_eq_false (by omega)))
  · have h := hT gB (List.mem_cons_self ..); rw [wB] at h; have h : 32 < k := by simpa using h
    exact w9.trans (congrArg some (decide_eq_false (by omega)))
  · have h := hT gB (List.mem_cons_self ..); rw [wB] at h; have h : 32 < k := by simpa using h
    exact w10.trans (congrArg some (decide_eq_false (by omega)))
  · have h := hT gB (List.mem_cons_self ..); rw [wB] at h; have h : 32 < k := by simpa using h
    exact own_not (b := false) (w13.trans (congrArg some (decide_eq_false (by omega))))
  · have h := hF gB (List.mem_cons_self ..); rw [wB] at h; have h : ¬ 32 < k := by simpa using h
    have m := hT gM (List.mem_cons_self ..); rw [wM (by omega)] at m; have m : ¬ (k = 32 ∨ k = 9 ∨ k = 10 ∨ k = 13) := of_decide_eq_true (Option.some.inj m)
    exact w32.trans (congrArg some (decide_eq_false (by omega)))
  · have h := hF gB (List.mem_cons_self ..); rw [wB] at h; have h : ¬ 32 < k := by simpa using h
    have m := hT gM (List.mem_cons_self ..); rw [wM (by omega)] at m; have m : ¬ (k = 32 ∨ k = 9 ∨ k = 10 ∨ k = 13) := of_decide_eq_true (Option.some.inj m)
    exact w9.trans (congrArg some (decide_eq_false (by omega)))
  · have h := hF gB (List.mem_cons_self ..); rw [wB] at h; have h : ¬ 32 < k := by simpa using h
    have m := hT gM (List.mem_cons_self ..); rw [wM (by omega)] at m; have m : ¬ (k = 32 ∨ k = 9 ∨ k = 10 ∨ k = 13) := of_decide_eq_true (Option.some.inj m)
    exact w10.trans (congrArg some (decide_eq_false (by omega)))
  · have h := hF gB (List.mem_cons_self ..); rw [wB] at h; have h : ¬ 32 < k := by simpa using h
    have m := hT gM (List.mem_cons_self ..); rw [wM (by omega)] at m; have m : ¬ (k = 32 ∨ k = 9 ∨ k = 10 ∨ k = 13) := of_decide_eq_true (Option.some.inj m)
    exact own_not (b := false) (w13.trans (congrArg some (decide_eq_false (by omega))))
  · have h := hF gB (List.mem_cons_self ..); rw [wB] at h; have h : ¬ 32 < k := by simpa using h
    have m := hF gM (List.mem_cons_of_mem _ (List.mem_cons_self ..)); rw [wM (by omega)] at m; have m : ¬ ¬ (k = 32 ∨ k = 9 ∨ k = 10 ∨ k = 13) := of_decide_eq_false (Option.some.inj m)
    have f1 := hF (gE 32) (by simp); rw [w32] at f1; have f1 : ¬ k = 32 := of_decide_eq_false (Option.some.inj f1)
    have f2 := hF (gE 9) (by simp); rw [w9] at f2; have f2 : ¬ k = 9 := of_decide_eq_false (Option.some.inj f2)
    have f3 := hF (gE 10) (by simp); rw [w10] at f3; have f3 : ¬ k = 10 := of_decide_eq_false (Option.some.inj f3)
    exact own_not (b := true) (w13.trans (congrArg some (decide_eq_true (by omega))))
  · exact own_gk 0 0 a s
  · exact own_gk 1 1 a s
  · exact own_gk 0 1 a s
  · exact own_gk 1 0 a s
def post_1 : Cond := .and limb_1_1 limb_1_2
theorem own_pure : Kit.pureVal t0 = true := by decide +kernel
theorem own_tree : own_ok own_ks own_ex own_R t0 [] [] = true := by decide +kernel
theorem met_1 (l : Launch) : MeetsLoose l x (armSpec x code maxLocals ret tables_1 room_1 .tt (.and given_1 narrow_1) post_1 frame_1_writes frame_1_arrays frame_1_statics) := by
  refine loops_meets (I := I) (ks0 := [.int]) (cuts := []) (by decide) rfl rfl rfl rfl rfl (fun args s h => ?_) entry_walk (fun _ => none) (fun _ _ _ _ _ => False) (fun _ _ _ => 0) (fun args s h => ?_) (fun args s _ h ks hks => by cases hks) (callsOk l)
  · simp only [armSpec, allAtoms, List.foldr_cons, Cond.before_and, Bool.and_eq_true] at h; exact h.1.1
  · have hts : (allAtoms (Cond.code x code maxLocals ret :: tables_1)).before args s = true := by simp only [armSpec, Cond.before_and, Bool.and_eq_true] at h; exact h.1
    have hK : (Cond.and .tt (.and given_1 narrow_1)).before args s = true := by simp only [armSpec, Cond.before_and, Bool.and_eq_true] at h ⊢; exact h.2
    simp only [armSpec, given_1, Cond.before_and, Bool.and_eq_true] at h
    obtain ⟨-, -, ⟨hc, h0⟩, hn⟩ := h
    obtain ⟨a, rfl⟩ := Cond.one_int hc h0
    have hT := known3 (Gt := []) hts hK (by intro q hq; cases hq)
    refine ⟨rfl, sorts_ok, tabs_of_sub hts (by decide +kernel), own_needs (own_hA a) (own_hE a s) hT (by decide +kernel), Kit.vc_of_value (w₀ := .int 1) (fun E => ?_) t0 own_pure (own_ok_ok (own_hA a) (own_hE a s) (own_rules a s) t0 [] [] (fun _ h => by cases h) (fun _ h => by cases h) own_tree)⟩
    simp [armSpec, post_1, limb_1_1, limb_1_2, Cond.after, Cond.holds, Cond.value, Term.eval]
theorem main_1_1 : Claimed_1_1 := armFor_of_meets0 (fun l => (met_1 l).meets) (fun _ _ _ _ h => by simp only [post_1, Cond.after_and, Bool.and_eq_true] at h; exact h.1)
theorem main_1_2 : Claimed_1_2 := armFor_of_meets0 (fun l => (met_1 l).meets) (fun _ _ _ _ h => by simp only [post_1, Cond.after_and, Bool.and_eq_true] at h; exact h.2)
end Jvm.Pilot.@@N@@
namespace Jvm.Pilot.@@N@@
open Jvm Jvm.ClassFile Sem Op Lib Jvm.Free Jvm.Stand Jvm.Pilot.@@N@@.Jvm.D
/-! MADE BY PROGRAM (witnessworld.py) out of the Statement's table words and the real class files: 10 classes; the members and pool entries that the words name. The judged class is class 1, her method 1. -/
namespace start1
open Jvm.ClassFile
def u (s : String) : CpInfo := .utf8 (stringToUtf16 s)
/-- a pool by its gaps: so many unusable entries, then the entry; so many at the end -/
def gap : Nat → List CpInfo → List CpInfo
  | 0, r => r
  | n + 1, r => .unusable :: gap n r
def poolList (es : List (Nat × CpInfo)) (last : Nat) : List CpInfo := es.foldr (fun e r => gap e.1 (e.2 :: r)) (gap last [])
def pool (es : List (Nat × CpInfo)) (last : Nat) : Array CpInfo := ⟨poolList es last⟩
def fileOf (pool : Array CpInfo) (this : Nat) (attrs : Array Attribute := #[]) (ms : Array MethodInfo := #[]) (fl : Nat := 33) (sup : Nat := 0) (ifs : Array Nat := #[]) (fds : Array FieldInfo := #[]) : ClassFile where
  minorVersion := 0
  majorVersion := 65
  constantPool := pool
  accessFlags := fl
  thisClass := this
  superClass := sup
  interfaces := ifs
  fields := fds
  methods := ms
  attributes := attrs
def plain (name : String) (sup : Option ClassId) : Class where
  name := name
  kind := .ordinary
  loader := none
  accessFlags := 33
  super := sup
  interfaces := #[]
  cf := none
  fields := #[]
  methods := #[]
  instanceTypes := #[]
  staticTypes := #[]
  resolved := #[]
  callSites := []
  init := .initialized
  statics := none
  mirror := none

def pool0 : Array CpInfo := pool [(5, u "<init>"), (0, u "()V"), (1, .class_ 10), (1, u "java/lang/Object")] 113

def k0m0 : Method := { name := "<init>", desc := "()V", sig := { parameters := [], returnType := none }, accessFlags := 1, code := none }
/-- java/lang/Object -/
def k0 : Class := { plain "java/lang/Object" none with
  accessFlags := 33
  interfaces := #[]
  cf := some (fileOf pool0 8 #[] #[{ accessFlags := 1, nameIndex := 5, descriptorIndex := 6, attributes := #[] }] 33 0 #[] #[])
  fields := #[]
  methods := #[k0m0]
  instanceTypes := #[]
  staticTypes := #[]
  resolved := Array.replicate 124 none
  statics := none }

def pool1 : Array CpInfo := pool [(2, .class_ 4), (1, u "java/lang/Object"), (0, u "<init>"), (0, u "()V"), (0, .integer 65535), (0, .long 4294977024), (1, .methodref 11 12), (0, .class_ 13), (0, .nameAndType 14 15), (0, u "bg/iskar/formats/sepa/DataType"), (0, u "isSpace"), (0, u "(C)Z"), (0, .class_ 17), (0, u "bg/iskar/formats/sepa/DataTypeIsSpacePinLaw"), (2, u "law"), (0, u "(I)Z")] 3

def k1m0 : Method := { name := "<init>", desc := "()V", sig := { parameters := [], returnType := none }, accessFlags := 2, code := none }
def k1c1 : Code := { maxStack := 4, maxLocals := 3, code := code, exceptionTable := #[], attributes := #[] }
def k1m1 : Method := { name := "law", desc := "(I)Z", sig := { parameters := [.int], returnType := some .boolean }, accessFlags := 9, code := some k1c1 }
/-- bg/iskar/formats/sepa/DataTypeIsSpacePinLaw -/
def k1 : Class := { plain "bg/iskar/formats/sepa/DataTypeIsSpacePinLaw" (some 0) with
  accessFlags := 49
  interfaces := #[]
  cf := some (fileOf pool1 16 #[] #[{ accessFlags := 2, nameIndex := 5, descriptorIndex := 6, attributes := #[] }, { accessFlags := 9, nameIndex := 20, descriptorIndex := 21, attributes := #[] }] 49 2 #[] #[])
  fields := #[]
  methods := #[k1m0, k1m1]
  instanceTypes := #[]
  staticTypes := #[]
  resolved := Array.replicate 25 none
  statics := none }

def pool2 : Array CpInfo := pool [(1, .class_ 2), (0, u "bg/iskar/formats/sepa/ElementType"), (0, .class_ 4), (0, u "java/lang/Object")] 9

/-- bg/iskar/formats/sepa/ElementType -/
def k2 : Class := { plain "bg/iskar/formats/sepa/ElementType" (some 0) with
  accessFlags := 1536
  interfaces := #[]
  cf := some (fileOf pool2 1 #[] #[] 1536 3 #[] #[])
  fields := #[]
  methods := #[]
  instanceTypes := #[]
  staticTypes := #[]
  resolved := Array.replicate 14 none
  statics := none }

def pool3 : Array CpInfo := pool [(2, .class_ 4), (1, u "java/lang/Object"), (3, .class_ 10), (1, u "bg/iskar/formats/sepa/DataType"), (0, u "name"), (0, u "Ljava/lang/String;"), (2, u "kind"), (0, u "Lbg/iskar/formats/sepa/DataType$Kind;"), (2, u "example"), (2, u "attributes"), (0, u "Ljava/util/List;"), (0, .class_ 25), (0, u "bg/iskar/formats/sepa/DataType$Length"), (34, .class_ 61), (0, u "bg/iskar/formats/sepa/DataType$Kept"), (40, .class_ 103), (0, u "bg/iskar/formats/sepa/DataType$Decimal"), (29, .class_ 134), (0, u "bg/iskar/formats/sepa/DataType$Attribute"), (7, .class_ 144), (1, u "bg/iskar/formats/sepa/DataType$Kind"), (12, .class_ 159), (1, u "bg/iskar/formats/sepa/DataType$Judge"), (50, u "isSpace"), (0, u "(C)Z"), (6, u "DATE"), (0, u "Ljava/util/regex/Pattern;"), (19, u "DATE_TIME"), (33, u "DAYS_IN_MONTH"), (0, u "[I"), (10, .class_ 286), (0, u "bg/iskar/formats/sepa/ElementType"), (0, u "KEPT_CHARS"), (0, u "I"), (2, u "ZONE"), (2, u "LAST_HOUR"), (1, u "LAST_ZONE_HOUR"), (1, u "LAST_MINUTE"), (1, u "LAST_SECOND"), (0, u "MOST_YEAR_DIGITS"), (1, u "FEBRUARY"), (33, .class_ 338), (0, u "bg/iskar/formats/sepa/DataType$Decimal$Part"), (0, .class_ 340), (0, u "bg/iskar/formats/sepa/DataType$Decimal$1"), (0, .class_ 342), (0, u "bg/iskar/formats/sepa/DataType$Kept$1"), (0, .class_ 344), (0, u "bg/iskar/formats/sepa/DataType$Length$1")] 50

def k3c0 : Code := { maxStack := 2, maxLocals := 1, code := prog_153_method_17_code, exceptionTable := #[], attributes := #[] }
def k3m0 : Method := { name := "isSpace", desc := "(C)Z", sig := { parameters := [.char], returnType := some .boolean }, accessFlags := 8, code := some k3c0 }
/-- bg/iskar/formats/sepa/DataType -/
def k3 : Class := { plain "bg/iskar/formats/sepa/DataType" (some 0) with
  accessFlags := 48
  interfaces := #[2]
  cf := some (fileOf pool3 8 #[.nestMembers #[102, 337, 339, 60, 341, 24, 343, 142, 157, 133]] #[{ accessFlags := 8, nameIndex := 210, descriptorIndex := 211, attributes := #[] }] 48 2 #[285] #[{ accessFlags := 26, nameIndex := 287, descriptorIndex := 288, attributes := #[] }, { accessFlags := 26, nameIndex := 291, descriptorIndex := 12, attributes := #[] }, { accessFlags := 26, nameIndex := 218, descriptorIndex := 219, attributes := #[] }, { accessFlags := 26, nameIndex := 239, descriptorIndex := 219, attributes := #[] }, { accessFlags := 26, nameIndex := 294, descriptorIndex := 288, attributes := #[] }, { accessFlags := 26, nameIndex := 296, descriptorIndex := 288, attributes := #[] }, { accessFlags := 26, nameIndex := 298, descriptorIndex := 288, attributes := #[] }, { accessFlags := 26, nameIndex := 300, descriptorIndex := 288, attributes := #[] }, { accessFlags := 26, nameIndex := 301, descriptorIndex := 288, attributes := #[] }, { accessFlags := 26, nameIndex := 303, descriptorIndex := 288, attributes := #[] }, { accessFlags := 26, nameIndex := 273, descriptorIndex := 274, attributes := #[] }, { accessFlags := 18, nameIndex := 11, descriptorIndex := 12, attributes := #[] }, { accessFlags := 18, nameIndex := 15, descriptorIndex := 16, attributes := #[] }, { accessFlags := 18, nameIndex := 19, descriptorIndex := 12, attributes := #[] }, { accessFlags := 18, nameIndex := 22, descriptorIndex := 23, attributes := #[] }])
  fields := #[{ name := "KEPT_CHARS", type := .int, accessFlags := 26, slot := 0, constantValue := 0 }, { name := "ZONE", type := (.object "java/lang/String"), accessFlags := 26, slot := 1, constantValue := 0 }, { name := "DATE", type := (.object "java/util/regex/Pattern"), accessFlags := 26, slot := 2, constantValue := 0 }, { name := "DATE_TIME", type := (.object "java/util/regex/Pattern"), accessFlags := 26, slot := 3, constantValue := 0 }, { name := "LAST_HOUR", type := .int, accessFlags := 26, slot := 4, constantValue := 0 }, { name := "LAST_ZONE_HOUR", type := .int, accessFlags := 26, slot := 5, constantValue := 0 }, { name := "LAST_MINUTE", type := .int, accessFlags := 26, slot := 6, constantValue := 0 }, { name := "LAST_SECOND", type := .int, accessFlags := 26, slot := 7, constantValue := 0 }, { name := "MOST_YEAR_DIGITS", type := .int, accessFlags := 26, slot := 8, constantValue := 0 }, { name := "FEBRUARY", type := .int, accessFlags := 26, slot := 9, constantValue := 0 }, { name := "DAYS_IN_MONTH", type := (.array .int), accessFlags := 26, slot := 10, constantValue := 0 }, { name := "name", type := (.object "java/lang/String"), accessFlags := 18, slot := 0, constantValue := 0 }, { name := "kind", type := (.object "bg/iskar/formats/sepa/DataType$Kind"), accessFlags := 18, slot := 1, constantValue := 0 }, { name := "example", type := (.object "java/lang/String"), accessFlags := 18, slot := 2, constantValue := 0 }, { name := "attributes", type := (.object "java/util/List"), accessFlags := 18, slot := 3, constantValue := 0 }]
  methods := #[k3m0]
  instanceTypes := #[(.object "java/lang/String"), (.object "bg/iskar/formats/sepa/DataType$Kind"), (.object "java/lang/String"), (.object "java/util/List")]
  staticTypes := #[.int, (.object "java/lang/String"), (.object "java/util/regex/Pattern"), (.object "java/util/regex/Pattern"), .int, .int, .int, .int, .int, .int, (.array .int)]
  resolved := Array.replicate 395 none
  statics := none }

def pool4 : Array CpInfo := pool [(1, u "java/lang/Cloneable"), (0, .class_ 1), (0, u "java/lang/Object"), (0, .class_ 3)] 3

/-- java/lang/Cloneable -/
def k4 : Class := { plain "java/lang/Cloneable" (some 0) with
  accessFlags := 1537
  interfaces := #[]
  cf := some (fileOf pool4 2 #[] #[] 1537 4 #[] #[])
  fields := #[]
  methods := #[]
  instanceTypes := #[]
  staticTypes := #[]
  resolved := Array.replicate 8 none
  statics := none }

def pool5 : Array CpInfo := pool [(1, u "java/io/Serializable"), (0, .class_ 1), (0, u "java/lang/Object"), (0, .class_ 3)] 3

/-- java/io/Serializable -/
def k5 : Class := { plain "java/io/Serializable" (some 0) with
  accessFlags := 1537
  interfaces := #[]
  cf := some (fileOf pool5 2 #[] #[] 1537 4 #[] #[])
  fields := #[]
  methods := #[]
  instanceTypes := #[]
  staticTypes := #[]
  resolved := Array.replicate 8 none
  statics := none }

/-- the primitive byte -/
def k6 : Class := { plain "byte" none with kind := .primitive 'B', accessFlags := 0x411 }
/-- [B -/
def k7 : Class := { plain "[B" (some 0) with kind := .array 6 .byte, interfaces := #[4, 5], accessFlags := 1041 }

/-- the primitive int -/
def k8 : Class := { plain "int" none with kind := .primitive 'I', accessFlags := 0x411 }
/-- [I -/
def k9 : Class := { plain "[I" (some 0) with kind := .array 8 .int, interfaces := #[4, 5], accessFlags := 1041 }

def heap : Heap := #[]
def classes : Array Class := #[k0, k1, k2, k3, k4, k5, k6, k7, k8, k9]
def interned : List (Array UInt16 × Addr) := []
def slotsUsed : Nat := 0
def theMethod : MethodId := ⟨1, 1⟩
def args0 : Array Value := #[.int 32]
def aboutOver (below : List Frame) : State where
  vm := { classes := classes, interned := interned.toArray }
  heap := heap
  slotsUsed := slotsUsed
  threads := #[{ frames := .invoking theMethod args0 :: below }]
def below0 : List Frame := [.native { method := ⟨0, 0⟩, args := #[] }]
def about1 : State := aboutOver below0
def p0 : Program := .bare "" "" ""
def e0 : Env := launch0.env 0 0 0
theorem w_frames : about1.frames = Frame.invoking theMethod args0 :: below0 := rfl
set_option maxRecDepth 65536 in
theorem w_args : argsFit about1.vm theMethod args0 = true := by decide +kernel
set_option maxRecDepth 65536 in
theorem w_heap : heapFits about1 = true := by decide +kernel
set_option maxRecDepth 65536 in
theorem w_runnable : about1.curStatus? = some .runnable := by decide +kernel
set_option maxRecDepth 65536 in
theorem w_alone : about1.alone = true := by decide +kernel
set_option maxRecDepth 65536 in
theorem w_named : about1.methodNamed? x = some theMethod := by decide +kernel
set_option maxRecDepth 65536 in
theorem w_hears : about1.hears theMethod below0 = true := by decide +kernel
set_option maxRecDepth 65536 in
theorem w_ripe : about1.ripe theMethod args0 below0 = true := by decide +kernel
theorem w_running : about1.status = .running := rfl
set_option maxRecDepth 65536 in
theorem w_room : about1.hasRoom e0.platform room_1 = true :=
  launch0.hasRoom_least _ room_1 (by decide +kernel) (by decide +kernel) (by decide +kernel) (by decide +kernel) (by decide +kernel) (by decide +kernel)
theorem allAtoms_all (ts : List Jvm.Cond) (a : Array Jvm.Value) (st : Jvm.State) : (allAtoms ts).before a st = ts.all (fun c => c.before a st) := by
  induction ts with
  | nil => rfl
  | cons c t ih =>
    show (Jvm.Cond.and c (allAtoms t)).before a st = _
    rw [Jvm.Cond.before_and, ih, List.all_cons]
def words1 : List Jvm.Cond := Jvm.Cond.code x code maxLocals ret :: tables_1
/-- a 'code' word, met by the world's own term for the bytes: nothing is compared byte by byte -/
theorem code_word {y : MethodName} {bytes : ByteArray} {mx : Nat} {rt : Option FieldType} {a : Array Value} {s : State} {m : MethodId} {meth : Method} {c : Code} (h1 : s.methodNamed? y = some m) (h2 : s.vm.method? m = some meth) (h3 : meth.code = some c) (h4 : c.code = bytes)
    (h5 : (c.maxLocals == mx && c.exceptionTable.isEmpty && decide (c.maxStack ≤ mostOperands) && decide (meth.sig.returnType = rt) && !meth.locks && decide (parseMethodDescriptor y.desc = some meth.sig)) = true) : (Jvm.Cond.code y bytes mx rt).before a s = true := by
  simp only [Bool.and_eq_true, beq_iff_eq, Bool.not_eq_true', decide_eq_true_eq] at h5
  obtain ⟨⟨⟨⟨⟨g1, g2⟩, g3⟩, g4⟩, g5⟩, g6⟩ := h5
  simp [Cond.before, Cond.holds, Cond.value, h1, h2, h3, h4, g1, g2, g3, g4, g5, g6]
def isCode : Jvm.Cond → Bool
  | .code _ _ _ _ => true
  | _ => false
theorem all_split {L : List Jvm.Cond} {P : Jvm.Cond → Bool} (h1 : L.all (fun c => isCode c || P c) = true) (h2 : ∀ c ∈ L.filter isCode, P c = true) : L.all P = true := by
  refine List.all_eq_true.mpr fun c hc => ?_
  have h := List.all_eq_true.mp h1 c hc
  rcases Bool.eq_false_or_eq_true (isCode c) with hi | hi
  · exact h2 c (List.mem_filter.mpr ⟨hc, hi⟩)
  · simpa [hi] using h
set_option maxRecDepth 65536 in
theorem w_c0 : (Jvm.Cond.code x code maxLocals ret).before args0 about1 = true := code_word (m := ⟨1, 1⟩) (meth := k1m1) (c := k1c1) (by decide +kernel) rfl rfl rfl (by decide +kernel)
set_option maxRecDepth 65536 in
theorem w_c1 : (Jvm.Cond.code ({ cls := "bg/iskar/formats/sepa/DataType", name := "isSpace", desc := "(C)Z" } : Jvm.MethodName) prog_153_method_17_code (1 : Nat) (Option.some Jvm.ClassFile.FieldType.boolean)).before args0 about1 = true := code_word (m := ⟨3, 0⟩) (meth := k3m0) (c := k3c0) (by decide +kernel) rfl rfl rfl (by decide +kernel)
def codes1 : List Jvm.Cond := [Jvm.Cond.code x code maxLocals ret, Jvm.Cond.code ({ cls := "bg/iskar/formats/sepa/DataType", name := "isSpace", desc := "(C)Z" } : Jvm.MethodName) prog_153_method_17_code (1 : Nat) (Option.some Jvm.ClassFile.FieldType.boolean)]
set_option maxRecDepth 65536 in
theorem codes_eq : words1.filter isCode = codes1 := rfl
theorem w_codes : ∀ c ∈ words1.filter isCode, c.before args0 about1 = true := by
  rw [codes_eq]
  intro c hc
  simp only [codes1, List.mem_cons, List.not_mem_nil, or_false] at hc
  rcases hc with rfl | rfl
  · exact w_c0
  · exact w_c1
set_option maxRecDepth 65536 in
theorem w_t1 : words1.all (fun c => isCode c || c.before args0 about1) = true := by decide +kernel
theorem w_tables : (allAtoms (Jvm.Cond.code x code maxLocals ret :: tables_1)).before args0 about1 = true := by
  rw [allAtoms_all]
  show words1.all (fun c => c.before args0 about1) = true
  refine all_split ?_ w_codes
  rw [w_t1]
set_option maxRecDepth 65536 in
theorem w_case : (Jvm.Cond.and given_1 narrow_1).before args0 about1 = true := by decide +kernel
theorem w_applies : (headSpec (Jvm.Cond.code x code maxLocals ret :: tables_1) room_1).applies x e0.platform about1 = true :=
  (Spec.applies_iff w_frames).mpr ⟨w_running, w_runnable, w_alone, w_named, w_hears, w_ripe, w_room, w_tables⟩
theorem atStart : AtStart classFile x code maxLocals ret World_1 tables_1 room_1 Calls_1 rest_1 Pre_1 launch0 p0 e0 about1 theMethod args0 below0 :=
  ⟨lists_1, trivial, launch0.admits_env _ _ _, launch0.least_env, fairChoices_fair.cas, fairChoices_fair.clock, w_frames, w_args, w_heap, w_applies, trivial, trivial, w_case⟩
end start1
theorem witness_1 : WitnessClaimed_1 := ⟨start1.p0, start1.e0, start1.about1, start1.theMethod, start1.args0, start1.below0, start1.atStart⟩
end Jvm.Pilot.@@N@@
