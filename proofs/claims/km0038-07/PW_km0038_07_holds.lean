import PyProof.Rows.All
import Wide.All
import OpenK.AllK
import Wide.FinOn
import PySem.Challenge.RW_km0038_07
set_option Elab.async false
section
open PySem PySem.W PyProof.Rows
noncomputable section
namespace Mine
def topRunT (tb : String → Option Builtin) (p : Program) (w : World) (n₀ : Nat) (ann : Option Value) : Nat → SharedT → Thread → Option SharedT
  | 0, _, _ => none
  | n + 1, s, t => match through t with
    | true => some s
    | false => match stepOk n₀ ann t with
      | false => none
      | true => match stepT (denote tb) p w s t with
        | some (s', t') => topRunT tb p w n₀ ann n s' t'
        | none => none
theorem topRunT_of {tb : String → Option Builtin} {p : Program} {w : World} {n₀ : Nat} {ann : Option Value} : ∀ {n : Nat} {s s' : SharedT} {t : Thread},
    topRunT tb p w n₀ ann n s t = some s' → topRun tb p w n₀ ann n s.abs t = some s'.abs
  | 0, _, _, _, h => by cases h
  | n + 1, s, s', t, h => by
    unfold topRunT at h
    unfold topRun
    cases he : through t with
    | true => rw [he] at h; cases h; rfl
    | false =>
      rw [he] at h
      cases hk : stepOk n₀ ann t with
      | false => rw [hk] at h; cases h
      | true =>
        rw [hk] at h
        cases hs : stepT (denote tb) p w s t with
        | none => rw [hs] at h; cases h
        | some r => obtain ⟨s₂, t₂⟩ := r; rw [hs] at h; dsimp only; rw [stepT_spec hs]; exact topRunT_of h

def plant (l : List Obj) : BT := (l.foldl (fun (x : BT × Nat) o => (x.1.ins x.2 o, x.2 + 1)) (BT.nil, 0)).1
def bootT (P : Params) : BT := plant (boot_heap P).objs.toList
def bootN : Nat := 11
def start0 (w : World) (os : OsState) : SharedT := ⟨bootT w.params, bootN, (boot_heap w.params).life, #[], boot_drawn, boot_toks, os⟩

def shotF {α : Type} (p q : Program) (loose : List Str) (s₀ : SharedT) (h₀ : Heap) (Yf : Shared → α) (M : Nat) (w : World) :=
  (topRunT treeTable p w 11 (some (.ref 6)) M s₀ (topStub p)).map fun sT =>
    ((staticsOk (importedModules p.main.body) h₀ sT.abs.heap && namesBound p sT.abs.heap && gensDone sT.abs && laidKept h₀ sT.abs.heap),
      openSeen q loose (importedModules p.main.body) (fun s => xlAt q [] s && recOk [] s) true sT.abs, Yf sT.abs)
end Mine
end
noncomputable section
namespace Mine
theorem boot_base (P : Params) : absHeap (bootT P) bootN (boot_heap P).life = boot_heap P := by kernel_rfl
theorem boot_size (w : World) : ((boot_heap w.params).isNs mainGlobals && (#[] : Array GenState).size == 0, (boot_heap w.params).objs.size, (boot_heap w.params).nsMap mainGlobals "__annotations__") = (true, 11, some (.ref 6)) := by kernel_rfl
theorem left_shot {p q : Program} {loose : List Str} {α : Type} {Yf : Shared → α} {Ya : World → α} {N : Nat}
    (e : opening p = plainProg p.main.scope.names) (hN : Nat.ble 600 N = true) (f : ∀ s, fenceModules? p s = some s)
    (h : ∀ w os, shotF p q loose (start0 w os) (boot_heap w.params) Yf N w = some (true, openGood q loose, Ya w)) :
    LeftO p q loose (fun s => xlAt q [] s && recOk [] s) Yf Ya N true := fun w => by
  obtain ⟨⟨hp, gs, d, k, os⟩, e1, e2⟩ := Option.map_eq_some_iff.mp (boot_open e hN f w)
  obtain ⟨rfl, rfl, rfl, rfl⟩ : hp = boot_heap w.params ∧ gs = #[] ∧ d = boot_drawn ∧ k = boot_toks := by simpa using e2
  obtain ⟨sT, r, l⟩ := Option.map_eq_some_iff.mp (h w os)
  obtain ⟨l1, l2, l3⟩ : _ ∧ _ ∧ _ := by simpa only [Prod.mk.injEq] using l
  have r := topRunT_of r
  rw [show (start0 w os).abs = ⟨boot_heap w.params, #[], boot_drawn, boot_toks, os⟩ from congrArg (fun x => (⟨x, #[], boot_drawn, boot_toks, os⟩ : Shared)) (boot_base w.params)] at r
  obtain ⟨z1, z2, z3⟩ : _ ∧ _ ∧ _ := by simpa only [Prod.mk.injEq] using boot_size w
  have t : topFrom treeTable p w N ⟨boot_heap w.params, #[], boot_drawn, boot_toks, os⟩ = some sT.abs := by
    unfold topFrom
    dsimp only
    rw [z1, z2, z3, r]
    show (match staticsOk (importedModules p.main.body) (boot_heap w.params) sT.abs.heap && namesBound p sT.abs.heap && gensDone sT.abs && laidKept (boot_heap w.params) sT.abs.heap with | true => _ | false => _) = _
    rw [l1]
  unfold openEnds
  rw [e1]
  show (topFrom treeTable p w N _).map _ = _
  rw [t]
  exact congrArg some (Prod.ext l2 l3)
end Mine
end
namespace Mine
theorem left_shotT (H : Hook) {p q : Program} {loose : List Str} {N : Nat}
    (T : {α : Type} → Program → Program → List Str → SharedT → Heap → (Shared → α) → Nat → World → _) (te : @shotF = @T)
    (e1 : opening p = plainProg p.main.scope.names) (hN : Nat.ble 600 N = true) (f : ∀ s, fenceModules? p s = some s)
    (h : ∀ w os, T p q loose (start0 w os) (boot_heap w.params) H.obs N w = some (true, openGood q loose, H.val w)) :
    LeftO p q loose (fun s => xlAt q [] s && recOk [] s) H.obs H.val N true := by
  refine left_shot e1 hN f ?_
  rw [te]
  exact h
end Mine
end
section
open PySem PySem.W PyProof.Rows
set_option maxRecDepth 100000
set_option maxHeartbeats 8000000
lay_quick Mine.shotF
noncomputable section
namespace Mine
abbrev pw := PySem.Challenge.pw_km0038_07
def qv : Program := view pw [29]
def lo : List Str := ["_wall", "_collapse_addresses_internal", "_IPAddressBase", "_gt_from_lt", "_le_from_lt", "_ge_from_lt", "_ge_from_le", "_lt_from_le", "_gt_from_le", "_lt_from_gt", "_ge_from_gt", "_le_from_gt", "_le_from_ge", "_gt_from_ge", "_lt_from_ge", "total_ordering", "_NOT_FOUND", "cached_property", "_BaseNetwork", "_BaseConstants", "_law_net", "_law_asked", "_law_word", "_law_all"]
end Mine
end
local macro_rules | `(tactic| o_law) => `(tactic| refine PySem.W.holds_law (by decide +kernel) fun said => ?_)
set_option hygiene false
local macro_rules
  | `(tactic| o_head $H) => `(tactic| (
    refine PySem.W.holds_open (r := PySem.Challenge.rw_km0038_07.row) (q := Mine.qv) (loose := Mine.lo) (Xt := fun s => xlAt Mine.qv [] s && recOk [] s) (XP := XL Mine.qv []) (Yf := Hook.obs $H) (Ya := Hook.val $H) (YP := Hook.says $H) (N := 8000) ?hl (Hook.of $H) (Hook.keeps $H) (fun s e => xl_of s (Bool.and_eq_true_iff.mp e).1) XL.keeps (by rfl) (by rfl) (by rfl) (fun s e => recFacts_of (Bool.and_eq_true_iff.mp e).2) (by rfl) (by first | assumption | decide +kernel) (by decide +kernel) ⟨rfl, rfl, rfl, rfl, rfl, by decide +kernel⟩ ?hw ?hc;
    (case hl => (refine Mine.left_shotT $H (p := Mine.pw) _ PySem.W.Fast.te17940891641106722768 (by kernel_rfl) (by decide) (by intro s; kernel_rfl) ?_; intro w os; kernel_rfl))))
set_option hygiene true
namespace Mine
open_top hd for PySem.Challenge.rw_km0038_07
end Mine
end
section
namespace Mine
inductive LT where
  | n (k : Nat) | v (i : Nat) | a (x y : LT) | m (k : Nat) (x : LT) | r (x : LT) (k : Nat)
noncomputable def LT.den (c : List Nat) : LT → Nat
  | .n k => k | .v i => c.getD i 0 | .a x y => x.den c + y.den c | .m k x => k * x.den c | .r x k => x.den c * k
noncomputable def vadd : List Nat → List Nat → List Nat
  | [], y => y | x, [] => x | a :: x, b :: y => (a + b) :: vadd x y
noncomputable def vone : Nat → List Nat
  | 0 => [1] | i + 1 => 0 :: vone i
noncomputable def vmul (k : Nat) : List Nat → List Nat
  | [] => [] | a :: x => (k * a) :: vmul k x
noncomputable def LT.vec : LT → List Nat
  | .n k => [k] | .v i => 0 :: vone i | .a x y => vadd x.vec y.vec | .m k x => vmul k x.vec | .r x k => vmul k x.vec
noncomputable def vdot : List Nat → List Nat → Nat
  | _, [] => 0 | [], _ => 0 | b :: c, a :: x => a * b + vdot c x
noncomputable def vle : List Nat → List Nat → Bool
  | [], _ => true | a :: x, [] => a == 0 && vle x [] | a :: x, b :: y => Nat.ble a b && vle x y
noncomputable abbrev LCs := List (Nat × LT × LT)
noncomputable def LCs.den (c : List Nat) : LCs → Prop
  | [] => False | p :: r => p.2.1.den c ≤ p.2.2.den c → LCs.den c r
noncomputable def LCs.left : LCs → List Nat
  | [] => [] | p :: r => vadd (vmul p.1 p.2.1.vec) (LCs.left r)
noncomputable def LCs.right : LCs → List Nat
  | [] => [] | p :: r => vadd (vmul p.1 p.2.2.vec) (LCs.right r)
theorem vdot_nil (c : List Nat) : vdot c [] = 0 := by cases c <;> rfl
theorem vdot_add : ∀ (c x y : List Nat), vdot c (vadd x y) = vdot c x + vdot c y
  | c, [], y => by rw [vadd, vdot_nil, Nat.zero_add]
  | c, a :: x, [] => by rw [vadd, vdot_nil, Nat.add_zero]; intro h; cases h
  | [], a :: x, b :: y => rfl
  | d :: c, a :: x, b :: y => by
    show (a + b) * d + vdot c (vadd x y) = (a * d + vdot c x) + (b * d + vdot c y)
    rw [vdot_add c x y, Nat.add_mul]; omega
theorem vdot_mul (k : Nat) : ∀ (c x : List Nat), vdot c (vmul k x) = k * vdot c x
  | c, [] => by rw [vmul, vdot_nil, Nat.mul_zero]
  | [], a :: x => rfl
  | d :: c, a :: x => by
    show k * a * d + vdot c (vmul k x) = k * (a * d + vdot c x)
    rw [vdot_mul k c x, Nat.mul_add, Nat.mul_assoc]
theorem vdot_one : ∀ (i : Nat) (c : List Nat), vdot c (vone i) = c.getD i 0
  | 0, [] => rfl
  | 0, d :: c => by show 1 * d + vdot c [] = d; rw [vdot_nil, Nat.one_mul, Nat.add_zero]
  | i + 1, [] => rfl
  | i + 1, d :: c => by show 0 * d + vdot c (vone i) = c.getD i 0; rw [vdot_one i c, Nat.zero_mul, Nat.zero_add]
theorem LT.vec_den (c : List Nat) : ∀ x : LT, vdot (1 :: c) x.vec = x.den c
  | .n k => by show k * 1 + vdot c [] = k; rw [vdot_nil, Nat.mul_one, Nat.add_zero]
  | .v i => by show 0 * 1 + vdot c (vone i) = c.getD i 0; rw [vdot_one, Nat.zero_mul, Nat.zero_add]
  | .a x y => by show vdot _ (vadd _ _) = x.den c + y.den c; rw [vdot_add, vec_den c x, vec_den c y]
  | .m k x => by show vdot _ (vmul _ _) = k * x.den c; rw [vdot_mul, vec_den c x]
  | .r x k => by show vdot _ (vmul _ _) = x.den c * k; rw [vdot_mul, vec_den c x, Nat.mul_comm]
theorem vle_dot : ∀ (x y c : List Nat), vle x y = true → vdot c x ≤ vdot c y
  | [], y, c, _ => by rw [vdot_nil]; exact Nat.zero_le _
  | a :: x, [], [], _ => Nat.le_refl _
  | a :: x, [], d :: c, h => by
    have h := (Bool.and_eq_true _ _).mp h
    have e : a = 0 := by simpa using h.1
    have := vle_dot x [] c h.2
    rw [vdot_nil] at this ⊢
    show a * d + vdot c x ≤ 0
    rw [e, Nat.zero_mul, Nat.zero_add]; exact this
  | a :: x, b :: y, [], _ => Nat.le_refl _
  | a :: x, b :: y, d :: c, h => by
    have h := (Bool.and_eq_true _ _).mp h
    exact Nat.add_le_add (Nat.mul_le_mul_right d (Nat.le_of_ble_eq_true h.1)) (vle_dot x y c h.2)
theorem LCs.sound (c : List Nat) : ∀ (cs : LCs) (X Y : List Nat), (vle (vadd [1] (vadd Y cs.right)) (vadd X cs.left) = true) → vdot (1 :: c) X ≤ vdot (1 :: c) Y → cs.den c
  | [], X, Y, h, e => by
    have := vle_dot _ _ (1 :: c) h
    rw [vdot_add, vdot_add, vdot_add] at this
    have h1 : vdot (1 :: c) [1] = 1 := by show 1 * 1 + vdot c [] = 1; rw [vdot_nil]
    have h2 : vdot (1 :: c) (LCs.left []) = 0 := rfl
    have h3 : vdot (1 :: c) (LCs.right []) = 0 := rfl
    show False
    omega
  | p :: r, X, Y, h, e => fun q => by
    refine LCs.sound c r (vadd X (vmul p.1 p.2.1.vec)) (vadd Y (vmul p.1 p.2.2.vec)) ?_ ?_
    · have as : ∀ a b d : List Nat, vadd (vadd a b) d = vadd a (vadd b d) := by
        intro a
        induction a with
        | nil => intro b d; rfl
        | cons x a ih =>
          intro b d
          cases b with
          | nil => cases d <;> rfl
          | cons y b =>
            cases d with
            | nil => rfl
            | cons z d =>
              show (x + y + z) :: vadd (vadd a b) d = (x + (y + z)) :: vadd a (vadd b d)
              rw [ih, Nat.add_assoc]
      rw [as, as]; exact h
    · rw [vdot_add, vdot_add, vdot_mul, vdot_mul, LT.vec_den, LT.vec_den]
      exact Nat.add_le_add e (Nat.mul_le_mul_left p.1 q)
theorem cert (c : List Nat) (cs : LCs) (h : vle (vadd [1] cs.right) cs.left = true) : cs.den c := LCs.sound c cs [] [] h (Nat.le_refl _)
theorem sub_a {x y : Nat} : x ≤ x - y + y := Nat.sub_le_iff_le_add.mp (Nat.le_refl _)
theorem sub_c {x y : Nat} (h : y ≤ x) : x - y + y ≤ x := Nat.le_of_eq (Nat.sub_add_cancel h)
theorem sub_d {x y : Nat} (h : x ≤ y) : x - y ≤ 0 := Nat.le_of_eq (Nat.sub_eq_zero_of_le h)
theorem min_c {x y : Nat} (h : x ≤ y) : x ≤ min x y := Nat.le_min.mpr ⟨Nat.le_refl _, h⟩
theorem min_d {x y : Nat} (h : y ≤ x) : y ≤ min x y := Nat.le_min.mpr ⟨h, Nat.le_refl _⟩
theorem max_c {x y : Nat} (h : x ≤ y) : max x y ≤ y := Nat.max_le.mpr ⟨h, Nat.le_refl _⟩
theorem max_d {x y : Nat} (h : y ≤ x) : max x y ≤ x := Nat.max_le.mpr ⟨Nat.le_refl _, h⟩
theorem eq_b {x y : Nat} (h : x = y) : y ≤ x := Nat.le_of_eq h.symm
theorem ne_e {x y : Nat} {p : Prop} (h : ¬ x = y) (a : x < y → p) (b : y < x → p) : p := (Nat.lt_or_gt_of_ne h).elim a b
theorem le_e (x y : Nat) {p : Prop} (a : x ≤ y → p) (b : y ≤ x → p) : p := (Nat.le_total x y).elim a b
theorem div_a {x k : Nat} : k * (x / k) ≤ x := Nat.mul_div_le x k
theorem room0 {d m L : Nat} (h : d + m < L) : d < L := Nat.lt_of_le_of_lt (Nat.le_add_right d m) h
theorem room1 {d n m L : Nat} (h : d + m < L) (k : Nat.ble n m = true) : d + n < L := Nat.lt_of_le_of_lt (Nat.add_le_add_left (Nat.le_of_ble_eq_true k) d) h
theorem room2 {d a n m L : Nat} (h : d + m < L) (k : Nat.ble (a + n) m = true) : d + a + n < L := by rw [Nat.add_assoc]; exact room1 h k
theorem room3 {d a b n m L : Nat} (h : d + m < L) (k : Nat.ble (a + b + n) m = true) : d + a + b + n < L := by rw [Nat.add_assoc d a b]; exact room2 h k
theorem room4 {d a b c n m L : Nat} (h : d + m < L) (k : Nat.ble (a + b + c + n) m = true) : d + a + b + c + n < L := by rw [Nat.add_assoc d a b]; exact room3 h k
theorem r0 {a : Nat} (h1 : a ≤ (1000 : Nat)) : a ≤ (16777216 : Nat) := Nat.le_trans h1 (Nat.le_of_lt (Nat.le_add_left (Nat.succ 1000) 16776215))
theorem r1 {a b : Nat} (h1 : ¬ (b < a)) : a ≤ b := Nat.le_of_not_lt fun q1 => cert [a, b] [(1, (.v 0), (.v 1)), (1, (.a (.v 1) (.n 1)), (.v 0))] rfl (Nat.le_of_not_lt h1) q1
theorem r2 {a b c : Nat} (h1 : (a + (b + (1 : Nat))) = c) : ((a + (1 : Nat)) + b) = c := Nat.le_antisymm (Nat.le_of_not_lt fun q1 => cert [a, b, c] [(1, (.a (.v 0) (.a (.v 1) (.n 1))), (.v 2)), (1, (.a (.v 2) (.n 1)), (.a (.a (.v 0) (.n 1)) (.v 1)))] rfl (Nat.le_of_eq h1) q1) (Nat.le_of_not_lt fun q2 => cert [c, a, b] [(1, (.v 0), (.a (.v 1) (.a (.v 2) (.n 1)))), (1, (.a (.a (.a (.v 1) (.n 1)) (.v 2)) (.n 1)), (.v 0))] rfl (eq_b h1) q2)
theorem r3 {a b : Nat} : a ≤ (a + b) := by (subst_vars; simp; done)
theorem r4 {a : Nat} : ((0 : Nat) + a) = a := by (simp at *; done)
theorem r5 {a b : Nat} (h1 : a < b) : a ≤ b := Nat.le_trans (Nat.le_of_lt h1) (Nat.le_refl b)
theorem r6 {a b c : Nat} (h1 : c < b) (h2 : a ≤ c) : a < b := Nat.lt_of_not_le fun q1 => cert [c, b, a] [(1, (.a (.v 0) (.n 1)), (.v 1)), (1, (.v 2), (.v 0)), (1, (.v 1), (.v 2))] rfl h1 h2 q1
theorem r7 {a b : Nat} (h1 : a ≤ b) : a ≤ b := by omega
theorem r8 {a : Nat} : ¬ (((a : Nat) : Int) < (0 : Int)) := by (simp [*] at *; done)
theorem r9 {a : Nat} (h1 : (0 : Nat) < a) : (a - (1 : Nat)) < a := Nat.lt_of_not_le fun q1 => cert [a, (a - 1)] [(1, (.v 0), (.v 1)), (1, (.a (.v 1) (.n 1)), (.v 0))] rfl q1 (@sub_c a 1 h1)
theorem r10 {a b c d : Nat} (h1 : b < d) (h2 : (a + d) ≤ c) : (a + b) < c := Nat.lt_of_not_le fun q1 => cert [b, d, a, c] [(1, (.a (.v 0) (.n 1)), (.v 1)), (1, (.a (.v 2) (.v 1)), (.v 3)), (1, (.v 3), (.a (.v 2) (.v 0)))] rfl h1 h2 q1
theorem r11 {a b : Nat} (h1 : a ≤ b) : a ≤ (b + (1 : Nat)) := Nat.le_trans h1 (Nat.le_of_lt (Nat.le_refl b.succ))
theorem r12 {a b : Nat} (h1 : a < b) : a < (b + (1 : Nat)) := Nat.le_trans h1 (Nat.le_of_lt (Nat.le_refl b.succ))
theorem r13 {a b c : Nat} (h1 : a < c) (h2 : c < b) : a < b := Nat.le_trans h1 (Nat.le_of_lt h2)
theorem r14 {b : Nat} {a : Int} (h1 : a = ((b : Nat) : Int)) : (0 : Int) ≤ a := by (subst_vars; simp; done)
theorem r15 {a b c : Nat} (h1 : (c + a) = b) (h2 : ¬ (a < b)) : a = b := Nat.le_antisymm (Nat.le_of_not_lt fun q1 => cert [c, a, b] [(1, (.a (.v 0) (.v 1)), (.v 2)), (1, (.a (.v 2) (.n 1)), (.v 1))] rfl (Nat.le_of_eq h1) q1) (Nat.le_of_not_lt fun q2 => cert [b, a] [(1, (.v 0), (.v 1)), (1, (.a (.v 1) (.n 1)), (.v 0))] rfl (Nat.le_of_not_lt h2) q2)
theorem r16 {a b c d : Nat} (h1 : b < ((min d c) - a)) : (a + b) < c := Nat.lt_of_not_le fun q1 => le_e (min d c) a (fun q3 => cert [b, ((min d c) - a)] [(1, (.a (.v 0) (.n 1)), (.v 1)), (1, (.v 1), (.n 0))] rfl h1 (@sub_d (min d c) a q3)) (fun q3 => cert [b, ((min d c) - a), c, a, (min d c)] [(1, (.a (.v 0) (.n 1)), (.v 1)), (1, (.v 2), (.a (.v 3) (.v 0))), (1, (.a (.v 1) (.v 3)), (.v 4)), (1, (.v 4), (.v 2))] rfl h1 q1 (@sub_c (min d c) a q3) (Nat.min_le_right d c))
theorem r17 {a b c : Nat} (h1 : b < c) (h2 : (a + b) = c) : (a - (1 : Nat)) < a := Nat.lt_of_not_le fun q1 => le_e a 1 (fun q2 => cert [b, c, a, (a - 1)] [(1, (.a (.v 0) (.n 1)), (.v 1)), (1, (.v 1), (.a (.v 2) (.v 0))), (1, (.v 2), (.v 3)), (1, (.v 3), (.n 0))] rfl h1 (eq_b h2) q1 (@sub_d a 1 q2)) (fun q2 => cert [a, (a - 1)] [(1, (.v 0), (.v 1)), (1, (.a (.v 1) (.n 1)), (.v 0))] rfl q1 (@sub_c a 1 q2))
theorem r18 {a b c : Nat} (h1 : a < (b + (c + (1 : Nat)))) (h2 : ¬ (a < (b + c))) : a = (b + c) := Nat.le_antisymm (Nat.le_of_not_lt fun q1 => cert [a, b, c] [(1, (.a (.v 0) (.n 1)), (.a (.v 1) (.a (.v 2) (.n 1)))), (1, (.a (.a (.v 1) (.v 2)) (.n 1)), (.v 0))] rfl h1 q1) (Nat.le_of_not_lt fun q2 => cert [b, c, a] [(1, (.a (.v 0) (.v 1)), (.v 2)), (1, (.a (.v 2) (.n 1)), (.a (.v 0) (.v 1)))] rfl (Nat.le_of_not_lt h2) q2)
theorem r19 {a b c : Nat} (h1 : b < c) (h2 : (a + b) = c) : ((a - (1 : Nat)) + (b + (1 : Nat))) = c := Nat.le_antisymm (Nat.le_of_not_lt fun q1 => le_e a 1 (fun q2 => cert [b, c, (a - 1)] [(1, (.a (.v 0) (.n 1)), (.v 1)), (1, (.a (.v 1) (.n 1)), (.a (.v 2) (.a (.v 0) (.n 1)))), (1, (.v 2), (.n 0))] rfl h1 q1 (@sub_d a 1 q2)) (fun q2 => cert [a, b, c, (a - 1)] [(1, (.a (.v 0) (.v 1)), (.v 2)), (1, (.a (.v 2) (.n 1)), (.a (.v 3) (.a (.v 1) (.n 1)))), (1, (.a (.v 3) (.n 1)), (.v 0))] rfl (Nat.le_of_eq h2) q1 (@sub_c a 1 q2))) (Nat.le_of_not_lt fun q3 => cert [c, a, b, (a - 1)] [(1, (.v 0), (.a (.v 1) (.v 2))), (1, (.a (.a (.v 3) (.a (.v 2) (.n 1))) (.n 1)), (.v 0)), (1, (.v 1), (.a (.v 3) (.n 1)))] rfl (eq_b h2) q3 (@sub_a a 1))
theorem r20 {a : Nat} : (0 : Nat) ≤ a := by (simp at *; done)
theorem r21 : (1 : Nat) ≤ (200 : Nat) := by (simp [*] at *; done)
theorem r22 {a b : Nat} (h1 : ¬ (b ≤ a)) : a ≤ b := Nat.le_of_not_lt fun q1 => cert [a, b] [(1, (.a (.v 0) (.n 1)), (.v 1)), (1, (.a (.v 1) (.n 1)), (.v 0))] rfl (Nat.lt_of_not_le h1) q1
theorem r23 {a b : Nat} (h1 : a < b) (h2 : b = a) : False := Nat.ne_of_lt h1 (id (Eq.symm h2))
theorem r24 {a b : Nat} (h1 : a < b) (h2 : a = b) : False := Nat.ne_of_lt h1 h2
theorem r25 {a : Nat} (h1 : a ≤ (4 : Nat)) : a ≤ (200 : Nat) := Nat.le_trans h1 (Nat.le_of_lt (Nat.le_add_left (Nat.succ 4) 195))
theorem r26 {a b : Nat} (h1 : (b + (0 : Nat)) = a) : a ≤ b := by (subst_vars; simp; done)
theorem r27 {a b : Nat} (h1 : a < b) : a ≤ (b - (1 : Nat)) := Nat.le_of_not_lt fun q1 => cert [a, b, (b - 1)] [(1, (.a (.v 0) (.n 1)), (.v 1)), (1, (.a (.v 2) (.n 1)), (.v 0)), (1, (.v 1), (.a (.v 2) (.n 1)))] rfl h1 q1 (@sub_a b 1)
theorem r28 {a b c : Nat} (h1 : a ≤ c) (h2 : c ≤ b) : a ≤ b := Nat.le_trans h1 h2
theorem r29 {a b : Nat} (h1 : ¬ (b ≤ a)) : (a + (b - a)) = b := Nat.le_antisymm (Nat.le_of_not_lt fun q1 => cert [b, a, (b - a)] [(1, (.a (.v 0) (.n 1)), (.a (.v 1) (.v 2))), (1, (.a (.v 2) (.v 1)), (.v 0))] rfl q1 (@sub_c b a (Nat.le_of_lt (Nat.lt_of_not_le h1)))) (Nat.le_of_not_lt fun q2 => cert [a, (b - a), b] [(1, (.a (.a (.v 0) (.v 1)) (.n 1)), (.v 2)), (1, (.v 2), (.a (.v 1) (.v 0)))] rfl q2 (@sub_a b a))
theorem r30 {a : Nat} (h1 : a < (128 : Nat)) : a ≤ (16777216 : Nat) := Nat.le_trans (Nat.le_of_lt h1) (Nat.le_add_left 128 16777088)
theorem r31 {a b c : Nat} (h1 : (a + (c + (1 : Nat))) = b) : a < b := by (subst_vars; simp; done)
theorem r32 {a : Nat} : ¬ (((a + (1 : Nat)) + (1 : Nat)) < (2 : Nat)) := Nat.not_lt_of_le (Nat.le_trans (Nat.le_refl 2) (Nat.le_add_left 2 a))
theorem r33 {a b c : Nat} (h1 : a < c) (h2 : c ≤ (b + (1 : Nat))) : a ≤ b := Nat.le_of_not_lt fun q1 => cert [a, c, b] [(1, (.a (.v 0) (.n 1)), (.v 1)), (1, (.v 1), (.a (.v 2) (.n 1))), (1, (.a (.v 2) (.n 1)), (.v 0))] rfl h1 h2 q1
theorem r34 {a b c : Nat} (h1 : a < (b + c)) (h2 : b ≤ a) : (a - b) < c := Nat.lt_of_not_le fun q1 => cert [a, b, c, (a - b)] [(1, (.a (.v 0) (.n 1)), (.a (.v 1) (.v 2))), (1, (.v 2), (.v 3)), (1, (.a (.v 3) (.v 1)), (.v 0))] rfl h1 q1 (@sub_c a b h2)
theorem r35 {a b c d : Nat} (h1 : b ≤ d) (h2 : (a + d) ≤ c) : (a + b) ≤ c := Nat.le_of_not_lt fun q1 => cert [b, d, a, c] [(1, (.v 0), (.v 1)), (1, (.a (.v 2) (.v 1)), (.v 3)), (1, (.a (.v 3) (.n 1)), (.a (.v 2) (.v 0)))] rfl h1 h2 q1
theorem r36 {a b : Nat} (h1 : a ≤ b) (h2 : (0 : Nat) < a) : (a - (1 : Nat)) < b := Nat.lt_of_not_le fun q1 => cert [a, b, (a - 1)] [(1, (.v 0), (.v 1)), (1, (.v 1), (.v 2)), (1, (.a (.v 2) (.n 1)), (.v 0))] rfl h1 q1 (@sub_c a 1 h2)
theorem r37 {a b : Nat} (h1 : a ≤ b) (h2 : (1 : Nat) < a) : (a - (1 : Nat)) < b := Nat.lt_of_not_le fun q1 => cert [a, b, (a - 1)] [(1, (.v 0), (.v 1)), (1, (.v 1), (.v 2)), (1, (.a (.v 2) (.n 1)), (.v 0))] rfl h1 q1 (@sub_c a 1 (Nat.le_of_lt h2))
theorem r38 {a : Nat} (h1 : a < (2 : Nat)) : ((a = (0 : Nat)) ∨ (a = (1 : Nat))) := by lia
theorem r39 {a b c d : Nat} (h1 : b < d) (h2 : (a + d) ≤ c) : ((a + b) - (1 : Nat)) < c := Nat.lt_of_not_le fun q1 => cert [b, d, a, c, ((a + b) - 1)] [(1, (.a (.v 0) (.n 1)), (.v 1)), (1, (.a (.v 2) (.v 1)), (.v 3)), (1, (.v 3), (.v 4)), (1, (.v 4), (.a (.v 2) (.v 0)))] rfl h1 h2 q1 (Nat.sub_le (a + b) 1)
theorem r40 {a b : Nat} (h1 : a < b) (h2 : ¬ ((a + (1 : Nat)) = b)) : (a + (1 : Nat)) < b := Nat.lt_of_not_le fun q1 => ne_e h2 (fun q2 => cert [b, a] [(1, (.v 0), (.a (.v 1) (.n 1))), (1, (.a (.a (.v 1) (.n 1)) (.n 1)), (.v 0))] rfl q1 q2) (fun q2 => cert [a, b] [(1, (.a (.v 0) (.n 1)), (.v 1)), (1, (.a (.v 1) (.n 1)), (.a (.v 0) (.n 1)))] rfl h1 q2)
theorem r41 {a b c : Nat} (h1 : c = b) (h2 : (a - c) = (0 : Nat)) (h3 : ¬ (a < c)) : a = b := Nat.le_antisymm (Nat.le_of_not_lt fun q1 => cert [c, b, (a - c), a] [(1, (.v 0), (.v 1)), (1, (.v 2), (.n 0)), (1, (.a (.v 1) (.n 1)), (.v 3)), (1, (.v 3), (.a (.v 2) (.v 0)))] rfl (Nat.le_of_eq h1) (Nat.le_of_eq h2) q1 (@sub_a a c)) (Nat.le_of_not_lt fun q2 => cert [b, c, a] [(1, (.v 0), (.v 1)), (1, (.v 1), (.v 2)), (1, (.a (.v 2) (.n 1)), (.v 0))] rfl (eq_b h1) (Nat.le_of_not_lt h3) q2)
theorem r42 {a b c : Nat} (h1 : a ≤ (b + c)) (h2 : ¬ (a = (b + c))) : a ≤ ((b + c) - (1 : Nat)) := Nat.le_of_not_lt fun q1 => ne_e h2 (fun q2 => cert [((b + c) - 1), a, b, c] [(1, (.a (.v 0) (.n 1)), (.v 1)), (1, (.a (.v 1) (.n 1)), (.a (.v 2) (.v 3))), (1, (.a (.v 2) (.v 3)), (.a (.v 0) (.n 1)))] rfl q1 q2 (@sub_a (b + c) 1)) (fun q2 => cert [a, b, c] [(1, (.v 0), (.a (.v 1) (.v 2))), (1, (.a (.a (.v 1) (.v 2)) (.n 1)), (.v 0))] rfl h1 q2)
theorem r43 {a b : Nat} (h1 : b < a) : ((a + (1 : Nat)) - (b + (1 : Nat))) < ((a + (1 : Nat)) - b) := Nat.lt_of_not_le fun q1 => le_e (a + 1) (b + 1) (fun q3 => cert [b, a] [(1, (.a (.v 0) (.n 1)), (.v 1)), (1, (.a (.v 1) (.n 1)), (.a (.v 0) (.n 1)))] rfl h1 q3) (fun q3 => cert [((a + 1) - b), ((a + 1) - (b + 1)), b, a] [(1, (.v 0), (.v 1)), (1, (.a (.v 1) (.a (.v 2) (.n 1))), (.a (.v 3) (.n 1))), (1, (.a (.v 3) (.n 1)), (.a (.v 0) (.v 2)))] rfl q1 (@sub_c (a + 1) (b + 1) q3) (@sub_a (a + 1) b))
theorem r44 {a : Nat} (h1 : (1 : Nat) < a) (h2 : ¬ ((a - (1 : Nat)) = (1 : Nat))) : (1 : Nat) < (a - (1 : Nat)) := Nat.lt_of_not_le fun q1 => ne_e h2 (fun q2 => cert [a, (a - 1)] [(1, (.a (.n 1) (.n 1)), (.v 0)), (1, (.a (.v 1) (.n 1)), (.n 1)), (1, (.v 0), (.a (.v 1) (.n 1)))] rfl h1 q2 (@sub_a a 1)) (fun q2 => cert [(a - 1)] [(1, (.v 0), (.n 1)), (1, (.a (.n 1) (.n 1)), (.v 0))] rfl q1 q2)
theorem r45 {a b c : Nat} (h1 : c ≤ (a + b)) (h2 : ¬ (c = (a + b))) : ((a + b) - (1 : Nat)) < (a + b) := Nat.lt_of_not_le fun q1 => ne_e h2 (fun q4 => le_e (a + b) 1 (fun q5 => cert [a, b, ((a + b) - 1), c] [(1, (.a (.v 0) (.v 1)), (.v 2)), (1, (.a (.v 3) (.n 1)), (.a (.v 0) (.v 1))), (1, (.v 2), (.n 0))] rfl q1 q4 (@sub_d (a + b) 1 q5)) (fun q5 => cert [a, b, ((a + b) - 1)] [(1, (.a (.v 0) (.v 1)), (.v 2)), (1, (.a (.v 2) (.n 1)), (.a (.v 0) (.v 1)))] rfl q1 (@sub_c (a + b) 1 q5))) (fun q4 => cert [c, a, b] [(1, (.v 0), (.a (.v 1) (.v 2))), (1, (.a (.a (.v 1) (.v 2)) (.n 1)), (.v 0))] rfl h1 q4)
theorem r46 {a : Nat} : (a - (1 : Nat)) ≤ a := by (subst_vars; simp; done)
theorem r47 {a b : Nat} (h1 : a < b) : a < b := by omega
theorem r48 {a : Nat} : (0 : Int) ≤ ((a : Nat) : Int) := by (simp at *; done)
theorem r50 {a : Nat} (h1 : (a + (1 : Nat)) ≤ a) : False := Nat.ne_of_lt h1 (Nat.add_zero a)
theorem r51 {a b : Nat} (h1 : a ≤ b) : (max a b) = b := by (simp [*] at *; done)
theorem r52 {a : Nat} (h1 : (1 : Nat) < a) : (0 : Nat) < a := Nat.lt_of_not_le fun q1 => cert [a] [(1, (.a (.n 1) (.n 1)), (.v 0)), (1, (.v 0), (.n 0))] rfl h1 q1
theorem r53 {a b c : Nat} (h1 : a < (min c b)) : a < b := Nat.le_trans h1 (Nat.min_le_right c b)
theorem r56 {a : Nat} : a < (((2 : Nat) * a) + (1 : Nat)) := Nat.lt_of_not_le fun q1 => cert [a] [(1, (.a (.m 2 (.v 0)) (.n 1)), (.v 0))] rfl q1
theorem r57 {a : Nat} : ((a + (1 : Nat)) - a) = (1 : Nat) := by (simp at *; done)
theorem r58 {a : Nat} (h1 : a ≤ (12 : Nat)) : a ≤ (200 : Nat) := Nat.le_trans h1 (Nat.le_of_lt (Nat.le_add_left (Nat.succ 12) 187))
theorem r59 {a : Nat} (h1 : a ≤ (12 : Nat)) : a ≤ (100 : Nat) := Nat.le_trans h1 (Nat.le_of_lt (Nat.le_add_left (Nat.succ 12) 87))
theorem r60 {a b : Nat} (h1 : (a + (1 : Nat)) ≤ b) : a ≤ b := Nat.le_trans (Nat.le_of_lt h1) (Nat.le_refl b)
theorem r61 {a b : Nat} (h1 : (a + (1 : Nat)) ≤ b) : a < b := h1
theorem r62 {a b : Nat} (h1 : a ≤ b) (h2 : b ≤ a) : a = b := Nat.le_antisymm h1 h2
theorem r63 {a b : Nat} (h1 : a < b) : (a + (1 : Nat)) ≤ b := h1
theorem r64 {a b : Nat} (h1 : a ≤ b) : ((0 : Nat) + a) ≤ b := by (simp [*] at *; done)
theorem r65 {a : Nat} (h1 : ¬ ((0 : Nat) < a)) : a = (0 : Nat) := Nat.le_antisymm (Nat.le_of_not_lt fun q1 => cert [a] [(1, (.v 0), (.n 0)), (1, (.a (.n 0) (.n 1)), (.v 0))] rfl (Nat.le_of_not_lt h1) q1) (Nat.le_of_not_lt fun q2 => cert [a] [(1, (.a (.v 0) (.n 1)), (.n 0))] rfl q2)
theorem r66 {a b : Nat} (h1 : a ≤ b) : (a + (b - a)) = b := by (simp [*] at *; done)
theorem r67 {a b c : Nat} (h1 : b < (c - a)) : (a + b) < c := Nat.lt_of_not_le fun q1 => le_e c a (fun q2 => cert [b, (c - a)] [(1, (.a (.v 0) (.n 1)), (.v 1)), (1, (.v 1), (.n 0))] rfl h1 (@sub_d c a q2)) (fun q2 => cert [b, (c - a), c, a] [(1, (.a (.v 0) (.n 1)), (.v 1)), (1, (.v 2), (.a (.v 3) (.v 0))), (1, (.a (.v 1) (.v 3)), (.v 2))] rfl h1 q1 (@sub_c c a q2))
theorem r68 {a b c : Nat} (h1 : b ≤ c) : (a + b) ≤ (a + c) := by (simp [*] at *; done)
theorem r69 {a b c : Nat} (h1 : (c + a) < b) : a < (b - c) := Nat.lt_of_not_le fun q1 => cert [c, a, b, (b - c)] [(1, (.a (.a (.v 0) (.v 1)) (.n 1)), (.v 2)), (1, (.v 3), (.v 1)), (1, (.v 2), (.a (.v 3) (.v 0)))] rfl h1 q1 (@sub_a b c)
theorem r70 {a b : Nat} (h1 : a ≤ b) (h2 : ¬ (a < b)) : a = b := Nat.le_antisymm h1 (Nat.le_of_not_lt h2)
theorem r71 {a b : Nat} (h1 : ¬ (a ≤ b)) : (1 : Nat) ≤ (a - b) := Nat.le_of_not_lt fun q1 => cert [b, a, (a - b)] [(1, (.a (.v 0) (.n 1)), (.v 1)), (1, (.a (.v 2) (.n 1)), (.n 1)), (1, (.v 1), (.a (.v 2) (.v 0)))] rfl (Nat.lt_of_not_le h1) q1 (@sub_a a b)
theorem r72 {a : Nat} : ((0 : Nat) + (1 : Nat)) ≤ (a + (1 : Nat)) := by (simp at *; done)
theorem r73 {a : Nat} (h1 : a ≤ (43 : Nat)) : a ≤ (16777216 : Nat) := Nat.le_trans h1 (Nat.le_of_lt (Nat.le_add_left (Nat.succ 43) 16777172))
theorem r74 {a : Nat} (h1 : a ≤ (15 : Nat)) : a ≤ (16777216 : Nat) := Nat.le_trans h1 (Nat.le_of_lt (Nat.le_add_left (Nat.succ 15) 16777200))
theorem r75 {a : Nat} : (((3 : Nat) - a) + (1 : Nat)) ≤ (4 : Nat) := by (subst_vars; simp; done)
theorem r76 {a b : Nat} (h1 : (b + (1 : Nat)) ≤ a) : (1 : Nat) ≤ a := Nat.le_of_not_lt fun q1 => cert [b, a] [(1, (.a (.v 0) (.n 1)), (.v 1)), (1, (.a (.v 1) (.n 1)), (.n 1))] rfl h1 q1
theorem r77 {a b c : Nat} (h1 : b ≤ c) (h2 : ¬ (a < c)) : ¬ (a < b) := fun q1 => cert [b, c, a] [(1, (.v 0), (.v 1)), (1, (.v 1), (.v 2)), (1, (.a (.v 2) (.n 1)), (.v 0))] rfl h1 (Nat.le_of_not_lt h2) q1
theorem r81 {a b : Nat} (h1 : a ≤ b) : (a + (1 : Nat)) ≤ (b + (1 : Nat)) := by (simp [*] at *; done)
theorem r82 {a b : Nat} (h1 : a < b) : a < ((b + (1 : Nat)) + (1 : Nat)) := Nat.le_trans h1 (Nat.le_of_lt (Nat.le_add_right b.succ 1))
theorem r83 {a b : Nat} (h1 : a = (b + (1 : Nat))) : (a - (1 : Nat)) = b := by (subst_vars; simp; done)
theorem r84 {a b c d : Nat} (h1 : b < (min d (c - a))) : (a + b) < c := Nat.lt_of_not_le fun q1 => le_e c a (fun q2 => cert [b, (min d (c - a)), (c - a)] [(1, (.a (.v 0) (.n 1)), (.v 1)), (1, (.v 2), (.n 0)), (1, (.v 1), (.v 2))] rfl h1 (@sub_d c a q2) (Nat.min_le_right d (c - a))) (fun q2 => cert [b, (min d (c - a)), c, a, (c - a)] [(1, (.a (.v 0) (.n 1)), (.v 1)), (1, (.v 2), (.a (.v 3) (.v 0))), (1, (.a (.v 4) (.v 3)), (.v 2)), (1, (.v 1), (.v 4))] rfl h1 q1 (@sub_c c a q2) (Nat.min_le_right d (c - a)))
theorem r85 {a b c d : Nat} (h1 : b < ((min c d) - a)) : (a + b) < c := Nat.lt_of_not_le fun q1 => le_e (min c d) a (fun q3 => cert [b, ((min c d) - a)] [(1, (.a (.v 0) (.n 1)), (.v 1)), (1, (.v 1), (.n 0))] rfl h1 (@sub_d (min c d) a q3)) (fun q3 => cert [b, ((min c d) - a), c, a, (min c d)] [(1, (.a (.v 0) (.n 1)), (.v 1)), (1, (.v 2), (.a (.v 3) (.v 0))), (1, (.a (.v 1) (.v 3)), (.v 4)), (1, (.v 4), (.v 2))] rfl h1 q1 (@sub_c (min c d) a q3) (Nat.min_le_left c d))
theorem r86 {a b c : Nat} (h1 : a = c) (h2 : (c + (0 : Nat)) = b) : a = b := by (subst_vars; simp; done)
theorem r88 {a b : Nat} (h1 : (a + b) ≤ (1000 : Nat)) : a ≤ (16777216 : Nat) := Nat.le_of_not_lt fun q1 => cert [a, b] [(1, (.a (.v 0) (.v 1)), (.n 1000)), (1, (.a (.n 16777216) (.n 1)), (.v 0))] rfl h1 q1
theorem r89 {a b : Nat} (h1 : (a + (1 : Nat)) < b) : (a + (b - a)) ≤ b := Nat.le_of_not_lt fun q1 => le_e b a (fun q2 => cert [a, b] [(1, (.a (.a (.v 0) (.n 1)) (.n 1)), (.v 1)), (1, (.v 1), (.v 0))] rfl h1 q2) (fun q2 => cert [b, a, (b - a)] [(1, (.a (.v 0) (.n 1)), (.a (.v 1) (.v 2))), (1, (.a (.v 2) (.v 1)), (.v 0))] rfl q1 (@sub_c b a q2))
theorem r90 {a b : Nat} (h1 : a = b) (h2 : ¬ (b = (0 : Nat))) : (0 : Nat) < a := Nat.lt_of_not_le fun q1 => ne_e h2 (fun q2 => cert [b] [(1, (.a (.v 0) (.n 1)), (.n 0))] rfl q2) (fun q2 => cert [b, a] [(1, (.v 0), (.v 1)), (1, (.v 1), (.n 0)), (1, (.a (.n 0) (.n 1)), (.v 0))] rfl (eq_b h1) q1 q2)
theorem r91 {a : Nat} : (((a : Nat) : Int) - ((a : Nat) : Int)) ≤ (0 : Int) := by (subst_vars; simp; done)
theorem r92 {a : Nat} (h1 : (0 : Nat) < a) : ((a - (1 : Nat)) + (1 : Nat)) = a := Nat.le_antisymm (Nat.le_of_not_lt fun q1 => cert [a, (a - 1)] [(1, (.a (.v 0) (.n 1)), (.a (.v 1) (.n 1))), (1, (.a (.v 1) (.n 1)), (.v 0))] rfl q1 (@sub_c a 1 h1)) (Nat.le_of_not_lt fun q2 => cert [(a - 1), a] [(1, (.a (.a (.v 0) (.n 1)) (.n 1)), (.v 1)), (1, (.v 1), (.a (.v 0) (.n 1)))] rfl q2 (@sub_a a 1))
theorem r93 {a b : Nat} (h1 : a < b) : a < (((b + (1 : Nat)) + (1 : Nat)) + (1 : Nat)) := Nat.le_trans h1 (Nat.le_succ_of_le (Nat.le_add_right b 2))
theorem r94 {a b : Nat} (h1 : (a - (1 : Nat)) ≤ b) : ((0 : Nat) + (a - (1 : Nat))) ≤ b := by (simp [*] at *; done)
theorem r95 {a b : Nat} (h1 : a < b) : ((a + (1 : Nat)) + (b - (a + (1 : Nat)))) ≤ b := Nat.le_of_not_lt fun q1 => cert [b, a, (b - (a + 1))] [(1, (.a (.v 0) (.n 1)), (.a (.a (.v 1) (.n 1)) (.v 2))), (1, (.a (.v 2) (.a (.v 1) (.n 1))), (.v 0))] rfl q1 (@sub_c b (a + 1) h1)
theorem r96 {a b c : Nat} (h1 : a = b) (h2 : b ≤ c) (h3 : c ≤ (43 : Nat)) : a ≤ (43 : Nat) := Nat.le_of_not_lt fun q1 => cert [a, b, c] [(1, (.v 0), (.v 1)), (1, (.v 1), (.v 2)), (1, (.v 2), (.n 43)), (1, (.a (.n 43) (.n 1)), (.v 0))] rfl (Nat.le_of_eq h1) h2 h3 q1
theorem r97 {a b : Nat} (h1 : b < a) : (0 : Int) < (((a : Nat) : Int) - ((b : Nat) : Int)) := by (simp [*] at *; done)
theorem r98 {b : Nat} {a : Int} (h1 : a = ((b : Nat) : Int)) (h2 : b ≤ (12 : Nat)) : a < (16384 : Int) := by lia
theorem r99 {a b c : Nat} (h1 : a ≤ b) (h2 : (b + (max (0 : Nat) c)) ≤ (c + a)) : a = b := Nat.le_antisymm (Nat.le_of_not_lt fun q1 => cert [a, b] [(1, (.v 0), (.v 1)), (1, (.a (.v 1) (.n 1)), (.v 0))] rfl h1 q1) (Nat.le_of_not_lt fun q2 => cert [b, (max 0 c), c, a] [(1, (.a (.v 0) (.v 1)), (.a (.v 2) (.v 3))), (1, (.a (.v 3) (.n 1)), (.v 0)), (1, (.v 2), (.v 1))] rfl h2 q2 (Nat.le_max_right 0 c))
theorem r100 {a b c : Nat} (h1 : ((((2 : Nat) * b) + a) + c) ≤ (900 : Nat)) : a ≤ (1000 : Nat) := Nat.le_of_not_lt fun q1 => cert [b, a, c] [(1, (.a (.a (.m 2 (.v 0)) (.v 1)) (.v 2)), (.n 900)), (1, (.a (.n 1000) (.n 1)), (.v 1))] rfl h1 q1
theorem r101 {b : Nat} {a : Int} (h1 : b < (8192 : Nat)) (h2 : a = ((b : Nat) : Int)) : a < (16384 : Int) := by lia
theorem r102 {a b : Nat} (h1 : (a + b) ≤ (1000 : Nat)) : (a + b) ≤ ((16777216 : Nat) + (1 : Nat)) := Nat.le_trans h1 (Nat.le_of_lt (Nat.le_add_left (Nat.succ 1000) 16776216))
theorem r103 {a b c : Nat} (h1 : c = (16777216 : Nat)) (h2 : (a + b) ≤ (1000 : Nat)) : (a + b) ≤ c := Nat.le_of_not_lt fun q1 => cert [c, a, b] [(1, (.n 16777216), (.v 0)), (1, (.a (.v 1) (.v 2)), (.n 1000)), (1, (.a (.v 0) (.n 1)), (.a (.v 1) (.v 2)))] rfl (eq_b h1) h2 q1
theorem r104 {a b : Nat} (h1 : a ≤ b) (h2 : (1 : Nat) ≤ a) (h3 : (max (0 : Nat) b) = (0 : Nat)) : False := cert [a, b, (max 0 b)] [(1, (.v 0), (.v 1)), (1, (.n 1), (.v 0)), (1, (.v 2), (.n 0)), (1, (.v 1), (.v 2))] rfl h1 h2 (Nat.le_of_eq h3) (Nat.le_max_right 0 b)
theorem r106 {a b c d : Nat} (h1 : ((((b + c) - (d + (1 : Nat))) ≤ a) ∧ (a < (b + c)))) : a < (b + c) := by (simp [*] at *; done)
theorem r107 {a b : Nat} (h1 : (a + (1 : Nat)) ≤ b) : ((a + (1 : Nat)) + (1 : Nat)) ≤ (((2 : Nat) * b) + (1 : Nat)) := Nat.le_of_not_lt fun q1 => cert [a, b] [(2, (.a (.v 0) (.n 1)), (.v 1)), (1, (.a (.a (.m 2 (.v 1)) (.n 1)) (.n 1)), (.a (.a (.v 0) (.n 1)) (.n 1)))] rfl h1 q1
theorem r108 {a b : Nat} (h1 : a < b) (h2 : b < (4 : Nat)) : ((a = (0 : Nat)) ∨ (((a = (1 : Nat)) ∨ (a = (2 : Nat))))) := by lia
theorem r109 {a b c : Nat} (h1 : b < c) (h2 : c < (4 : Nat)) (h3 : a = b) : ((a + (1 : Nat)) + (1 : Nat)) ≤ (16777216 : Nat) := by lia
theorem r110 {a b c d : Nat} (h1 : ((((a + b) - (c + (1 : Nat))) ≤ d) ∧ (d < (a + b)))) : ((a + b) - (c + (1 : Nat))) ≤ d := by (simp [*] at *; done)
theorem r111 {a b : Nat} (h1 : (a + (1 : Nat)) < b) (h2 : ¬ (((a + (1 : Nat)) + (1 : Nat)) = b)) : ((a + (1 : Nat)) + (1 : Nat)) < b := Nat.lt_of_not_le fun q1 => ne_e h2 (fun q2 => cert [b, a] [(1, (.v 0), (.a (.a (.v 1) (.n 1)) (.n 1))), (1, (.a (.a (.a (.v 1) (.n 1)) (.n 1)) (.n 1)), (.v 0))] rfl q1 q2) (fun q2 => cert [a, b] [(1, (.a (.a (.v 0) (.n 1)) (.n 1)), (.v 1)), (1, (.a (.v 1) (.n 1)), (.a (.a (.v 0) (.n 1)) (.n 1)))] rfl h1 q2)
theorem r112 {a b : Nat} : ((((a : Nat) : Int) - ((b : Nat) : Int)) - (1 : Int)) = (((a : Nat) : Int) - (((b + (1 : Nat)) : Nat) : Int)) := by lia
theorem r113 {a b c : Nat} (h1 : a < (b + (c + (1 : Nat)))) (h2 : ((b + (c + (1 : Nat))) - ((0 : Nat) + (1 : Nat))) ≤ a) : a = ((b + (c + (1 : Nat))) - (1 : Nat)) := Nat.le_antisymm (Nat.le_of_not_lt fun q1 => cert [a, b, c, ((b + (c + 1)) - 1)] [(1, (.a (.v 0) (.n 1)), (.a (.v 1) (.a (.v 2) (.n 1)))), (1, (.a (.v 3) (.n 1)), (.v 0)), (1, (.a (.v 1) (.a (.v 2) (.n 1))), (.a (.v 3) (.n 1)))] rfl h1 q1 (@sub_a (b + (c + 1)) 1)) (Nat.le_of_not_lt fun q2 => le_e (b + (c + 1)) 1 (fun q4 => cert [a, ((b + (c + 1)) - 1)] [(1, (.a (.v 0) (.n 1)), (.v 1)), (1, (.v 1), (.n 0))] rfl q2 (@sub_d (b + (c + 1)) 1 q4)) (fun q4 => cert [((b + (c + 1)) - (0 + 1)), a, ((b + (c + 1)) - 1), b, c] [(1, (.v 0), (.v 1)), (1, (.a (.v 1) (.n 1)), (.v 2)), (1, (.a (.v 2) (.n 1)), (.a (.v 3) (.a (.v 4) (.n 1)))), (1, (.a (.v 3) (.a (.v 4) (.n 1))), (.a (.v 0) (.a (.n 0) (.n 1))))] rfl h2 q2 (@sub_c (b + (c + 1)) 1 q4) (@sub_a (b + (c + 1)) (0 + 1))))
theorem r114 {a b c d : Nat} (h1 : ((((a + b) - (c + (1 : Nat))) ≤ d) ∧ (d < (a + b)))) : (((((a + b) - (c + (1 : Nat))) + (a + b)) - (1 : Nat)) - d) < (a + b) := Nat.lt_of_not_le fun q1 => le_e (((a + b) - (c + 1)) + (a + b)) 1 (fun q9 => cert [d, a, b, (((((a + b) - (c + 1)) + (a + b)) - 1) - d), ((((a + b) - (c + 1)) + (a + b)) - 1)] [(1, (.a (.v 0) (.n 1)), (.a (.v 1) (.v 2))), (1, (.a (.v 1) (.v 2)), (.v 3)), (1, (.v 4), (.n 0)), (1, (.v 3), (.v 4))] rfl h1.2 q1 (@sub_d (((a + b) - (c + 1)) + (a + b)) 1 q9) (Nat.sub_le ((((a + b) - (c + 1)) + (a + b)) - 1) d)) (fun q9 => le_e ((((a + b) - (c + 1)) + (a + b)) - 1) d (fun q11 => cert [d, a, b, (((((a + b) - (c + 1)) + (a + b)) - 1) - d)] [(1, (.a (.v 0) (.n 1)), (.a (.v 1) (.v 2))), (1, (.a (.v 1) (.v 2)), (.v 3)), (1, (.v 3), (.n 0))] rfl h1.2 q1 (@sub_d ((((a + b) - (c + 1)) + (a + b)) - 1) d q11)) (fun q11 => cert [((a + b) - (c + 1)), d, a, b, (((((a + b) - (c + 1)) + (a + b)) - 1) - d), ((((a + b) - (c + 1)) + (a + b)) - 1)] [(1, (.v 0), (.v 1)), (1, (.a (.v 2) (.v 3)), (.v 4)), (1, (.a (.v 5) (.n 1)), (.a (.v 0) (.a (.v 2) (.v 3)))), (1, (.a (.v 4) (.v 1)), (.v 5))] rfl h1.1 q1 (@sub_c (((a + b) - (c + 1)) + (a + b)) 1 q9) (@sub_c ((((a + b) - (c + 1)) + (a + b)) - 1) d q11)))
theorem r115 {a b c d : Nat} (h1 : ((((a + b) - (c + (1 : Nat))) ≤ d) ∧ (d < (a + b)))) : ((a + b) - (c + (1 : Nat))) ≤ (((((a + b) - (c + (1 : Nat))) + (a + b)) - (1 : Nat)) - d) := Nat.le_of_not_lt fun q1 => cert [d, a, b, (((((a + b) - (c + 1)) + (a + b)) - 1) - d), ((a + b) - (c + 1)), ((((a + b) - (c + 1)) + (a + b)) - 1)] [(1, (.a (.v 0) (.n 1)), (.a (.v 1) (.v 2))), (1, (.a (.v 3) (.n 1)), (.v 4)), (1, (.a (.v 4) (.a (.v 1) (.v 2))), (.a (.v 5) (.n 1))), (1, (.v 5), (.a (.v 3) (.v 0)))] rfl h1.2 q1 (@sub_a (((a + b) - (c + 1)) + (a + b)) 1) (@sub_a ((((a + b) - (c + 1)) + (a + b)) - 1) d)
theorem r116 {a b c d e : Nat} (h1 : c = d) (h2 : (b + e) = d) (h3 : ((((0 : Nat) + a) + (b - a)) - (1 : Nat)) = (b - (1 : Nat))) (h4 : (0 : Nat) < e) : ((((0 : Nat) + a) + (b - a)) - (1 : Nat)) < c := Nat.lt_of_not_le fun q1 => cert [d, c, b, e, (((0 + a) + (b - a)) - 1), (b - 1)] [(1, (.v 0), (.v 1)), (1, (.a (.v 2) (.v 3)), (.v 0)), (1, (.v 4), (.v 5)), (1, (.a (.n 0) (.n 1)), (.v 3)), (1, (.v 1), (.v 4)), (1, (.v 5), (.v 2))] rfl (eq_b h1) (Nat.le_of_eq h2) (Nat.le_of_eq h3) h4 q1 (Nat.sub_le b 1)
theorem r117 {a : Nat} : a ≤ a := by (simp [*] at *; done)
theorem r118 {a : Int} : ¬ (a < a) := by (simp at *; done)
theorem r120 : (0 : Nat) < (4 : Nat) := by (subst_vars; simp; done)
theorem r121 : (1 : Nat) < (4 : Nat) := by (simp [*] at *; done)
theorem r122 : (2 : Nat) < (4 : Nat) := by (simp at *; done)
theorem r123 : (3 : Nat) < (4 : Nat) := by (simp [*] at *; done)
theorem r126 {a b : Nat} (h1 : b ≤ a) : ¬ (a < b) := Nat.not_lt_of_le h1
theorem r127 {a : Nat} : (1 : Nat) ≤ (a + (1 : Nat)) := by (simp [*] at *; done)
theorem r128 {a : Nat} : ((3 : Nat) - a) < (4 : Nat) := Nat.lt_of_not_le fun q1 => cert [(3 - a)] [(1, (.n 4), (.v 0)), (1, (.v 0), (.n 3))] rfl q1 (Nat.sub_le 3 a)
theorem r129 {a b : Nat} (h1 : b < a) : (0 : Nat) < a := Nat.lt_of_not_le fun q1 => cert [b, a] [(1, (.a (.v 0) (.n 1)), (.v 1)), (1, (.v 1), (.n 0))] rfl h1 q1
theorem r130 {a : Nat} : (a % (64 : Nat)) < (64 : Nat) := Nat.lt_of_not_le fun q1 => cert [(a % 64)] [(1, (.n 64), (.v 0)), (1, (.a (.v 0) (.n 1)), (.n 64))] rfl q1 (Nat.mod_lt a (Nat.succ_pos 63))
theorem r132 {a b c : Nat} (h1 : a < c) : (a - b) ≤ c := Nat.le_of_not_lt fun q1 => cert [a, c, (a - b)] [(1, (.a (.v 0) (.n 1)), (.v 1)), (1, (.a (.v 1) (.n 1)), (.v 2)), (1, (.v 2), (.v 0))] rfl h1 q1 (Nat.sub_le a b)
theorem r133 {a b c : Nat} (h1 : a < c) : (a - b) < c := Nat.lt_of_not_le fun q1 => cert [a, c, (a - b)] [(1, (.a (.v 0) (.n 1)), (.v 1)), (1, (.v 1), (.v 2)), (1, (.v 2), (.v 0))] rfl h1 q1 (Nat.sub_le a b)
theorem r135 {a b : Nat} (h1 : a < b) (h2 : b ≤ a) : False := cert [a, b] [(1, (.a (.v 0) (.n 1)), (.v 1)), (1, (.v 1), (.v 0))] rfl h1 h2
theorem r136 {a b : Nat} : (min a b) ≤ (a + (1 : Nat)) := Nat.le_of_not_lt fun q1 => cert [a, (min a b)] [(1, (.a (.a (.v 0) (.n 1)) (.n 1)), (.v 1)), (1, (.v 1), (.v 0))] rfl q1 (Nat.min_le_left a b)
theorem r137 {a b : Nat} (h1 : ¬ (a ≤ b)) : (0 : Nat) < a := Nat.lt_of_not_le fun q1 => cert [b, a] [(1, (.a (.v 0) (.n 1)), (.v 1)), (1, (.v 1), (.n 0))] rfl (Nat.lt_of_not_le h1) q1
theorem r139 {a b c : Nat} (h1 : a < (min b c)) : a < b := Nat.le_trans h1 (Nat.min_le_left b c)
theorem r140 {a : Nat} (h1 : a < (1 : Nat)) : a = (0 : Nat) := Nat.le_antisymm (Nat.le_of_not_lt fun q1 => cert [a] [(1, (.a (.v 0) (.n 1)), (.n 1)), (1, (.a (.n 0) (.n 1)), (.v 0))] rfl h1 q1) (Nat.le_of_not_lt fun q2 => cert [a] [(1, (.a (.v 0) (.n 1)), (.n 0))] rfl q2)
theorem r141 {a : Nat} (h1 : a = (0 : Nat)) : a ≤ (0 : Nat) := by (subst_vars; simp; done)
theorem r142 {a : Nat} (h1 : a ≤ (4 : Nat)) : a ≤ (12 : Nat) := Nat.le_trans h1 (Nat.le_of_lt (Nat.le_add_left (Nat.succ 4) 7))
theorem r143 {a : Nat} (h1 : a ≤ (4 : Nat)) : a ≤ (15 : Nat) := Nat.le_trans h1 (Nat.le_of_lt (Nat.le_add_left (Nat.succ 4) 10))
theorem r145 {a : Nat} : ((a + (1 : Nat)) - (1 : Nat)) = a := by (subst_vars; simp; done)
theorem r147 {a : Nat} : (a + (0 : Nat)) ≤ (a + (0 : Nat)) := by (subst_vars; simp; done)
theorem r148 {a : Nat} : ((0 : Nat) + (a - (0 : Nat))) ≤ a := by (simp [*] at *; done)
theorem r149 {a : Nat} : ((2 : Nat) * a) = (a * (2 : Nat)) := by lia
theorem r150 {a : Nat} (h1 : a ≤ (43 : Nat)) : a < (64 : Nat) := by (first | exact Nat.le_trans h1 (by decide) | exact Nat.lt_of_le_of_lt h1 (by decide) | exact Nat.lt_of_lt_of_le h1 (by decide) | decide | exact absurd h1 (by decide))
theorem r151 {a : Nat} (h1 : a ≤ (43 : Nat)) : a ≤ (60 : Nat) := Nat.le_trans h1 (Nat.le_of_lt (Nat.le_add_left (Nat.succ 43) 16))
theorem r152 {a b : Nat} (h1 : (a + (0 : Nat)) = b) : a = b := h1
theorem r153 {a b : Nat} (h1 : b < a) : (a - (1 : Nat)) < a := Nat.lt_of_not_le fun q1 => le_e a 1 (fun q2 => cert [b, a, (a - 1)] [(1, (.a (.v 0) (.n 1)), (.v 1)), (1, (.v 1), (.v 2)), (1, (.v 2), (.n 0))] rfl h1 q1 (@sub_d a 1 q2)) (fun q2 => cert [a, (a - 1)] [(1, (.v 0), (.v 1)), (1, (.a (.v 1) (.n 1)), (.v 0))] rfl q1 (@sub_c a 1 q2))
theorem r154 {a b : Nat} (h1 : a ≤ (b - (0 : Nat))) : a ≤ b := by omega
theorem r155 {a : Nat} (h1 : a ≤ (86 : Nat)) : a < (128 : Nat) := by (first | exact Nat.le_trans h1 (by decide) | exact Nat.lt_of_le_of_lt h1 (by decide) | exact Nat.lt_of_lt_of_le h1 (by decide) | decide | exact absurd h1 (by decide))
theorem r156 {a : Nat} (h1 : (1 : Nat) < a) : ¬ (a ≤ (0 : Nat)) := fun q1 => cert [a] [(1, (.a (.n 1) (.n 1)), (.v 0)), (1, (.v 0), (.n 0))] rfl h1 q1
theorem r157 {a b c : Nat} (h1 : a < c) (h2 : c ≤ b) : a ≤ b := Nat.le_trans (Nat.le_of_lt h1) h2
theorem r158 {a : Int} (h1 : (0 : Int) < a) : ¬ (a = (0 : Int)) := by lia
theorem r159 {a b c : Nat} (h1 : c < b) (h2 : a = c) : a < b := by (simp [*] at *; done)
theorem r160 {a b : Nat} (h1 : a < b) (h2 : b ≤ (0 : Nat)) : False := cert [a, b] [(1, (.a (.v 0) (.n 1)), (.v 1)), (1, (.v 1), (.n 0))] rfl h1 h2
theorem r161 {a : Nat} (h1 : a ≤ (900 : Nat)) : a ≤ (1000 : Nat) := Nat.le_trans h1 (Nat.le_of_lt (Nat.le_add_left (Nat.succ 900) 99))
theorem r162 {a b : Nat} (h1 : b ≤ a) : a = (b + (a - b)) := by (simp [*] at *; done)
theorem r164 {a b c : Nat} (h1 : a < c) : a < (b + (c - b)) := Nat.lt_of_not_le fun q1 => cert [a, c, b, (c - b)] [(1, (.a (.v 0) (.n 1)), (.v 1)), (1, (.a (.v 2) (.v 3)), (.v 0)), (1, (.v 1), (.a (.v 3) (.v 2)))] rfl h1 q1 (@sub_a c b)
theorem r165 {a b c : Nat} : a ≤ (a + ((b + c) / (2 : Nat))) := by (simp at *; done)
theorem r166 {a b c : Nat} (h1 : a < (b + c)) : a < (b + c) := h1
theorem r167 {a b c : Nat} (h1 : (a - b) ≤ c) : (a - b) ≤ c := h1
theorem r168 {a b c : Nat} (h1 : b < c) : (a + b) ≤ (a + c) := Nat.le_of_not_lt fun q1 => cert [b, c, a] [(1, (.a (.v 0) (.n 1)), (.v 1)), (1, (.a (.a (.v 2) (.v 1)) (.n 1)), (.a (.v 2) (.v 0)))] rfl h1 q1
theorem r169 {a b c : Nat} (h1 : b < c) : (a + b) < (a + c) := by (simp [*] at *; done)
theorem r170 {a b c : Nat} (h1 : (c + a) ≤ b) : a ≤ (b - c) := Nat.le_of_not_lt fun q1 => cert [c, a, b, (b - c)] [(1, (.a (.v 0) (.v 1)), (.v 2)), (1, (.a (.v 3) (.n 1)), (.v 1)), (1, (.v 2), (.a (.v 3) (.v 0)))] rfl h1 q1 (@sub_a b c)
theorem r172 {a : Nat} (h1 : a < (2 : Nat)) : a ≤ (16777216 : Nat) := Nat.le_trans (Nat.le_of_lt h1) (Nat.le_add_left 2 16777214)
theorem r173 {a b : Nat} (h1 : a ≤ b) (h2 : ¬ (a = b)) : a < b := Nat.lt_of_not_le fun q1 => ne_e h2 (fun q2 => cert [b, a] [(1, (.v 0), (.v 1)), (1, (.a (.v 1) (.n 1)), (.v 0))] rfl q1 q2) (fun q2 => cert [a, b] [(1, (.v 0), (.v 1)), (1, (.a (.v 1) (.n 1)), (.v 0))] rfl h1 q2)
theorem r174 {a b : Nat} (h1 : ¬ (b ≤ a)) : a ≤ (b - (1 : Nat)) := Nat.le_of_not_lt fun q1 => cert [a, b, (b - 1)] [(1, (.a (.v 0) (.n 1)), (.v 1)), (1, (.a (.v 2) (.n 1)), (.v 0)), (1, (.v 1), (.a (.v 2) (.n 1)))] rfl (Nat.lt_of_not_le h1) q1 (@sub_a b 1)
theorem r175 {a b : Nat} (h1 : ¬ (a ≤ b)) : (a - (1 : Nat)) < a := Nat.lt_of_not_le fun q1 => le_e a 1 (fun q2 => cert [b, a, (a - 1)] [(1, (.a (.v 0) (.n 1)), (.v 1)), (1, (.v 1), (.v 2)), (1, (.v 2), (.n 0))] rfl (Nat.lt_of_not_le h1) q1 (@sub_d a 1 q2)) (fun q2 => cert [a, (a - 1)] [(1, (.v 0), (.v 1)), (1, (.a (.v 1) (.n 1)), (.v 0))] rfl q1 (@sub_c a 1 q2))
theorem r176 {a b : Nat} (h1 : ¬ ((b - a) = (0 : Nat))) : a ≤ b := Nat.le_of_not_lt fun q1 => ne_e h1 (fun q3 => cert [(b - a)] [(1, (.a (.v 0) (.n 1)), (.n 0))] rfl q3) (fun q3 => le_e b a (fun q4 => cert [(b - a)] [(1, (.a (.n 0) (.n 1)), (.v 0)), (1, (.v 0), (.n 0))] rfl q3 (@sub_d b a q4)) (fun q4 => cert [b, a, (b - a)] [(1, (.a (.v 0) (.n 1)), (.v 1)), (1, (.a (.n 0) (.n 1)), (.v 2)), (1, (.a (.v 2) (.v 1)), (.v 0))] rfl q1 q3 (@sub_c b a q4)))
theorem r179 {a b c : Nat} (h1 : a < c) (h2 : c ≤ b) : ¬ (a = b) := Nat.ne_of_lt (Nat.le_trans h1 h2)
theorem r180 {a : Nat} (h1 : a ≤ (12 : Nat)) : a ≤ (16777216 : Nat) := Nat.le_trans h1 (Nat.le_of_lt (Nat.le_add_left (Nat.succ 12) 16777203))
theorem r183 {a b c : Nat} (h1 : a ≤ c) (h2 : ¬ (b < c)) : a ≤ b := Nat.le_trans h1 (Nat.le_of_not_lt h2)
theorem r184 {a b c : Nat} (h1 : c < b) (h2 : ¬ (c < a)) : a < b := Nat.lt_of_not_le fun q1 => cert [c, b, a] [(1, (.a (.v 0) (.n 1)), (.v 1)), (1, (.v 2), (.v 0)), (1, (.v 1), (.v 2))] rfl h1 (Nat.le_of_not_lt h2) q1
theorem r185 {a : Nat} (h1 : a ≤ (86 : Nat)) : a ≤ (16777216 : Nat) := Nat.le_trans h1 (Nat.le_of_lt (Nat.le_add_left (Nat.succ 86) 16777129))
theorem r188 {a b : Nat} (h1 : a = (2 : Nat)) : a ≤ (b + (2 : Nat)) := by (subst_vars; simp; done)
theorem r189 {a b : Nat} (h1 : ¬ (b ≤ a)) : (a + (b - a)) ≤ b := Nat.le_of_not_lt fun q1 => cert [b, a, (b - a)] [(1, (.a (.v 0) (.n 1)), (.a (.v 1) (.v 2))), (1, (.a (.v 2) (.v 1)), (.v 0))] rfl q1 (@sub_c b a (Nat.le_of_lt (Nat.lt_of_not_le h1)))
theorem r190 {a : Nat} (h1 : a ≤ (200 : Nat)) : a ≤ (16777216 : Nat) := Nat.le_trans h1 (Nat.le_of_lt (Nat.le_add_left (Nat.succ 200) 16777015))
theorem r191 {a : Nat} (h1 : a ≤ (1000 : Nat)) : a ≤ (16777215 : Nat) := Nat.le_trans h1 (Nat.le_of_lt (Nat.le_add_left (Nat.succ 1000) 16776214))
theorem r192 {a b c : Nat} (h1 : a < (min b c)) (h2 : a = b) : False := cert [a, (min b c), b] [(1, (.a (.v 0) (.n 1)), (.v 1)), (1, (.v 2), (.v 0)), (1, (.v 1), (.v 2))] rfl h1 (eq_b h2) (Nat.min_le_left b c)
theorem r193 {a : Nat} (h1 : a ≤ (0 : Nat)) (h2 : (0 : Nat) < a) : False := cert [a] [(1, (.v 0), (.n 0)), (1, (.a (.n 0) (.n 1)), (.v 0))] rfl h1 h2
theorem r194 {a : Nat} : (0 : Int) ≤ (((a : Nat) : Int) + (2 : Int)) := Int.NonNeg.mk (a + 2 + 0)
theorem r195 {a b : Nat} (h1 : b < a) : ((a - (1 : Nat)) - b) < a := Nat.lt_of_not_le fun q1 => le_e a 1 (fun q2 => cert [b, a, ((a - 1) - b), (a - 1)] [(1, (.a (.v 0) (.n 1)), (.v 1)), (1, (.v 1), (.v 2)), (1, (.v 3), (.n 0)), (1, (.v 2), (.v 3))] rfl h1 q1 (@sub_d a 1 q2) (Nat.sub_le (a - 1) b)) (fun q2 => cert [a, ((a - 1) - b), (a - 1)] [(1, (.v 0), (.v 1)), (1, (.a (.v 2) (.n 1)), (.v 0)), (1, (.v 1), (.v 2))] rfl q1 (@sub_c a 1 q2) (Nat.sub_le (a - 1) b))
theorem r196 {a b : Nat} (h1 : ¬ (a < b)) (h2 : ¬ (b < a)) : a = b := Nat.le_antisymm (Nat.le_of_not_lt fun q1 => cert [a, b] [(1, (.v 0), (.v 1)), (1, (.a (.v 1) (.n 1)), (.v 0))] rfl (Nat.le_of_not_lt h2) q1) (Nat.le_of_not_lt fun q2 => cert [b, a] [(1, (.v 0), (.v 1)), (1, (.a (.v 1) (.n 1)), (.v 0))] rfl (Nat.le_of_not_lt h1) q2)
theorem r197 {a b : Nat} : (min (max (max a (1 : Nat)) b) b) = b := Nat.le_antisymm (Nat.le_of_not_lt fun q1 => cert [b, (min (max (max a 1) b) b)] [(1, (.a (.v 0) (.n 1)), (.v 1)), (1, (.v 1), (.v 0))] rfl q1 (Nat.min_le_right (max (max a 1) b) b)) (Nat.le_of_not_lt fun q2 => le_e (max (max a 1) b) b (fun q5 => cert [(min (max (max a 1) b) b), b, (max (max a 1) b)] [(1, (.a (.v 0) (.n 1)), (.v 1)), (1, (.v 2), (.v 0)), (1, (.v 1), (.v 2))] rfl q2 (@min_c (max (max a 1) b) b q5) (Nat.le_max_right (max a 1) b)) (fun q5 => cert [(min (max (max a 1) b) b), b] [(1, (.a (.v 0) (.n 1)), (.v 1)), (1, (.v 1), (.v 0))] rfl q2 (@min_d (max (max a 1) b) b q5)))
theorem r199 : ((0 : Nat) + (1 : Nat)) ≤ ((0 : Nat) + (1 : Nat)) := by (first | exact Nat.le_trans h1 (by decide) | exact Nat.lt_of_le_of_lt h1 (by decide) | exact Nat.lt_of_lt_of_le h1 (by decide) | decide | exact absurd h1 (by decide))
theorem r200 {a b : Nat} (h1 : b ≤ a) : (min (a - (0 : Nat)) b) = b := by (simp [*] at *; done)
theorem r201 {a b : Nat} : ((0 : Nat) + (min (a - (0 : Nat)) b)) ≤ a := Nat.le_of_not_lt fun q1 => cert [a, (min (a - 0) b), (a - 0)] [(1, (.a (.v 0) (.n 1)), (.a (.n 0) (.v 1))), (1, (.v 2), (.v 0)), (1, (.v 1), (.v 2))] rfl q1 (Nat.sub_le a 0) (Nat.min_le_left (a - 0) b)
theorem r202 {a : Nat} (h1 : (1 : Nat) < a) : (1 : Nat) < (a - (0 : Nat)) := h1
theorem r203 {a : Nat} (h1 : a ≤ (4 : Nat)) : (a - (1 : Nat)) ≤ (4 : Nat) := Nat.le_of_not_lt fun q1 => cert [a, (a - 1)] [(1, (.v 0), (.n 4)), (1, (.a (.n 4) (.n 1)), (.v 1)), (1, (.v 1), (.v 0))] rfl h1 q1 (Nat.sub_le a 1)
theorem r204 {a : Nat} (h1 : (1 : Nat) ≤ a) : ((0 : Nat) + (1 : Nat)) ≤ a := by omega
theorem r205 {a : Nat} (h1 : (0 : Nat) < a) : ((0 : Nat) + (1 : Nat)) ≤ a := h1
theorem r206 {a b c : Nat} (h1 : a ≤ b) (h2 : b ≤ c) : a ≤ (min b c) := by (simp [*] at *; done)
theorem r207 {a b c : Nat} : (a + b) < (((a + b) + (1 : Nat)) + c) := Nat.lt_of_not_le fun q1 => cert [a, b, c] [(1, (.a (.a (.a (.v 0) (.v 1)) (.n 1)) (.v 2)), (.a (.v 0) (.v 1)))] rfl q1
theorem r208 {a b c : Nat} (h1 : (a + c) ≤ b) : (a + (b - a)) = b := Nat.le_antisymm (Nat.le_of_not_lt fun q1 => le_e b a (fun q2 => cert [a, c, b, (b - a)] [(1, (.a (.v 0) (.v 1)), (.v 2)), (1, (.a (.v 2) (.n 1)), (.a (.v 0) (.v 3))), (1, (.v 3), (.n 0))] rfl h1 q1 (@sub_d b a q2)) (fun q2 => cert [b, a, (b - a)] [(1, (.a (.v 0) (.n 1)), (.a (.v 1) (.v 2))), (1, (.a (.v 2) (.v 1)), (.v 0))] rfl q1 (@sub_c b a q2))) (Nat.le_of_not_lt fun q3 => cert [a, (b - a), b] [(1, (.a (.a (.v 0) (.v 1)) (.n 1)), (.v 2)), (1, (.v 2), (.a (.v 1) (.v 0)))] rfl q3 (@sub_a b a))
theorem r209 {a : Nat} (h1 : (0 : Nat) < a) : (1 : Nat) ≤ (a - (0 : Nat)) := h1
theorem r211 {a b : Nat} (h1 : a < b) (h2 : b ≤ (8 : Nat)) : a < (8 : Nat) := Nat.le_trans h1 h2
theorem r212 {a b : Nat} (h1 : b ≤ a) (h2 : (1 : Nat) ≤ b) : (1 : Nat) ≤ a := Nat.le_trans h2 h1
theorem r213 {a b : Nat} (h1 : ¬ (b ≤ a)) : a ≤ ((a + b) / (2 : Nat)) := Nat.le_of_not_lt fun q1 => cert [a, b, ((a + b) / 2)] [(1, (.a (.v 0) (.n 1)), (.v 1)), (2, (.a (.v 2) (.n 1)), (.v 0)), (1, (.a (.a (.v 0) (.v 1)) (.n 1)), (.m 2 (.a (.v 2) (.n 1))))] rfl (Nat.lt_of_not_le h1) q1 (Nat.lt_mul_div_succ (a + b) (Nat.succ_pos 1))
theorem r214 {a b c d : Nat} (h1 : a ≤ (b + d)) : a ≤ ((b + c) + d) := Nat.le_trans h1 (Nat.add_le_add_right (Nat.le_add_right b c) d)
theorem r215 {a b : Int} : ¬ (((a < a) ∨ (((a = a) ∧ (b < b))))) := by (simp [*] at *; done)
theorem r216 {a b : Nat} (h1 : a = b) (h2 : (2 : Nat) ≤ b) : (0 : Nat) < a := Nat.lt_of_not_le fun q1 => cert [b, a] [(1, (.v 0), (.v 1)), (1, (.n 2), (.v 0)), (1, (.v 1), (.n 0))] rfl (eq_b h1) h2 q1
theorem r217 {a : Nat} (h1 : a ≤ (12 : Nat)) : (a + (1 : Nat)) ≤ (13 : Nat) := by (first | exact Nat.le_trans h1 (by decide) | exact Nat.lt_of_le_of_lt h1 (by decide) | exact Nat.lt_of_lt_of_le h1 (by decide) | decide | exact absurd h1 (by decide))
theorem r220 {a : Nat} (h1 : a ≤ (12 : Nat)) : (a - (1 : Nat)) ≤ (12 : Nat) := Nat.le_of_not_lt fun q1 => cert [a, (a - 1)] [(1, (.v 0), (.n 12)), (1, (.a (.n 12) (.n 1)), (.v 1)), (1, (.v 1), (.v 0))] rfl h1 q1 (Nat.sub_le a 1)
theorem r221 {a b c : Nat} (h1 : ((a ≤ b) ∧ (b < (a + c)))) : a ≤ b := by (simp [*] at *; done)
theorem r222 {a : Int} (h1 : a < (2 : Int)) : a < (((2 : Nat) : Nat) : Int) := h1
theorem r223 {a : Nat} (h1 : a ≤ (43 : Nat)) : (a + (0 : Nat)) ≤ (86 : Nat) := Nat.le_trans h1 (Nat.le_of_lt (Nat.le_add_left (Nat.succ 43) 42))
theorem r226 {a b : Nat} (h1 : b < a) : a = ((a - (1 : Nat)) + (1 : Nat)) := Nat.le_antisymm (Nat.le_of_not_lt fun q1 => cert [(a - 1), a] [(1, (.a (.a (.v 0) (.n 1)) (.n 1)), (.v 1)), (1, (.v 1), (.a (.v 0) (.n 1)))] rfl q1 (@sub_a a 1)) (Nat.le_of_not_lt fun q2 => le_e a 1 (fun q3 => cert [b, a, (a - 1)] [(1, (.a (.v 0) (.n 1)), (.v 1)), (1, (.a (.v 1) (.n 1)), (.a (.v 2) (.n 1))), (1, (.v 2), (.n 0))] rfl h1 q2 (@sub_d a 1 q3)) (fun q3 => cert [a, (a - 1)] [(1, (.a (.v 0) (.n 1)), (.a (.v 1) (.n 1))), (1, (.a (.v 1) (.n 1)), (.v 0))] rfl q2 (@sub_c a 1 q3)))
theorem r227 {a b : Nat} (h1 : a < b) (h2 : b = (15 : Nat)) : a < (15 : Nat) := Nat.le_trans h1 (Nat.le_of_eq h2)
theorem r228 {a b : Nat} (h1 : (a + (1 : Nat)) ≤ b) : (a + (1 : Nat)) ≤ b := by (simp [*] at *; done)
theorem r229 {a b : Nat} (h1 : (b + (1 : Nat)) < a) : (0 : Nat) < (a - b) := Nat.lt_of_not_le fun q1 => cert [b, a, (a - b)] [(1, (.a (.a (.v 0) (.n 1)) (.n 1)), (.v 1)), (1, (.v 2), (.n 0)), (1, (.v 1), (.a (.v 2) (.v 0)))] rfl h1 q1 (@sub_a a b)
theorem r230 {a : Nat} (h1 : a < (128 : Nat)) : (a / (2 : Nat)) < (64 : Nat) := Nat.lt_of_not_le fun q1 => cert [a, (a / 2)] [(1, (.a (.v 0) (.n 1)), (.n 128)), (2, (.n 64), (.v 1)), (1, (.m 2 (.v 1)), (.v 0))] rfl h1 q1 (@div_a a 2)
theorem r232 {a : Nat} (h1 : a ≤ ((40 : Nat) + (1 : Nat))) : a ≤ (1000 : Nat) := Nat.le_trans h1 (Nat.le_of_lt (Nat.le_add_left (40 + 1).succ 958))
theorem r234 {a : Nat} (h1 : a ≤ (100 : Nat)) : (a + (1 : Nat)) ≤ (640 : Nat) := by (first | exact Nat.le_trans h1 (by decide) | exact Nat.lt_of_le_of_lt h1 (by decide) | exact Nat.lt_of_lt_of_le h1 (by decide) | decide | exact absurd h1 (by decide))
theorem r235 {a b c : Nat} (h1 : (a + c) ≤ b) (h2 : (1 : Nat) ≤ c) : a < b := Nat.lt_of_not_le fun q1 => cert [a, c, b] [(1, (.a (.v 0) (.v 1)), (.v 2)), (1, (.n 1), (.v 1)), (1, (.v 2), (.v 0))] rfl h1 h2 q1
theorem r236 {a b c : Nat} (h1 : c < a) (h2 : a ≤ b) : (a - (1 : Nat)) < b := Nat.lt_of_not_le fun q1 => le_e a 1 (fun q2 => cert [c, a, b, (a - 1)] [(1, (.a (.v 0) (.n 1)), (.v 1)), (1, (.v 1), (.v 2)), (1, (.v 2), (.v 3)), (1, (.v 3), (.n 0))] rfl h1 h2 q1 (@sub_d a 1 q2)) (fun q2 => cert [a, b, (a - 1)] [(1, (.v 0), (.v 1)), (1, (.v 1), (.v 2)), (1, (.a (.v 2) (.n 1)), (.v 0))] rfl h2 q1 (@sub_c a 1 q2))
theorem r237 {a : Int} (h1 : a < (2 : Int)) : a < (9223372036854775808 : Int) := by lia
theorem r238 {a b : Nat} (h1 : a ≤ b) (h2 : b ≤ (43 : Nat)) : a ≤ (700 : Nat) := Nat.le_of_not_lt fun q1 => cert [a, b] [(1, (.v 0), (.v 1)), (1, (.v 1), (.n 43)), (1, (.a (.n 700) (.n 1)), (.v 0))] rfl h1 h2 q1
theorem r240 {a : Nat} (h1 : (a + (1 : Nat)) ≤ (450 : Nat)) : a ≤ (1000 : Nat) := Nat.le_trans (Nat.le_of_lt h1) (Nat.le_add_left 450 550)
theorem r241 {a b : Nat} : ((a + (b + (1 : Nat))) - (1 : Nat)) = (a + b) := by (simp at *; done)
theorem r242 {a b c d : Nat} (h1 : c < (d + (0 : Nat))) (h2 : d ≤ c) : a ≤ b := Nat.le_of_not_lt fun q1 => cert [c, d] [(1, (.a (.v 0) (.n 1)), (.a (.v 1) (.n 0))), (1, (.v 1), (.v 0))] rfl h1 h2
theorem r243 {a b : Nat} : (a + (b + (1 : Nat))) = ((a + b) + (1 : Nat)) := by lia
theorem r244 {a b : Nat} (h1 : b = a) (h2 : ¬ (b < (2 : Nat))) : (2 : Nat) ≤ a := Nat.le_of_not_lt fun q1 => cert [b, a] [(1, (.v 0), (.v 1)), (1, (.n 2), (.v 0)), (1, (.a (.v 1) (.n 1)), (.n 2))] rfl (Nat.le_of_eq h1) (Nat.le_of_not_lt h2) q1
theorem r245 {a : Int} (h1 : (0 : Int) ≤ a) : (-(((2 : Nat) : Nat) : Int)) ≤ a := by lia
theorem r248 {a : Nat} (h1 : a < (8192 : Nat)) : (a / (64 : Nat)) < (128 : Nat) := Nat.lt_of_not_le fun q1 => cert [a, (a / 64)] [(1, (.a (.v 0) (.n 1)), (.n 8192)), (64, (.n 128), (.v 1)), (1, (.m 64 (.v 1)), (.v 0))] rfl h1 q1 (@div_a a 64)
theorem r249 {a b c : Nat} (h1 : a < (c + (b - c))) (h2 : c ≤ a) : a < b := Nat.lt_of_not_le fun q1 => le_e b c (fun q2 => cert [a, c, (b - c)] [(1, (.a (.v 0) (.n 1)), (.a (.v 1) (.v 2))), (1, (.v 1), (.v 0)), (1, (.v 2), (.n 0))] rfl h1 h2 (@sub_d b c q2)) (fun q2 => cert [a, c, (b - c), b] [(1, (.a (.v 0) (.n 1)), (.a (.v 1) (.v 2))), (1, (.v 3), (.v 0)), (1, (.a (.v 2) (.v 1)), (.v 3))] rfl h1 q1 (@sub_c b c q2))
theorem r250 {a b : Nat} (h1 : (a + (100 : Nat)) < b) : (a + (80 : Nat)) < b := Nat.lt_of_not_le fun q1 => cert [a, b] [(1, (.a (.a (.v 0) (.n 100)) (.n 1)), (.v 1)), (1, (.v 1), (.a (.v 0) (.n 80)))] rfl h1 q1
theorem r251 {a b c : Nat} (h1 : b < a) : ¬ (((a ≤ b) ∧ (b < (a + c)))) := fun q1 => cert [b, a] [(1, (.a (.v 0) (.n 1)), (.v 1)), (1, (.v 1), (.v 0))] rfl h1 q1.1
theorem r252 {a b c : Nat} (h1 : a < (b + c)) : a ≤ ((b + c) - (1 : Nat)) := Nat.le_of_not_lt fun q1 => cert [a, b, c, ((b + c) - 1)] [(1, (.a (.v 0) (.n 1)), (.a (.v 1) (.v 2))), (1, (.a (.v 3) (.n 1)), (.v 0)), (1, (.a (.v 1) (.v 2)), (.a (.v 3) (.n 1)))] rfl h1 q1 (@sub_a (b + c) 1)
theorem r253 {a b c : Nat} (h1 : a < ((b + c) + (1 : Nat))) : a ≤ (b + c) := Nat.le_of_not_lt fun q1 => cert [a, b, c] [(1, (.a (.v 0) (.n 1)), (.a (.a (.v 1) (.v 2)) (.n 1))), (1, (.a (.a (.v 1) (.v 2)) (.n 1)), (.v 0))] rfl h1 q1
theorem r254 {a b c d : Nat} (h1 : c < d) (h2 : a = c) (h3 : d ≤ b) : a ≤ b := Nat.le_of_not_lt fun q1 => cert [c, d, a, b] [(1, (.a (.v 0) (.n 1)), (.v 1)), (1, (.v 2), (.v 0)), (1, (.v 1), (.v 3)), (1, (.a (.v 3) (.n 1)), (.v 2))] rfl h1 (Nat.le_of_eq h2) h3 q1
theorem r255 {a b c : Nat} (h1 : a ≤ (b + c)) : a ≤ ((b + (1 : Nat)) + c) := Nat.le_trans h1 (Nat.add_le_add_right (Nat.le_add_right b 1) c)
theorem r256 {a b c : Nat} (h1 : a ≤ (b + c)) : a ≤ (b + (c + (1 : Nat))) := Nat.le_trans h1 (Nat.le_of_lt (Nat.le_refl (b + c).succ))
theorem r257 {a b c d : Nat} (h1 : c < d) (h2 : b = d) (h3 : a ≤ c) : a ≤ b := Nat.le_of_not_lt fun q1 => cert [c, d, b, a] [(1, (.a (.v 0) (.n 1)), (.v 1)), (1, (.v 1), (.v 2)), (1, (.v 3), (.v 0)), (1, (.a (.v 2) (.n 1)), (.v 3))] rfl h1 (eq_b h2) h3 q1
theorem r258 {a b c d : Nat} (h1 : a ≤ c) (h2 : c ≤ d) (h3 : d ≤ b) : a ≤ b := Nat.le_of_not_lt fun q1 => cert [a, c, d, b] [(1, (.v 0), (.v 1)), (1, (.v 1), (.v 2)), (1, (.v 2), (.v 3)), (1, (.a (.v 3) (.n 1)), (.v 0))] rfl h1 h2 h3 q1
theorem r260 {a : Nat} (h1 : a < (2 : Nat)) : a ≤ ((16777216 : Nat) + (1 : Nat)) := Nat.le_trans (Nat.le_of_lt h1) (Nat.le_add_left 2 16777215)
theorem r261 {a b c d : Nat} (h1 : b < d) (h2 : (a + d) ≤ c) : (a + b) ≤ c := Nat.le_of_not_lt fun q1 => cert [b, d, a, c] [(1, (.a (.v 0) (.n 1)), (.v 1)), (1, (.a (.v 2) (.v 1)), (.v 3)), (1, (.a (.v 3) (.n 1)), (.a (.v 2) (.v 0)))] rfl h1 h2 q1
theorem r262 {a b : Nat} (h1 : a ≤ b) (h2 : ¬ (a = b)) : (a + (1 : Nat)) ≤ b := Nat.le_of_not_lt fun q1 => ne_e h2 (fun q2 => cert [b, a] [(1, (.a (.v 0) (.n 1)), (.a (.v 1) (.n 1))), (1, (.a (.v 1) (.n 1)), (.v 0))] rfl q1 q2) (fun q2 => cert [a, b] [(1, (.v 0), (.v 1)), (1, (.a (.v 1) (.n 1)), (.v 0))] rfl h1 q2)
theorem r263 {a b c d : Nat} (h1 : d < (b + c)) (h2 : a ≤ d) : a < (b + c) := Nat.lt_of_not_le fun q1 => cert [d, b, c, a] [(1, (.a (.v 0) (.n 1)), (.a (.v 1) (.v 2))), (1, (.v 3), (.v 0)), (1, (.a (.v 1) (.v 2)), (.v 3))] rfl h1 h2 q1
theorem r264 {a b : Nat} (h1 : a ≤ b) (h2 : ¬ ((0 : Nat) < (b - a))) : a = b := Nat.le_antisymm (Nat.le_of_not_lt fun q1 => cert [a, b] [(1, (.v 0), (.v 1)), (1, (.a (.v 1) (.n 1)), (.v 0))] rfl h1 q1) (Nat.le_of_not_lt fun q2 => cert [(b - a), a, b] [(1, (.v 0), (.n 0)), (1, (.a (.v 1) (.n 1)), (.v 2)), (1, (.v 2), (.a (.v 0) (.v 1)))] rfl (Nat.le_of_not_lt h2) q2 (@sub_a b a))
theorem r265 {a b c d : Nat} (h1 : c = d) (h2 : (a + b) = d) : (a + b) ≤ c := by (subst_vars; simp; done)
theorem r266 {a b c d : Nat} (h1 : a < (b + d)) (h2 : d ≤ c) : a < (b + c) := Nat.le_trans h1 (Nat.add_le_add_left h2 b)
theorem r267 {a : Int} (h1 : (0 : Int) ≤ a) : (-(9223372036854775808 : Int)) < a := by omega
theorem r270 {a : Nat} (h1 : (0 : Nat) < a) : (-((a : Nat) : Int)) ≤ (-(1 : Int)) := by lia
theorem r272 {a b c d e : Nat} (h1 : c < (d + e)) (h2 : (d + e) ≤ c) : a < b := Nat.lt_of_not_le fun q1 => cert [c, d, e] [(1, (.a (.v 0) (.n 1)), (.a (.v 1) (.v 2))), (1, (.a (.v 1) (.v 2)), (.v 0))] rfl h1 h2
theorem r273 {a : Nat} (h1 : (2 : Nat) ≤ a) : a = ((a - (2 : Nat)) + (2 : Nat)) := by (simp [*] at *; done)
theorem r274 {a b c : Nat} (h1 : a = (min (b + c) (15 : Nat))) : a ≤ (15 : Nat) := Nat.le_of_not_lt fun q1 => cert [a, (min (b + c) 15)] [(1, (.v 0), (.v 1)), (1, (.a (.n 15) (.n 1)), (.v 0)), (1, (.v 1), (.n 15))] rfl (Nat.le_of_eq h1) q1 (Nat.min_le_right (b + c) 15)
theorem r276 {a : Nat} (h1 : (a + (1 : Nat)) ≤ (450 : Nat)) : a ≤ (16777216 : Nat) := Nat.le_trans (Nat.le_of_lt h1) (Nat.le_add_left 450 16776766)
theorem r277 {a b c : Nat} (h1 : a ≤ b) (h2 : c ≤ a) (h3 : ¬ (c < b)) : a = b := Nat.le_antisymm (Nat.le_of_not_lt fun q1 => cert [a, b] [(1, (.v 0), (.v 1)), (1, (.a (.v 1) (.n 1)), (.v 0))] rfl h1 q1) (Nat.le_of_not_lt fun q2 => cert [c, a, b] [(1, (.v 0), (.v 1)), (1, (.v 2), (.v 0)), (1, (.a (.v 1) (.n 1)), (.v 2))] rfl h2 (Nat.le_of_not_lt h3) q2)
theorem r278 {a : Nat} (h1 : a < (128 : Nat)) : a ≤ ((16777216 : Nat) + (1 : Nat)) := Nat.le_trans (Nat.le_of_lt h1) (Nat.le_add_left 128 16777089)
theorem r279 {a b c : Nat} (h1 : ((b ≤ a) ∧ (a < (b + c)))) : a < (b + c) := by (simp [*] at *; done)
theorem r280 {a : Nat} (h1 : (1 : Nat) ≤ a) (h2 : ¬ ((1 : Nat) < a)) : a = (1 : Nat) := Nat.le_antisymm (Nat.le_of_not_lt fun q1 => cert [a] [(1, (.v 0), (.n 1)), (1, (.a (.n 1) (.n 1)), (.v 0))] rfl (Nat.le_of_not_lt h2) q1) (Nat.le_of_not_lt fun q2 => cert [a] [(1, (.n 1), (.v 0)), (1, (.a (.v 0) (.n 1)), (.n 1))] rfl h1 q2)
theorem r281 {a b c d : Nat} (h1 : a = c) (h2 : d ≤ b) (h3 : ¬ (d < c)) : a ≤ b := Nat.le_of_not_lt fun q1 => cert [a, c, d, b] [(1, (.v 0), (.v 1)), (1, (.v 2), (.v 3)), (1, (.v 1), (.v 2)), (1, (.a (.v 3) (.n 1)), (.v 0))] rfl (Nat.le_of_eq h1) h2 (Nat.le_of_not_lt h3) q1
theorem r282 {a : Nat} (h1 : (0 : Nat) < a) (h2 : ¬ ((1 : Nat) = a)) : (1 : Nat) < a := Nat.lt_of_not_le fun q1 => ne_e h2 (fun q2 => cert [a] [(1, (.v 0), (.n 1)), (1, (.a (.n 1) (.n 1)), (.v 0))] rfl q1 q2) (fun q2 => cert [a] [(1, (.a (.n 0) (.n 1)), (.v 0)), (1, (.a (.v 0) (.n 1)), (.n 1))] rfl h1 q2)
theorem r283 {a b c d : Nat} (h1 : b = c) (h2 : a ≤ d) (h3 : ¬ (c < d)) : a ≤ b := Nat.le_of_not_lt fun q1 => cert [c, b, a, d] [(1, (.v 0), (.v 1)), (1, (.v 2), (.v 3)), (1, (.v 3), (.v 0)), (1, (.a (.v 1) (.n 1)), (.v 2))] rfl (eq_b h1) h2 (Nat.le_of_not_lt h3) q1
theorem r284 {a : Nat} (h1 : (0 : Nat) < a) (h2 : ¬ (a = (1 : Nat))) : (1 : Nat) < a := Nat.lt_of_not_le fun q1 => ne_e h2 (fun q2 => cert [a] [(1, (.a (.n 0) (.n 1)), (.v 0)), (1, (.a (.v 0) (.n 1)), (.n 1))] rfl h1 q2) (fun q2 => cert [a] [(1, (.v 0), (.n 1)), (1, (.a (.n 1) (.n 1)), (.v 0))] rfl q1 q2)
theorem r286 {a b c d : Nat} (h1 : (a + d) < c) : (a + (min b (c - a))) ≤ c := Nat.le_of_not_lt fun q1 => le_e c a (fun q2 => cert [a, d, c] [(1, (.a (.a (.v 0) (.v 1)) (.n 1)), (.v 2)), (1, (.v 2), (.v 0))] rfl h1 q2) (fun q2 => cert [c, a, (min b (c - a)), (c - a)] [(1, (.a (.v 0) (.n 1)), (.a (.v 1) (.v 2))), (1, (.a (.v 3) (.v 1)), (.v 0)), (1, (.v 2), (.v 3))] rfl q1 (@sub_c c a q2) (Nat.min_le_right b (c - a)))
theorem r287 {a b c d : Nat} (h1 : b < (min c (d - a))) : (a + b) < (a + c) := Nat.lt_of_not_le fun q1 => cert [b, (min c (d - a)), a, c] [(1, (.a (.v 0) (.n 1)), (.v 1)), (1, (.a (.v 2) (.v 3)), (.a (.v 2) (.v 0))), (1, (.v 1), (.v 3))] rfl h1 q1 (Nat.min_le_left c (d - a))
theorem r288 {a b : Nat} (h1 : b < (2 : Nat)) (h2 : b = a) : (min a a) < (2 : Nat) := Nat.lt_of_not_le fun q1 => cert [b, a, (min a a)] [(1, (.a (.v 0) (.n 1)), (.n 2)), (1, (.v 1), (.v 0)), (1, (.n 2), (.v 2)), (1, (.v 2), (.v 1))] rfl h1 (eq_b h2) q1 (Nat.min_le_left a a)
theorem r291 {a b : Nat} (h1 : a ≤ b) (h2 : b ≤ (10000 : Nat)) : a ≤ (16777216 : Nat) := Nat.le_of_not_lt fun q1 => cert [a, b] [(1, (.v 0), (.v 1)), (1, (.v 1), (.n 10000)), (1, (.a (.n 16777216) (.n 1)), (.v 0))] rfl h1 h2 q1
theorem r292 {a b c : Nat} (h1 : a ≤ b) (h2 : b ≤ c) : ((a + b) / (2 : Nat)) ≤ c := Nat.le_of_not_lt fun q1 => cert [a, b, c, ((a + b) / 2)] [(1, (.v 0), (.v 1)), (2, (.v 1), (.v 2)), (2, (.a (.v 2) (.n 1)), (.v 3)), (1, (.m 2 (.v 3)), (.a (.v 0) (.v 1)))] rfl h1 h2 q1 (@div_a (a + b) 2)
theorem r293 {a b c : Nat} (h1 : b ≤ (c - a)) (h2 : (0 : Nat) < b) : (a + b) ≤ c := Nat.le_of_not_lt fun q1 => le_e c a (fun q2 => cert [b, (c - a)] [(1, (.v 0), (.v 1)), (1, (.a (.n 0) (.n 1)), (.v 0)), (1, (.v 1), (.n 0))] rfl h1 h2 (@sub_d c a q2)) (fun q2 => cert [b, (c - a), c, a] [(1, (.v 0), (.v 1)), (1, (.a (.v 2) (.n 1)), (.a (.v 3) (.v 0))), (1, (.a (.v 1) (.v 3)), (.v 2))] rfl h1 q1 (@sub_c c a q2))
theorem r294 {a b c : Nat} (h1 : c ≤ b) (h2 : a ≤ ((2 : Nat) * c)) : (a - b) ≤ c := Nat.le_of_not_lt fun q1 => le_e a b (fun q2 => cert [c, (a - b)] [(1, (.a (.v 0) (.n 1)), (.v 1)), (1, (.v 1), (.n 0))] rfl q1 (@sub_d a b q2)) (fun q2 => cert [c, b, a, (a - b)] [(1, (.v 0), (.v 1)), (1, (.v 2), (.m 2 (.v 0))), (1, (.a (.v 0) (.n 1)), (.v 3)), (1, (.a (.v 3) (.v 1)), (.v 2))] rfl h1 h2 q1 (@sub_c a b q2))
theorem r295 {a b : Nat} (h1 : b ≤ (8 : Nat)) : ((2 : Nat) * (min a b)) ≤ (16 : Nat) := Nat.le_of_not_lt fun q1 => cert [b, (min a b)] [(2, (.v 0), (.n 8)), (1, (.a (.n 16) (.n 1)), (.m 2 (.v 1))), (2, (.v 1), (.v 0))] rfl h1 q1 (Nat.min_le_right a b)
theorem r296 {a : Nat} (h1 : ((a : Nat) : Int) = (1 : Int)) (h2 : (2 : Nat) ≤ a) : False := by lia
theorem r298 {a : Nat} : (((64 : Nat) * (a / (64 : Nat))) + (a % (64 : Nat))) = a := Nat.le_antisymm (Nat.le_of_not_lt fun q1 => cert [a, (a / 64), (a % 64)] [(1, (.a (.v 0) (.n 1)), (.a (.m 64 (.v 1)) (.v 2))), (1, (.a (.m 64 (.v 1)) (.v 2)), (.v 0))] rfl q1 (Nat.le_of_eq (Nat.div_add_mod a 64))) (Nat.le_of_not_lt fun q2 => cert [(a / 64), (a % 64), a] [(1, (.a (.a (.m 64 (.v 0)) (.v 1)) (.n 1)), (.v 2)), (1, (.v 2), (.a (.m 64 (.v 0)) (.v 1)))] rfl q2 (eq_b (Nat.div_add_mod a 64)))
theorem r300 {a b c d : Nat} (h1 : b = c) (h2 : (a + d) = c) : ((0 : Nat) + a) ≤ b := by (subst_vars; simp; done)
theorem r301 {a b : Nat} (h1 : (-((a : Nat) : Int)) = (-((b : Nat) : Int))) : a = b := by lia
theorem r302 {a b c : Nat} (h1 : c < (a + b)) : ((a + b) - (1 : Nat)) < (a + b) := Nat.lt_of_not_le fun q1 => le_e (a + b) 1 (fun q2 => cert [c, a, b, ((a + b) - 1)] [(1, (.a (.v 0) (.n 1)), (.a (.v 1) (.v 2))), (1, (.a (.v 1) (.v 2)), (.v 3)), (1, (.v 3), (.n 0))] rfl h1 q1 (@sub_d (a + b) 1 q2)) (fun q2 => cert [a, b, ((a + b) - 1)] [(1, (.a (.v 0) (.v 1)), (.v 2)), (1, (.a (.v 2) (.n 1)), (.a (.v 0) (.v 1)))] rfl q1 (@sub_c (a + b) 1 q2))
theorem r303 {a b c : Nat} (h1 : ((max (0 : Nat) a) + (1 : Nat)) ≤ c) : (a - b) ≤ c := Nat.le_of_not_lt fun q1 => cert [(max 0 a), c, (a - b), a] [(1, (.a (.v 0) (.n 1)), (.v 1)), (1, (.a (.v 1) (.n 1)), (.v 2)), (1, (.v 3), (.v 0)), (1, (.v 2), (.v 3))] rfl h1 q1 (Nat.le_max_right 0 a) (Nat.sub_le a b)
theorem r304 {a : Nat} (h1 : ¬ (a = (0 : Nat))) (h2 : ¬ (a = (1 : Nat))) : (1 : Nat) < a := Nat.lt_of_not_le fun q1 => ne_e h1 (fun q4 => cert [a] [(1, (.a (.v 0) (.n 1)), (.n 0))] rfl q4) (fun q4 => ne_e h2 (fun q5 => cert [a] [(1, (.a (.n 0) (.n 1)), (.v 0)), (1, (.a (.v 0) (.n 1)), (.n 1))] rfl q4 q5) (fun q5 => cert [a] [(1, (.v 0), (.n 1)), (1, (.a (.n 1) (.n 1)), (.v 0))] rfl q1 q5))
theorem r307 {a b : Nat} (h1 : ¬ (b ≤ a)) : (((a + b) / (2 : Nat)) + (1 : Nat)) ≤ b := Nat.le_of_not_lt fun q1 => cert [a, b, ((a + b) / 2)] [(1, (.a (.v 0) (.n 1)), (.v 1)), (2, (.a (.v 1) (.n 1)), (.a (.v 2) (.n 1))), (1, (.m 2 (.v 2)), (.a (.v 0) (.v 1)))] rfl (Nat.lt_of_not_le h1) q1 (@div_a (a + b) 2)
theorem r308 {a b c d : Nat} (h1 : a ≤ (b + c)) : a ≤ (b + ((c + (1 : Nat)) + d)) := Nat.le_of_not_lt fun q1 => cert [a, b, c, d] [(1, (.v 0), (.a (.v 1) (.v 2))), (1, (.a (.a (.v 1) (.a (.a (.v 2) (.n 1)) (.v 3))) (.n 1)), (.v 0))] rfl h1 q1
theorem r309 {a b c d : Nat} (h1 : ((a + b) + (d + (1 : Nat))) ≤ c) : (a + b) < c := Nat.lt_of_not_le fun q1 => cert [a, b, d, c] [(1, (.a (.a (.v 0) (.v 1)) (.a (.v 2) (.n 1))), (.v 3)), (1, (.v 3), (.a (.v 0) (.v 1)))] rfl h1 q1
theorem r310 {a b : Nat} (h1 : b < (4 : Nat)) (h2 : a = b) : (a + (1 : Nat)) ≤ (4 : Nat) := Nat.le_of_not_lt fun q1 => cert [b, a] [(1, (.a (.v 0) (.n 1)), (.n 4)), (1, (.v 1), (.v 0)), (1, (.a (.n 4) (.n 1)), (.a (.v 1) (.n 1)))] rfl h1 (Nat.le_of_eq h2) q1
theorem r311 {a b : Nat} (h1 : a < b) (h2 : b < (4 : Nat)) : (a + (1 : Nat)) ≤ (4 : Nat) := Nat.le_trans h1 (Nat.le_of_lt h2)
theorem r312 {a b c d e : Nat} (h1 : b < e) (h2 : (a + e) ≤ d) : (a + (b - c)) < d := Nat.lt_of_not_le fun q1 => cert [b, e, a, d, (b - c)] [(1, (.a (.v 0) (.n 1)), (.v 1)), (1, (.a (.v 2) (.v 1)), (.v 3)), (1, (.v 3), (.a (.v 2) (.v 4))), (1, (.v 4), (.v 0))] rfl h1 h2 q1 (Nat.sub_le b c)
theorem r315 {a b c d : Nat} (h1 : a = (b - c)) (h2 : ¬ ((b - c) ≤ d)) : (0 : Nat) < a := Nat.lt_of_not_le fun q1 => cert [(b - c), a, d] [(1, (.v 0), (.v 1)), (1, (.a (.v 2) (.n 1)), (.v 0)), (1, (.v 1), (.n 0))] rfl (eq_b h1) (Nat.lt_of_not_le h2) q1
theorem r316 {a b : Nat} (h1 : a ≤ ((2 : Nat) * b)) (h2 : b ≤ (43 : Nat)) : a ≤ (86 : Nat) := Nat.le_of_not_lt fun q1 => cert [a, b] [(1, (.v 0), (.m 2 (.v 1))), (2, (.v 1), (.n 43)), (1, (.a (.n 86) (.n 1)), (.v 0))] rfl h1 h2 q1
theorem r318 {a b c : Nat} (h1 : a ≤ (b + c)) (h2 : ¬ (a = (b + c))) : a < (b + c) := Nat.lt_of_not_le fun q1 => ne_e h2 (fun q2 => cert [b, c, a] [(1, (.a (.v 0) (.v 1)), (.v 2)), (1, (.a (.v 2) (.n 1)), (.a (.v 0) (.v 1)))] rfl q1 q2) (fun q2 => cert [a, b, c] [(1, (.v 0), (.a (.v 1) (.v 2))), (1, (.a (.a (.v 1) (.v 2)) (.n 1)), (.v 0))] rfl h1 q2)
theorem r319 {a b c : Nat} (h1 : c ≤ b) (h2 : a ≤ (c + (1 : Nat))) : a ≤ (b + (1 : Nat)) := Nat.le_trans h2 (Nat.lt_succ_of_le h1)
theorem r321 {a b : Nat} (h1 : b < a) : (a - b) = (((a - b) - (1 : Nat)) + (1 : Nat)) := Nat.le_antisymm (Nat.le_of_not_lt fun q1 => cert [((a - b) - 1), (a - b)] [(1, (.a (.a (.v 0) (.n 1)) (.n 1)), (.v 1)), (1, (.v 1), (.a (.v 0) (.n 1)))] rfl q1 (@sub_a (a - b) 1)) (Nat.le_of_not_lt fun q2 => le_e (a - b) 1 (fun q4 => cert [b, a, (a - b), ((a - b) - 1)] [(1, (.a (.v 0) (.n 1)), (.v 1)), (1, (.a (.v 2) (.n 1)), (.a (.v 3) (.n 1))), (1, (.v 3), (.n 0)), (1, (.v 1), (.a (.v 2) (.v 0)))] rfl h1 q2 (@sub_d (a - b) 1 q4) (@sub_a a b)) (fun q4 => cert [(a - b), ((a - b) - 1)] [(1, (.a (.v 0) (.n 1)), (.a (.v 1) (.n 1))), (1, (.a (.v 1) (.n 1)), (.v 0))] rfl q2 (@sub_c (a - b) 1 q4)))
theorem r322 {a b c : Nat} (h1 : b < (c + (1 : Nat))) (h2 : a ≤ b) (h3 : c ≤ a) : a = b := Nat.le_antisymm (Nat.le_of_not_lt fun q1 => cert [a, b] [(1, (.v 0), (.v 1)), (1, (.a (.v 1) (.n 1)), (.v 0))] rfl h2 q1) (Nat.le_of_not_lt fun q2 => cert [b, c, a] [(1, (.a (.v 0) (.n 1)), (.a (.v 1) (.n 1))), (1, (.v 1), (.v 2)), (1, (.a (.v 2) (.n 1)), (.v 0))] rfl h1 h3 q2)
theorem r323 {a b : Nat} (h1 : a < b) : ((a + ((b - a) / (2 : Nat))) + (1 : Nat)) ≤ b := Nat.le_of_not_lt fun q1 => cert [a, b, ((b - a) / 2), (b - a)] [(1, (.a (.v 0) (.n 1)), (.v 1)), (2, (.a (.v 1) (.n 1)), (.a (.a (.v 0) (.v 2)) (.n 1))), (1, (.a (.v 3) (.v 0)), (.v 1)), (1, (.m 2 (.v 2)), (.v 3))] rfl h1 q1 (@sub_c b a (Nat.le_of_lt h1)) (@div_a (b - a) 2)
theorem r324 {a b : Nat} (h1 : a ≤ (43 : Nat)) (h2 : b ≤ (43 : Nat)) : (a + b) < (128 : Nat) := Nat.lt_of_not_le fun q1 => cert [a, b] [(1, (.v 0), (.n 43)), (1, (.v 1), (.n 43)), (1, (.n 128), (.a (.v 0) (.v 1)))] rfl h1 h2 q1
theorem r326 {a b c d : Nat} (h1 : c = d) (h2 : b = (d + (1 : Nat))) (h3 : a ≤ c) : a ≤ b := Nat.le_of_not_lt fun q1 => cert [c, d, b, a] [(1, (.v 0), (.v 1)), (1, (.a (.v 1) (.n 1)), (.v 2)), (1, (.v 3), (.v 0)), (1, (.a (.v 2) (.n 1)), (.v 3))] rfl (Nat.le_of_eq h1) (eq_b h2) h3 q1
theorem r327 {a b c d : Nat} (h1 : c = d) (h2 : b = (d + (1 : Nat))) (h3 : a ≤ c) : a < b := Nat.lt_of_not_le fun q1 => cert [c, d, b, a] [(1, (.v 0), (.v 1)), (1, (.a (.v 1) (.n 1)), (.v 2)), (1, (.v 3), (.v 0)), (1, (.v 2), (.v 3))] rfl (Nat.le_of_eq h1) (eq_b h2) h3 q1
theorem r328 {a b c : Nat} (h1 : a < b) (h2 : b ≤ c) : (a + ((b - a) / (2 : Nat))) < c := Nat.lt_of_not_le fun q1 => cert [a, b, c, ((b - a) / 2), (b - a)] [(1, (.a (.v 0) (.n 1)), (.v 1)), (2, (.v 1), (.v 2)), (2, (.v 2), (.a (.v 0) (.v 3))), (1, (.a (.v 4) (.v 0)), (.v 1)), (1, (.m 2 (.v 3)), (.v 4))] rfl h1 h2 q1 (@sub_c b a (Nat.le_of_lt h1)) (@div_a (b - a) 2)
theorem r329 {a b c d : Nat} (h1 : b = c) (h2 : (a + d) = c) (h3 : (0 : Nat) < d) : a < b := Nat.lt_of_not_le fun q1 => cert [c, b, a, d] [(1, (.v 0), (.v 1)), (1, (.a (.v 2) (.v 3)), (.v 0)), (1, (.a (.n 0) (.n 1)), (.v 3)), (1, (.v 1), (.v 2))] rfl (eq_b h1) (Nat.le_of_eq h2) h3 q1
theorem r330 {a : Nat} : ((((a + (1 : Nat)) : Nat) : Int) - (1 : Int)) = ((a : Nat) : Int) := by (simp at *; done)
theorem r331 {a : Nat} : ¬ ((a + (1 : Nat)) = (((a + (1 : Nat)) + (1 : Nat)) + (1 : Nat))) := Nat.ne_of_lt (Nat.le_trans (Nat.le_refl (a + 1).succ) (Nat.le_add_right (a + 1).succ 1))
theorem r332 {a b c d : Nat} (h1 : b < d) (h2 : a = (c + (1 : Nat))) : (a + b) ≤ (c + d) := Nat.le_of_not_lt fun q1 => cert [b, d, a, c] [(1, (.a (.v 0) (.n 1)), (.v 1)), (1, (.v 2), (.a (.v 3) (.n 1))), (1, (.a (.a (.v 3) (.v 1)) (.n 1)), (.a (.v 2) (.v 0)))] rfl h1 (Nat.le_of_eq h2) q1
theorem r333 {a b c : Nat} (h1 : b < c) (h2 : a ≤ b) (h3 : c ≤ (43 : Nat)) : a ≤ (1000 : Nat) := Nat.le_of_not_lt fun q1 => cert [b, c, a] [(1, (.a (.v 0) (.n 1)), (.v 1)), (1, (.v 2), (.v 0)), (1, (.v 1), (.n 43)), (1, (.a (.n 1000) (.n 1)), (.v 2))] rfl h1 h2 h3 q1
theorem r334 {a b c : Nat} (h1 : c < (a + b)) : a ≤ (((a + (a + b)) - (1 : Nat)) - c) := Nat.le_of_not_lt fun q1 => cert [c, a, b, (((a + (a + b)) - 1) - c), ((a + (a + b)) - 1)] [(1, (.a (.v 0) (.n 1)), (.a (.v 1) (.v 2))), (1, (.a (.v 3) (.n 1)), (.v 1)), (1, (.a (.v 1) (.a (.v 1) (.v 2))), (.a (.v 4) (.n 1))), (1, (.v 4), (.a (.v 3) (.v 0)))] rfl h1 q1 (@sub_a (a + (a + b)) 1) (@sub_a ((a + (a + b)) - 1) c)
theorem r335 {a : Nat} (h1 : (1 : Nat) < a) : ((a - (1 : Nat)) - (1 : Nat)) < (a - (1 : Nat)) := Nat.lt_of_not_le fun q1 => le_e (a - 1) 1 (fun q3 => cert [a, (a - 1), ((a - 1) - 1)] [(1, (.a (.n 1) (.n 1)), (.v 0)), (1, (.v 1), (.v 2)), (1, (.v 2), (.n 0)), (1, (.v 0), (.a (.v 1) (.n 1)))] rfl h1 q1 (@sub_d (a - 1) 1 q3) (@sub_a a 1)) (fun q3 => cert [(a - 1), ((a - 1) - 1)] [(1, (.v 0), (.v 1)), (1, (.a (.v 1) (.n 1)), (.v 0))] rfl q1 (@sub_c (a - 1) 1 q3))
theorem r336 {a b c : Nat} : (((a + b) + (1 : Nat)) + c) = ((a + b) + (c + (1 : Nat))) := by lia
theorem r337 {a b c : Nat} (h1 : a = (b - c)) (h2 : ¬ ((b - c) = (0 : Nat))) : (0 : Nat) < a := Nat.lt_of_not_le fun q1 => ne_e h2 (fun q2 => cert [(b - c)] [(1, (.a (.v 0) (.n 1)), (.n 0))] rfl q2) (fun q2 => cert [(b - c), a] [(1, (.v 0), (.v 1)), (1, (.v 1), (.n 0)), (1, (.a (.n 0) (.n 1)), (.v 0))] rfl (eq_b h1) q1 q2)
theorem r338 {a b : Nat} (h1 : b < (2 : Nat)) (h2 : b = a) : a ≤ ((16777216 : Nat) + (1 : Nat)) := by lia
theorem r340 {a b c : Nat} (h1 : ((((2 : Nat) * a) + b) + c) ≤ (900 : Nat)) : a ≤ (1000 : Nat) := Nat.le_of_not_lt fun q1 => cert [a, b, c] [(1, (.a (.a (.m 2 (.v 0)) (.v 1)) (.v 2)), (.n 900)), (2, (.a (.n 1000) (.n 1)), (.v 0))] rfl h1 q1
theorem r341 {a b c : Nat} (h1 : ((((2 : Nat) * b) + c) + a) ≤ (900 : Nat)) : a ≤ (1000 : Nat) := Nat.le_of_not_lt fun q1 => cert [b, c, a] [(1, (.a (.a (.m 2 (.v 0)) (.v 1)) (.v 2)), (.n 900)), (1, (.a (.n 1000) (.n 1)), (.v 2))] rfl h1 q1
theorem r342 {a b : Nat} (h1 : (a + (4000 : Nat)) < b) : ((a + (3 : Nat)) + (3000 : Nat)) < b := Nat.lt_of_not_le fun q1 => cert [a, b] [(1, (.a (.a (.v 0) (.n 4000)) (.n 1)), (.v 1)), (1, (.v 1), (.a (.a (.v 0) (.n 3)) (.n 3000)))] rfl h1 q1
theorem r343 {a b : Nat} (h1 : (a - b) = (0 : Nat)) (h2 : (0 : Nat) < a) : (a - (1 : Nat)) < b := Nat.lt_of_not_le fun q1 => cert [(a - b), b, (a - 1), a] [(1, (.v 0), (.n 0)), (1, (.v 1), (.v 2)), (1, (.v 3), (.a (.v 0) (.v 1))), (1, (.a (.v 2) (.n 1)), (.v 3))] rfl (Nat.le_of_eq h1) q1 (@sub_a a b) (@sub_c a 1 h2)
theorem r344 {a : Nat} (h1 : a ≤ (1000 : Nat)) : ((a + (1 : Nat)) + (1 : Nat)) ≤ (16777216 : Nat) := Nat.le_of_not_lt fun q1 => cert [a] [(1, (.v 0), (.n 1000)), (1, (.a (.n 16777216) (.n 1)), (.a (.a (.v 0) (.n 1)) (.n 1)))] rfl h1 q1
theorem r345 {a : Nat} (h1 : a ≤ (1000 : Nat)) : (a + (1 : Nat)) ≤ ((16777216 : Nat) + (1 : Nat)) := by (first | exact Nat.le_trans h1 (by decide) | exact Nat.lt_of_le_of_lt h1 (by decide) | exact Nat.lt_of_lt_of_le h1 (by decide) | decide | exact absurd h1 (by decide))
theorem r348 {a : Nat} (h1 : (1 : Nat) ≤ a) (h2 : ¬ ((1 : Nat) = a)) : ((1 : Nat) + (1 : Nat)) ≤ a := Nat.le_of_not_lt fun q1 => ne_e h2 (fun q2 => cert [a] [(1, (.a (.v 0) (.n 1)), (.a (.n 1) (.n 1))), (1, (.a (.n 1) (.n 1)), (.v 0))] rfl q1 q2) (fun q2 => cert [a] [(1, (.n 1), (.v 0)), (1, (.a (.v 0) (.n 1)), (.n 1))] rfl h1 q2)
theorem r350 {a b c d e : Nat} (h1 : (b + c) < e) (h2 : (a + e) ≤ d) : (a + (b + c)) < d := Nat.lt_of_not_le fun q1 => cert [b, c, e, a, d] [(1, (.a (.a (.v 0) (.v 1)) (.n 1)), (.v 2)), (1, (.a (.v 3) (.v 2)), (.v 4)), (1, (.v 4), (.a (.v 3) (.a (.v 0) (.v 1))))] rfl h1 h2 q1
theorem r351 {a b c : Nat} (h1 : ((a = (1 : Nat)) ∨ (b = c))) (h2 : ¬ (c ≤ b)) : a = (1 : Nat) := Nat.le_antisymm (Nat.le_of_not_lt fun q1 => Or.elim h1 (fun q2 => cert [a] [(1, (.a (.n 1) (.n 1)), (.v 0)), (1, (.v 0), (.n 1))] rfl q1 (Nat.le_of_eq q2)) (fun q2 => cert [b, c] [(1, (.a (.v 0) (.n 1)), (.v 1)), (1, (.v 1), (.v 0))] rfl (Nat.lt_of_not_le h2) (eq_b q2))) (Nat.le_of_not_lt fun q3 => Or.elim h1 (fun q4 => cert [a] [(1, (.a (.v 0) (.n 1)), (.n 1)), (1, (.n 1), (.v 0))] rfl q3 (eq_b q4)) (fun q4 => cert [b, c] [(1, (.a (.v 0) (.n 1)), (.v 1)), (1, (.v 1), (.v 0))] rfl (Nat.lt_of_not_le h2) (eq_b q4)))
theorem r352 {a : Nat} (h1 : ¬ ((((63 : Nat) : Nat) : Int) < ((a : Nat) : Int))) : a ≤ (63 : Nat) := by lia
theorem r353 {a b c d : Nat} (h1 : c < d) (h2 : (a + (min b (d - a))) ≤ c) : (a + b) ≤ c := Nat.le_of_not_lt fun q1 => le_e b (d - a) (fun q3 => cert [a, (min b (d - a)), c, b] [(1, (.a (.v 0) (.v 1)), (.v 2)), (1, (.a (.v 2) (.n 1)), (.a (.v 0) (.v 3))), (1, (.v 3), (.v 1))] rfl h2 q1 (@min_c b (d - a) q3)) (fun q3 => cert [c, d, a, (min b (d - a)), (d - a)] [(1, (.a (.v 0) (.n 1)), (.v 1)), (1, (.a (.v 2) (.v 3)), (.v 0)), (1, (.v 4), (.v 3)), (1, (.v 1), (.a (.v 4) (.v 2)))] rfl h1 h2 (@min_d b (d - a) q3) (@sub_a d a))
theorem r354 {a b c : Nat} (h1 : b = a) (h2 : c = b) (h3 : c ≤ (43 : Nat)) : a ≤ (16777216 : Nat) := by lia
theorem r355 {a b : Nat} (h1 : a ≤ (200 : Nat)) (h2 : b ≤ (200 : Nat)) : (a + b) ≤ (16777216 : Nat) := Nat.le_of_not_lt fun q1 => cert [a, b] [(1, (.v 0), (.n 200)), (1, (.v 1), (.n 200)), (1, (.a (.n 16777216) (.n 1)), (.a (.v 0) (.v 1)))] rfl h1 h2 q1
theorem r356 {a b c d e : Nat} (h1 : b = d) (h2 : (a + e) = d) : ((min a b) - c) = (a - c) := by (subst_vars; simp; done)
theorem r357 {a b c : Nat} (h1 : ¬ ((b - a) = (0 : Nat))) : (a + ((b - a) + c)) = (b + c) := Nat.le_antisymm (Nat.le_of_not_lt fun q1 => ne_e h1 (fun q4 => cert [(b - a)] [(1, (.a (.v 0) (.n 1)), (.n 0))] rfl q4) (fun q4 => le_e b a (fun q5 => cert [(b - a)] [(1, (.a (.n 0) (.n 1)), (.v 0)), (1, (.v 0), (.n 0))] rfl q4 (@sub_d b a q5)) (fun q5 => cert [b, c, a, (b - a)] [(1, (.a (.a (.v 0) (.v 1)) (.n 1)), (.a (.v 2) (.a (.v 3) (.v 1)))), (1, (.a (.v 3) (.v 2)), (.v 0))] rfl q1 (@sub_c b a q5)))) (Nat.le_of_not_lt fun q6 => cert [a, (b - a), c, b] [(1, (.a (.a (.v 0) (.a (.v 1) (.v 2))) (.n 1)), (.a (.v 3) (.v 2))), (1, (.v 3), (.a (.v 1) (.v 0)))] rfl q6 (@sub_a b a))
theorem r358 {a b c : Nat} (h1 : ((((2 : Nat) * b) + a) + c) ≤ (900 : Nat)) : a ≤ (16777216 : Nat) := Nat.le_of_not_lt fun q1 => cert [b, a, c] [(1, (.a (.a (.m 2 (.v 0)) (.v 1)) (.v 2)), (.n 900)), (1, (.a (.n 16777216) (.n 1)), (.v 1))] rfl h1 q1
theorem r361 {a b c : Nat} (h1 : c < b) : ((a + (1 : Nat)) - (min b (a + (1 : Nat)))) ≤ (a - c) := Nat.le_of_not_lt fun q1 => le_e b (a + 1) (fun q8 => le_e (a + 1) (min b (a + 1)) (fun q10 => cert [(a - c), ((a + 1) - (min b (a + 1)))] [(1, (.a (.v 0) (.n 1)), (.v 1)), (1, (.v 1), (.n 0))] rfl q1 (@sub_d (a + 1) (min b (a + 1)) q10)) (fun q10 => cert [c, b, (a - c), ((a + 1) - (min b (a + 1))), (min b (a + 1)), a] [(1, (.a (.v 0) (.n 1)), (.v 1)), (1, (.a (.v 2) (.n 1)), (.v 3)), (1, (.v 1), (.v 4)), (1, (.a (.v 3) (.v 4)), (.a (.v 5) (.n 1))), (1, (.v 5), (.a (.v 2) (.v 0)))] rfl h1 q1 (@min_c b (a + 1) q8) (@sub_c (a + 1) (min b (a + 1)) q10) (@sub_a a c))) (fun q8 => le_e (a + 1) (min b (a + 1)) (fun q12 => cert [(a - c), ((a + 1) - (min b (a + 1)))] [(1, (.a (.v 0) (.n 1)), (.v 1)), (1, (.v 1), (.n 0))] rfl q1 (@sub_d (a + 1) (min b (a + 1)) q12)) (fun q12 => cert [(a - c), ((a + 1) - (min b (a + 1))), a, (min b (a + 1))] [(1, (.a (.v 0) (.n 1)), (.v 1)), (1, (.a (.v 2) (.n 1)), (.v 3)), (1, (.a (.v 1) (.v 3)), (.a (.v 2) (.n 1)))] rfl q1 (@min_d b (a + 1) q8) (@sub_c (a + 1) (min b (a + 1)) q12)))
theorem r362 {a b c : Nat} (h1 : a < ((b + (1 : Nat)) - (min c (b + (1 : Nat))))) : a ≤ (b - c) := Nat.le_of_not_lt fun q1 => le_e c (b + 1) (fun q5 => le_e (b + 1) (min c (b + 1)) (fun q6 => cert [a, ((b + 1) - (min c (b + 1))), (b - c)] [(1, (.a (.v 0) (.n 1)), (.v 1)), (1, (.a (.v 2) (.n 1)), (.v 0)), (1, (.v 1), (.n 0))] rfl h1 q1 (@sub_d (b + 1) (min c (b + 1)) q6)) (fun q6 => cert [a, ((b + 1) - (min c (b + 1))), (b - c), c, (min c (b + 1)), b] [(1, (.a (.v 0) (.n 1)), (.v 1)), (1, (.a (.v 2) (.n 1)), (.v 0)), (1, (.v 3), (.v 4)), (1, (.a (.v 1) (.v 4)), (.a (.v 5) (.n 1))), (1, (.v 5), (.a (.v 2) (.v 3)))] rfl h1 q1 (@min_c c (b + 1) q5) (@sub_c (b + 1) (min c (b + 1)) q6) (@sub_a b c))) (fun q5 => le_e (b + 1) (min c (b + 1)) (fun q7 => cert [a, ((b + 1) - (min c (b + 1))), (b - c)] [(1, (.a (.v 0) (.n 1)), (.v 1)), (1, (.a (.v 2) (.n 1)), (.v 0)), (1, (.v 1), (.n 0))] rfl h1 q1 (@sub_d (b + 1) (min c (b + 1)) q7)) (fun q7 => cert [a, ((b + 1) - (min c (b + 1))), (b - c), b, (min c (b + 1))] [(1, (.a (.v 0) (.n 1)), (.v 1)), (1, (.a (.v 2) (.n 1)), (.v 0)), (1, (.a (.v 3) (.n 1)), (.v 4)), (1, (.a (.v 1) (.v 4)), (.a (.v 3) (.n 1)))] rfl h1 q1 (@min_d c (b + 1) q5) (@sub_c (b + 1) (min c (b + 1)) q7)))
theorem r363 {a : Int} (h1 : a < (2 : Int)) (h2 : (0 : Int) ≤ a) : ((a = (0 : Int)) ∨ (a = (1 : Int))) := by lia
theorem r364 {a : Nat} (h1 : a ≤ (60 : Nat)) : ((0 : Nat) + (((2 : Nat) * a) + (0 : Nat))) ≤ (900 : Nat) := Nat.le_of_not_lt fun q1 => cert [a] [(2, (.v 0), (.n 60)), (1, (.a (.n 900) (.n 1)), (.a (.n 0) (.a (.m 2 (.v 0)) (.n 0))))] rfl h1 q1
theorem r365 {a b : Nat} (h1 : (a + (1 : Nat)) ≤ b) : ((a + (1 : Nat)) + (1 : Nat)) ≤ (b + (1 : Nat)) := by (simp [*] at *; done)
theorem r366 {a b c d : Nat} (h1 : d ≤ (b - a)) (h2 : (1 : Nat) ≤ d) : (a + (min (b - a) c)) ≤ b := Nat.le_of_not_lt fun q1 => le_e b a (fun q2 => cert [d, (b - a)] [(1, (.v 0), (.v 1)), (1, (.n 1), (.v 0)), (1, (.v 1), (.n 0))] rfl h1 h2 (@sub_d b a q2)) (fun q2 => cert [b, a, (min (b - a) c), (b - a)] [(1, (.a (.v 0) (.n 1)), (.a (.v 1) (.v 2))), (1, (.a (.v 3) (.v 1)), (.v 0)), (1, (.v 2), (.v 3))] rfl q1 (@sub_c b a q2) (Nat.min_le_left (b - a) c))
theorem r367 {a b c : Nat} (h1 : c ≤ (43 : Nat)) (h2 : a ≤ (86 : Nat)) : (a + (min b c)) ≤ (1000 : Nat) := Nat.le_of_not_lt fun q1 => cert [c, a, (min b c)] [(1, (.v 0), (.n 43)), (1, (.v 1), (.n 86)), (1, (.a (.n 1000) (.n 1)), (.a (.v 1) (.v 2))), (1, (.v 2), (.v 0))] rfl h1 h2 q1 (Nat.min_le_right b c)
theorem r370 {a b c : Nat} (h1 : a < (b + (c + (1 : Nat)))) (h2 : ¬ (a = (b + c))) : a < (b + c) := Nat.lt_of_not_le fun q1 => ne_e h2 (fun q2 => cert [b, c, a] [(1, (.a (.v 0) (.v 1)), (.v 2)), (1, (.a (.v 2) (.n 1)), (.a (.v 0) (.v 1)))] rfl q1 q2) (fun q2 => cert [a, b, c] [(1, (.a (.v 0) (.n 1)), (.a (.v 1) (.a (.v 2) (.n 1)))), (1, (.a (.a (.v 1) (.v 2)) (.n 1)), (.v 0))] rfl h1 q2)
theorem r372 {a b : Nat} (h1 : (b + (1 : Nat)) ≤ a) : (a - b) = ((a - (b + (1 : Nat))) + (1 : Nat)) := Nat.le_antisymm (Nat.le_of_not_lt fun q1 => cert [(a - (b + 1)), (a - b), a, b] [(1, (.a (.a (.v 0) (.n 1)) (.n 1)), (.v 1)), (1, (.v 2), (.a (.v 0) (.a (.v 3) (.n 1)))), (1, (.a (.v 1) (.v 3)), (.v 2))] rfl q1 (@sub_a a (b + 1)) (@sub_c a b (Nat.le_of_lt h1))) (Nat.le_of_not_lt fun q2 => cert [(a - b), (a - (b + 1)), a, b] [(1, (.a (.v 0) (.n 1)), (.a (.v 1) (.n 1))), (1, (.v 2), (.a (.v 0) (.v 3))), (1, (.a (.v 1) (.a (.v 3) (.n 1))), (.v 2))] rfl q2 (@sub_a a b) (@sub_c a (b + 1) h1))
theorem r375 {a b c d : Nat} (h1 : c ≤ d) (h2 : ¬ (c ≤ b)) : (a + ((b + c) / (2 : Nat))) < (a + d) := Nat.lt_of_not_le fun q1 => cert [c, d, b, a, ((b + c) / 2)] [(2, (.v 0), (.v 1)), (1, (.a (.v 2) (.n 1)), (.v 0)), (2, (.a (.v 3) (.v 1)), (.a (.v 3) (.v 4))), (1, (.m 2 (.v 4)), (.a (.v 2) (.v 0)))] rfl h1 (Nat.lt_of_not_le h2) q1 (@div_a (b + c) 2)
theorem r376 {a b c : Nat} (h1 : a < b) (h2 : c ≤ a) (h3 : (c + (1 : Nat)) = b) : a = (b - (1 : Nat)) := Nat.le_antisymm (Nat.le_of_not_lt fun q1 => cert [a, b, (b - 1)] [(1, (.a (.v 0) (.n 1)), (.v 1)), (1, (.a (.v 2) (.n 1)), (.v 0)), (1, (.v 1), (.a (.v 2) (.n 1)))] rfl h1 q1 (@sub_a b 1)) (Nat.le_of_not_lt fun q2 => le_e b 1 (fun q3 => cert [a, (b - 1)] [(1, (.a (.v 0) (.n 1)), (.v 1)), (1, (.v 1), (.n 0))] rfl q2 (@sub_d b 1 q3)) (fun q3 => cert [c, a, b, (b - 1)] [(1, (.v 0), (.v 1)), (1, (.v 2), (.a (.v 0) (.n 1))), (1, (.a (.v 1) (.n 1)), (.v 3)), (1, (.a (.v 3) (.n 1)), (.v 2))] rfl h2 (eq_b h3) q2 (@sub_c b 1 q3)))
theorem r379 {a b c : Nat} (h1 : a < c) (h2 : ((max (0 : Nat) c) + (1 : Nat)) ≤ b) : (a + (1 : Nat)) ≤ b := Nat.le_trans h1 (Nat.le_of_lt h2)
theorem r380 {a b c d : Nat} (h1 : b = c) (h2 : (a + d) = c) (h3 : (0 : Nat) < d) : (a - (1 : Nat)) < b := Nat.lt_of_not_le fun q1 => cert [c, b, a, d, (a - 1)] [(1, (.v 0), (.v 1)), (1, (.a (.v 2) (.v 3)), (.v 0)), (1, (.a (.n 0) (.n 1)), (.v 3)), (1, (.v 1), (.v 4)), (1, (.v 4), (.v 2))] rfl (eq_b h1) (Nat.le_of_eq h2) h3 q1 (Nat.sub_le a 1)
theorem r381 {a : Nat} : ¬ ((a + (1 : Nat)) = ((((a + (1 : Nat)) + (1 : Nat)) + (1 : Nat)) + (1 : Nat))) := by (subst_vars; simp; done)
theorem r382 {a : Nat} : ¬ (((a + (1 : Nat)) + (1 : Nat)) = (((a + (1 : Nat)) + (1 : Nat)) + (1 : Nat))) := Nat.ne_of_lt (Nat.le_trans (Nat.le_refl (a + 1 + 1).succ) (Nat.le_refl (a + 1 + 1).succ))
theorem r383 {a b c : Nat} (h1 : a ≤ b) (h2 : b ≤ ((2 : Nat) * c)) (h3 : c ≤ (43 : Nat)) : a ≤ (700 : Nat) := Nat.le_of_not_lt fun q1 => cert [a, b, c] [(1, (.v 0), (.v 1)), (1, (.v 1), (.m 2 (.v 2))), (2, (.v 2), (.n 43)), (1, (.a (.n 700) (.n 1)), (.v 0))] rfl h1 h2 h3 q1
theorem r386 {a b c d : Nat} (h1 : c = d) (h2 : (((2 : Nat) * c) + a) = (((2 : Nat) * d) + b)) : a = b := Nat.le_antisymm (Nat.le_of_not_lt fun q1 => cert [d, c, a, b] [(2, (.v 0), (.v 1)), (1, (.a (.m 2 (.v 1)) (.v 2)), (.a (.m 2 (.v 0)) (.v 3))), (1, (.a (.v 3) (.n 1)), (.v 2))] rfl (eq_b h1) (Nat.le_of_eq h2) q1) (Nat.le_of_not_lt fun q2 => cert [c, d, b, a] [(2, (.v 0), (.v 1)), (1, (.a (.m 2 (.v 1)) (.v 2)), (.a (.m 2 (.v 0)) (.v 3))), (1, (.a (.v 3) (.n 1)), (.v 2))] rfl (Nat.le_of_eq h1) (eq_b h2) q2)
theorem r387 {a b : Nat} (h1 : b < a) (h2 : ¬ ((b + (1 : Nat)) = a)) : (0 : Nat) < (a - (b + (1 : Nat))) := Nat.lt_of_not_le fun q1 => ne_e h2 (fun q2 => cert [(a - (b + 1)), b, a] [(1, (.v 0), (.n 0)), (1, (.a (.a (.v 1) (.n 1)) (.n 1)), (.v 2)), (1, (.v 2), (.a (.v 0) (.a (.v 1) (.n 1))))] rfl q1 q2 (@sub_a a (b + 1))) (fun q2 => cert [b, a] [(1, (.a (.v 0) (.n 1)), (.v 1)), (1, (.a (.v 1) (.n 1)), (.a (.v 0) (.n 1)))] rfl h1 q2)
theorem r388 {a b c d : Nat} (h1 : ((((max (0 : Nat) (a + b)) + (1 : Nat)) + c) + d) ≤ (a + b)) : False := cert [(max 0 (a + b)), c, d, a, b] [(1, (.a (.a (.a (.v 0) (.n 1)) (.v 1)) (.v 2)), (.a (.v 3) (.v 4))), (1, (.a (.v 3) (.v 4)), (.v 0))] rfl h1 (Nat.le_max_right 0 (a + b))
theorem r389 {a b c : Nat} (h1 : a ≤ c) : ((a + (b - a)) - (c + (1 : Nat))) = (b - (c + (1 : Nat))) := Nat.le_antisymm (Nat.le_of_not_lt fun q1 => le_e b a (fun q8 => le_e (a + (b - a)) (c + 1) (fun q10 => cert [(b - (c + 1)), ((a + (b - a)) - (c + 1))] [(1, (.a (.v 0) (.n 1)), (.v 1)), (1, (.v 1), (.n 0))] rfl q1 (@sub_d (a + (b - a)) (c + 1) q10)) (fun q10 => cert [a, c, (b - (c + 1)), ((a + (b - a)) - (c + 1)), (b - a)] [(1, (.v 0), (.v 1)), (1, (.a (.v 2) (.n 1)), (.v 3)), (1, (.v 4), (.n 0)), (1, (.a (.v 3) (.a (.v 1) (.n 1))), (.a (.v 0) (.v 4)))] rfl h1 q1 (@sub_d b a q8) (@sub_c (a + (b - a)) (c + 1) q10))) (fun q8 => le_e (a + (b - a)) (c + 1) (fun q12 => cert [(b - (c + 1)), ((a + (b - a)) - (c + 1))] [(1, (.a (.v 0) (.n 1)), (.v 1)), (1, (.v 1), (.n 0))] rfl q1 (@sub_d (a + (b - a)) (c + 1) q12)) (fun q12 => cert [(b - (c + 1)), ((a + (b - a)) - (c + 1)), (b - a), a, b, c] [(1, (.a (.v 0) (.n 1)), (.v 1)), (1, (.a (.v 2) (.v 3)), (.v 4)), (1, (.a (.v 1) (.a (.v 5) (.n 1))), (.a (.v 3) (.v 2))), (1, (.v 4), (.a (.v 0) (.a (.v 5) (.n 1))))] rfl q1 (@sub_c b a q8) (@sub_c (a + (b - a)) (c + 1) q12) (@sub_a b (c + 1))))) (Nat.le_of_not_lt fun q13 => le_e b (c + 1) (fun q16 => cert [((a + (b - a)) - (c + 1)), (b - (c + 1))] [(1, (.a (.v 0) (.n 1)), (.v 1)), (1, (.v 1), (.n 0))] rfl q13 (@sub_d b (c + 1) q16)) (fun q16 => cert [((a + (b - a)) - (c + 1)), (b - (c + 1)), c, b, (b - a), a] [(1, (.a (.v 0) (.n 1)), (.v 1)), (1, (.a (.v 1) (.a (.v 2) (.n 1))), (.v 3)), (1, (.v 3), (.a (.v 4) (.v 5))), (1, (.a (.v 5) (.v 4)), (.a (.v 0) (.a (.v 2) (.n 1))))] rfl q13 (@sub_c b (c + 1) q16) (@sub_a b a) (@sub_a (a + (b - a)) (c + 1))))
theorem r390 {a b c : Nat} (h1 : b < c) (h2 : (a + c) ≤ (900 : Nat)) : ((a + (1 : Nat)) + b) ≤ (900 : Nat) := Nat.le_of_not_lt fun q1 => cert [b, c, a] [(1, (.a (.v 0) (.n 1)), (.v 1)), (1, (.a (.v 2) (.v 1)), (.n 900)), (1, (.a (.n 900) (.n 1)), (.a (.a (.v 2) (.n 1)) (.v 0)))] rfl h1 h2 q1
theorem r391 {a b c d : Nat} (h1 : a < b) (h2 : (c + (min d (b - c))) ≤ a) (h3 : (b - c) ≤ d) : False := le_e d (b - c) (fun q2 => cert [a, b, c, (min d (b - c)), (b - c), d] [(1, (.a (.v 0) (.n 1)), (.v 1)), (1, (.a (.v 2) (.v 3)), (.v 0)), (1, (.v 4), (.v 5)), (1, (.v 5), (.v 3)), (1, (.v 1), (.a (.v 4) (.v 2)))] rfl h1 h2 h3 (@min_c d (b - c) q2) (@sub_a b c)) (fun q2 => cert [a, b, c, (min d (b - c)), (b - c)] [(1, (.a (.v 0) (.n 1)), (.v 1)), (1, (.a (.v 2) (.v 3)), (.v 0)), (1, (.v 4), (.v 3)), (1, (.v 1), (.a (.v 4) (.v 2)))] rfl h1 h2 (@min_d d (b - c) q2) (@sub_a b c))
theorem r392 {a b c d : Nat} (h1 : ((a + b) + (c + (1 : Nat))) ≤ d) : ((a + (b + (1 : Nat))) + c) ≤ d := Nat.le_of_not_lt fun q1 => cert [a, b, c, d] [(1, (.a (.a (.v 0) (.v 1)) (.a (.v 2) (.n 1))), (.v 3)), (1, (.a (.v 3) (.n 1)), (.a (.a (.v 0) (.a (.v 1) (.n 1))) (.v 2)))] rfl h1 q1
theorem r393 {a b : Nat} (h1 : ¬ ((b - a) = (0 : Nat))) : (a + ((b - a) - (1 : Nat))) = (b - (1 : Nat)) := Nat.le_antisymm (Nat.le_of_not_lt fun q1 => ne_e h1 (fun q6 => cert [(b - a)] [(1, (.a (.v 0) (.n 1)), (.n 0))] rfl q6) (fun q6 => le_e b a (fun q8 => cert [(b - a)] [(1, (.a (.n 0) (.n 1)), (.v 0)), (1, (.v 0), (.n 0))] rfl q6 (@sub_d b a q8)) (fun q8 => cert [(b - 1), a, ((b - a) - 1), (b - a), b] [(1, (.a (.v 0) (.n 1)), (.a (.v 1) (.v 2))), (1, (.a (.v 3) (.v 1)), (.v 4)), (1, (.v 4), (.a (.v 0) (.n 1))), (1, (.a (.v 2) (.n 1)), (.v 3))] rfl q1 (@sub_c b a q8) (@sub_a b 1) (@sub_c (b - a) 1 q6)))) (Nat.le_of_not_lt fun q9 => le_e b 1 (fun q13 => cert [a, ((b - a) - 1), (b - 1)] [(1, (.a (.a (.v 0) (.v 1)) (.n 1)), (.v 2)), (1, (.v 2), (.n 0))] rfl q9 (@sub_d b 1 q13)) (fun q13 => cert [a, ((b - a) - 1), (b - 1), b, (b - a)] [(1, (.a (.a (.v 0) (.v 1)) (.n 1)), (.v 2)), (1, (.a (.v 2) (.n 1)), (.v 3)), (1, (.v 3), (.a (.v 4) (.v 0))), (1, (.v 4), (.a (.v 1) (.n 1)))] rfl q9 (@sub_c b 1 q13) (@sub_a b a) (@sub_a (b - a) 1)))
theorem r394 {a b : Nat} (h1 : a < b) (h2 : b < (4 : Nat)) : (((a : Nat) : Int) + (2 : Int)) ≤ (1000000 : Int) := by lia
theorem r395 {a b c : Nat} (h1 : b = c) (h2 : c ≤ (43 : Nat)) (h3 : a ≤ (700 : Nat)) : (a + b) ≤ (1000 : Nat) := Nat.le_of_not_lt fun q1 => cert [b, c, a] [(1, (.v 0), (.v 1)), (1, (.v 1), (.n 43)), (1, (.v 2), (.n 700)), (1, (.a (.n 1000) (.n 1)), (.a (.v 2) (.v 0)))] rfl (Nat.le_of_eq h1) h2 h3 q1
theorem r400 {a b : Nat} (h1 : a ≤ (1000 : Nat)) (h2 : b ≤ (1000 : Nat)) : ((a + (1 : Nat)) + b) ≤ (2100 : Nat) := Nat.le_of_not_lt fun q1 => cert [a, b] [(1, (.v 0), (.n 1000)), (1, (.v 1), (.n 1000)), (1, (.a (.n 2100) (.n 1)), (.a (.a (.v 0) (.n 1)) (.v 1)))] rfl h1 h2 q1
theorem r401 {a : Nat} (h1 : (0 : Nat) < a) (h2 : ¬ (((0 : Nat) + (1 : Nat)) = a)) : ((0 : Nat) + (1 : Nat)) < a := Nat.lt_of_not_le fun q1 => ne_e h2 (fun q2 => cert [a] [(1, (.v 0), (.a (.n 0) (.n 1))), (1, (.a (.a (.n 0) (.n 1)) (.n 1)), (.v 0))] rfl q1 q2) (fun q2 => cert [a] [(1, (.a (.n 0) (.n 1)), (.v 0)), (1, (.a (.v 0) (.n 1)), (.a (.n 0) (.n 1)))] rfl h1 q2)
theorem r402 {a b c : Nat} (h1 : a < c) (h2 : (min (b - (0 : Nat)) c) = c) : a ≤ (min (b - (0 : Nat)) c) := Nat.le_of_not_lt fun q1 => cert [a, c, (min (b - 0) c)] [(1, (.a (.v 0) (.n 1)), (.v 1)), (1, (.v 1), (.v 2)), (1, (.a (.v 2) (.n 1)), (.v 0))] rfl h1 (eq_b h2) q1
theorem r404 {a : Nat} : (3 : Nat) ≤ (((((0 : Nat) + (1 : Nat)) + (1 : Nat)) + (1 : Nat)) + (min (40 : Nat) a)) := by (simp at *; done)
theorem r406 {a b c d : Nat} (h1 : d < (a + c)) (h2 : a ≤ b) (h3 : b ≤ d) : ((a ≤ b) ∧ (b < (a + c))) := And.intro (Nat.le_of_not_lt fun q1 => cert [a, b] [(1, (.v 0), (.v 1)), (1, (.a (.v 1) (.n 1)), (.v 0))] rfl h2 q1) (Nat.lt_of_not_le fun q2 => cert [d, a, c, b] [(1, (.a (.v 0) (.n 1)), (.a (.v 1) (.v 2))), (1, (.v 3), (.v 0)), (1, (.a (.v 1) (.v 2)), (.v 3))] rfl h1 h3 q2)
theorem r407 {a b c d : Nat} (h1 : b < (a + c)) (h2 : a ≤ d) (h3 : d ≤ b) : ((a ≤ b) ∧ (b < (a + c))) := And.intro (Nat.le_of_not_lt fun q1 => cert [a, d, b] [(1, (.v 0), (.v 1)), (1, (.v 1), (.v 2)), (1, (.a (.v 2) (.n 1)), (.v 0))] rfl h2 h3 q1) (Nat.lt_of_not_le fun q2 => cert [b, a, c] [(1, (.a (.v 0) (.n 1)), (.a (.v 1) (.v 2))), (1, (.a (.v 1) (.v 2)), (.v 0))] rfl h1 q2)
theorem r408 {a b c : Nat} (h1 : ((a ≤ c) ∧ (c < (a + b)))) : a ≤ (((a + (a + b)) - (1 : Nat)) - c) := Nat.le_of_not_lt fun q1 => cert [c, a, b, (((a + (a + b)) - 1) - c), ((a + (a + b)) - 1)] [(1, (.a (.v 0) (.n 1)), (.a (.v 1) (.v 2))), (1, (.a (.v 3) (.n 1)), (.v 1)), (1, (.a (.v 1) (.a (.v 1) (.v 2))), (.a (.v 4) (.n 1))), (1, (.v 4), (.a (.v 3) (.v 0)))] rfl h1.2 q1 (@sub_a (a + (a + b)) 1) (@sub_a ((a + (a + b)) - 1) c)
theorem r409 {a b c : Nat} (h1 : b ≤ (c - (a + (1 : Nat)))) (h2 : (0 : Nat) < b) : ((a + (1 : Nat)) + b) ≤ c := Nat.le_of_not_lt fun q1 => le_e c (a + 1) (fun q2 => cert [b, (c - (a + 1))] [(1, (.v 0), (.v 1)), (1, (.a (.n 0) (.n 1)), (.v 0)), (1, (.v 1), (.n 0))] rfl h1 h2 (@sub_d c (a + 1) q2)) (fun q2 => cert [b, (c - (a + 1)), c, a] [(1, (.v 0), (.v 1)), (1, (.a (.v 2) (.n 1)), (.a (.a (.v 3) (.n 1)) (.v 0))), (1, (.a (.v 1) (.a (.v 3) (.n 1))), (.v 2))] rfl h1 q1 (@sub_c c (a + 1) q2))
theorem r410 {a b c d e : Nat} (h1 : ((a + b) + c) ≤ (d + e)) : ((a + (b - (1 : Nat))) + c) ≤ (d + e) := Nat.le_of_not_lt fun q1 => cert [a, b, c, d, e, (b - 1)] [(1, (.a (.a (.v 0) (.v 1)) (.v 2)), (.a (.v 3) (.v 4))), (1, (.a (.a (.v 3) (.v 4)) (.n 1)), (.a (.a (.v 0) (.v 5)) (.v 2))), (1, (.v 5), (.v 1))] rfl h1 q1 (Nat.sub_le b 1)
theorem r411 {a b c d e : Nat} (h1 : ((a + b) + c) ≤ (d + e)) : ((a + b) + (c - (1 : Nat))) ≤ (d + e) := Nat.le_of_not_lt fun q1 => cert [a, b, c, d, e, (c - 1)] [(1, (.a (.a (.v 0) (.v 1)) (.v 2)), (.a (.v 3) (.v 4))), (1, (.a (.a (.v 3) (.v 4)) (.n 1)), (.a (.a (.v 0) (.v 1)) (.v 5))), (1, (.v 5), (.v 2))] rfl h1 q1 (Nat.sub_le c 1)
theorem r412 {a : Nat} : (((((0 : Nat) + (1 : Nat)) + (1 : Nat)) + (1 : Nat)) + (min (40 : Nat) a)) ≤ (43 : Nat) := Nat.le_of_not_lt fun q1 => cert [(min 40 a)] [(1, (.a (.n 43) (.n 1)), (.a (.a (.a (.a (.n 0) (.n 1)) (.n 1)) (.n 1)) (.v 0))), (1, (.v 0), (.n 40))] rfl q1 (Nat.min_le_left 40 a)
theorem r413 {a b c d e : Nat} (h1 : c = d) (h2 : b ≤ e) (h3 : (a + e) = d) : ((min (a + b) c) - a) = b := Nat.le_antisymm (Nat.le_of_not_lt fun q1 => le_e (min (a + b) c) a (fun q3 => cert [b, ((min (a + b) c) - a)] [(1, (.a (.v 0) (.n 1)), (.v 1)), (1, (.v 1), (.n 0))] rfl q1 (@sub_d (min (a + b) c) a q3)) (fun q3 => cert [b, ((min (a + b) c) - a), a, (min (a + b) c)] [(1, (.a (.v 0) (.n 1)), (.v 1)), (1, (.a (.v 1) (.v 2)), (.v 3)), (1, (.v 3), (.a (.v 2) (.v 0)))] rfl q1 (@sub_c (min (a + b) c) a q3) (Nat.min_le_left (a + b) c))) (Nat.le_of_not_lt fun q4 => le_e (a + b) c (fun q5 => cert [((min (a + b) c) - a), b, a, (min (a + b) c)] [(1, (.a (.v 0) (.n 1)), (.v 1)), (1, (.a (.v 2) (.v 1)), (.v 3)), (1, (.v 3), (.a (.v 0) (.v 2)))] rfl q4 (@min_c (a + b) c q5) (@sub_a (min (a + b) c) a)) (fun q5 => cert [d, c, b, e, a, ((min (a + b) c) - a), (min (a + b) c)] [(1, (.v 0), (.v 1)), (1, (.v 2), (.v 3)), (1, (.a (.v 4) (.v 3)), (.v 0)), (1, (.a (.v 5) (.n 1)), (.v 2)), (1, (.v 1), (.v 6)), (1, (.v 6), (.a (.v 5) (.v 4)))] rfl (eq_b h1) h2 (Nat.le_of_eq h3) q4 (@min_d (a + b) c q5) (@sub_a (min (a + b) c) a)))
theorem r414 {a b c d : Nat} (h1 : b ≤ d) (h2 : (a + d) ≤ c) (h3 : (1 : Nat) ≤ b) : ((a + b) - (1 : Nat)) < c := Nat.lt_of_not_le fun q1 => le_e (a + b) 1 (fun q2 => cert [b, d, a, c, ((a + b) - 1)] [(1, (.v 0), (.v 1)), (1, (.a (.v 2) (.v 1)), (.v 3)), (1, (.n 1), (.v 0)), (1, (.v 3), (.v 4)), (1, (.v 4), (.n 0))] rfl h1 h2 h3 q1 (@sub_d (a + b) 1 q2)) (fun q2 => cert [b, d, a, c, ((a + b) - 1)] [(1, (.v 0), (.v 1)), (1, (.a (.v 2) (.v 1)), (.v 3)), (1, (.v 3), (.v 4)), (1, (.a (.v 4) (.n 1)), (.a (.v 2) (.v 0)))] rfl h1 h2 q1 (@sub_c (a + b) 1 q2))
theorem r415 {a b c d : Nat} (h1 : a < (b + (min (max c (1 : Nat)) d))) (h2 : ¬ (c = (0 : Nat))) : a < (b + c) := Nat.lt_of_not_le fun q1 => ne_e h2 (fun q5 => cert [c] [(1, (.a (.v 0) (.n 1)), (.n 0))] rfl q5) (fun q5 => le_e c 1 (fun q6 => cert [a, b, (min (max c 1) d), c, (max c 1)] [(1, (.a (.v 0) (.n 1)), (.a (.v 1) (.v 2))), (1, (.a (.v 1) (.v 3)), (.v 0)), (1, (.a (.n 0) (.n 1)), (.v 3)), (1, (.v 4), (.n 1)), (1, (.v 2), (.v 4))] rfl h1 q1 q5 (@max_c c 1 q6) (Nat.min_le_left (max c 1) d)) (fun q6 => cert [a, b, (min (max c 1) d), c, (max c 1)] [(1, (.a (.v 0) (.n 1)), (.a (.v 1) (.v 2))), (1, (.a (.v 1) (.v 3)), (.v 0)), (1, (.v 4), (.v 3)), (1, (.v 2), (.v 4))] rfl h1 q1 (@max_d c 1 q6) (Nat.min_le_left (max c 1) d)))
theorem r416 {a b c d : Nat} (h1 : ((a + (1 : Nat)) + d) ≤ (b + c)) : (a + (2 : Nat)) ≤ (b + (c + (1 : Nat))) := Nat.le_of_not_lt fun q1 => cert [a, d, b, c] [(1, (.a (.a (.v 0) (.n 1)) (.v 1)), (.a (.v 2) (.v 3))), (1, (.a (.a (.v 2) (.a (.v 3) (.n 1))) (.n 1)), (.a (.v 0) (.n 2)))] rfl h1 q1
theorem r417 {a b c d : Nat} (h1 : ((a + (1 : Nat)) + d) ≤ (b + c)) : (a + (2 : Nat)) ≤ ((b + (1 : Nat)) + c) := Nat.le_of_not_lt fun q1 => cert [a, d, b, c] [(1, (.a (.a (.v 0) (.n 1)) (.v 1)), (.a (.v 2) (.v 3))), (1, (.a (.a (.a (.v 2) (.n 1)) (.v 3)) (.n 1)), (.a (.v 0) (.n 2)))] rfl h1 q1
theorem r418 {a b c d : Nat} (h1 : a ≤ (b - c)) (h2 : (min (b - c) d) = (b - c)) : a ≤ (min (b - c) d) := Nat.le_trans h1 (Nat.le_of_eq (id (Eq.symm h2)))
theorem r419 {a : Nat} : ((((0 : Nat) + (1 : Nat)) + (1 : Nat)) + ((2 : Nat) * a)) = ((2 : Nat) * (a + (1 : Nat))) := by lia
theorem r420 {a b c d : Nat} (h1 : d < (a + b)) (h2 : a ≤ c) : (((a + (a + b)) - (1 : Nat)) - c) < (a + b) := Nat.lt_of_not_le fun q1 => le_e (a + (a + b)) 1 (fun q4 => cert [d, a, b, (((a + (a + b)) - 1) - c), ((a + (a + b)) - 1)] [(1, (.a (.v 0) (.n 1)), (.a (.v 1) (.v 2))), (1, (.a (.v 1) (.v 2)), (.v 3)), (1, (.v 4), (.n 0)), (1, (.v 3), (.v 4))] rfl h1 q1 (@sub_d (a + (a + b)) 1 q4) (Nat.sub_le ((a + (a + b)) - 1) c)) (fun q4 => le_e ((a + (a + b)) - 1) c (fun q5 => cert [d, a, b, (((a + (a + b)) - 1) - c)] [(1, (.a (.v 0) (.n 1)), (.a (.v 1) (.v 2))), (1, (.a (.v 1) (.v 2)), (.v 3)), (1, (.v 3), (.n 0))] rfl h1 q1 (@sub_d ((a + (a + b)) - 1) c q5)) (fun q5 => cert [a, c, b, (((a + (a + b)) - 1) - c), ((a + (a + b)) - 1)] [(1, (.v 0), (.v 1)), (1, (.a (.v 0) (.v 2)), (.v 3)), (1, (.a (.v 4) (.n 1)), (.a (.v 0) (.a (.v 0) (.v 2)))), (1, (.a (.v 3) (.v 1)), (.v 4))] rfl h2 q1 (@sub_c (a + (a + b)) 1 q4) (@sub_c ((a + (a + b)) - 1) c q5)))
theorem r421 {a b c d e : Nat} (h1 : b ≤ c) (h2 : c ≤ e) (h3 : (a + e) < d) : (a + ((b + c) / (2 : Nat))) < d := Nat.lt_of_not_le fun q1 => cert [b, c, e, a, d, ((b + c) / 2)] [(1, (.v 0), (.v 1)), (2, (.v 1), (.v 2)), (2, (.a (.a (.v 3) (.v 2)) (.n 1)), (.v 4)), (2, (.v 4), (.a (.v 3) (.v 5))), (1, (.m 2 (.v 5)), (.a (.v 0) (.v 1)))] rfl h1 h2 h3 q1 (@div_a (b + c) 2)
theorem r423 {c d : Nat} {a b : Int} (h1 : a = ((c : Nat) : Int)) (h2 : b = ((d : Nat) : Int)) (h3 : ¬ (c = d)) : ¬ (a = b) := by lia
theorem r424 {a b c : Nat} (h1 : a < ((b + (1 : Nat)) - (min c (b + (1 : Nat))))) (h2 : (b + (1 : Nat)) ≤ c) : False := by (simp [*] at *; done)
theorem r425 {a : Nat} : (((((0 : Nat) + (1 : Nat)) + (1 : Nat)) + (1 : Nat)) + (min (40 : Nat) a)) ≤ (16777216 : Nat) := Nat.le_of_not_lt fun q1 => cert [(min 40 a)] [(1, (.a (.n 16777216) (.n 1)), (.a (.a (.a (.a (.n 0) (.n 1)) (.n 1)) (.n 1)) (.v 0))), (1, (.v 0), (.n 40))] rfl q1 (Nat.min_le_left 40 a)
theorem r428 {a b c d : Nat} (h1 : b < c) (h2 : (a + b) < d) : ((a + b) + (1 : Nat)) ≤ (a + (min c (d - a))) := Nat.le_of_not_lt fun q1 => le_e c (d - a) (fun q3 => cert [b, c, a, (min c (d - a))] [(1, (.a (.v 0) (.n 1)), (.v 1)), (1, (.a (.a (.v 2) (.v 3)) (.n 1)), (.a (.a (.v 2) (.v 0)) (.n 1))), (1, (.v 1), (.v 3))] rfl h1 q1 (@min_c c (d - a) q3)) (fun q3 => cert [a, b, d, (min c (d - a)), (d - a)] [(1, (.a (.a (.v 0) (.v 1)) (.n 1)), (.v 2)), (1, (.a (.a (.v 0) (.v 3)) (.n 1)), (.a (.a (.v 0) (.v 1)) (.n 1))), (1, (.v 4), (.v 3)), (1, (.v 2), (.a (.v 4) (.v 0)))] rfl h2 q1 (@min_d c (d - a) q3) (@sub_a d a))
theorem r429 {a b c d e f : Nat} (h1 : a < d) (h2 : d = e) (h3 : (b + c) = e) (h4 : (b + f) ≤ a) : (a - b) < c := Nat.lt_of_not_le fun q1 => le_e a b (fun q2 => cert [a, d, e, b, c, f, (a - b)] [(1, (.a (.v 0) (.n 1)), (.v 1)), (1, (.v 1), (.v 2)), (1, (.v 2), (.a (.v 3) (.v 4))), (1, (.a (.v 3) (.v 5)), (.v 0)), (1, (.v 4), (.v 6)), (1, (.v 6), (.n 0))] rfl h1 (Nat.le_of_eq h2) (eq_b h3) h4 q1 (@sub_d a b q2)) (fun q2 => cert [a, d, e, b, c, (a - b)] [(1, (.a (.v 0) (.n 1)), (.v 1)), (1, (.v 1), (.v 2)), (1, (.v 2), (.a (.v 3) (.v 4))), (1, (.v 4), (.v 5)), (1, (.a (.v 5) (.v 3)), (.v 0))] rfl h1 (Nat.le_of_eq h2) (eq_b h3) q1 (@sub_c a b q2))
theorem r430 {a b : Nat} (h1 : b ≤ (60 : Nat)) (h2 : a ≤ (700 : Nat)) : (a + (((2 : Nat) * b) + (0 : Nat))) ≤ (900 : Nat) := Nat.le_of_not_lt fun q1 => cert [b, a] [(2, (.v 0), (.n 60)), (1, (.v 1), (.n 700)), (1, (.a (.n 900) (.n 1)), (.a (.v 1) (.a (.m 2 (.v 0)) (.n 0))))] rfl h1 h2 q1
theorem r431 {a b c : Nat} (h1 : ((a ≤ c) ∧ (c < (a + b)))) : (((a + (a + b)) - (1 : Nat)) - c) < (a + b) := Nat.lt_of_not_le fun q1 => le_e (a + (a + b)) 1 (fun q4 => cert [c, a, b, (((a + (a + b)) - 1) - c), ((a + (a + b)) - 1)] [(1, (.a (.v 0) (.n 1)), (.a (.v 1) (.v 2))), (1, (.a (.v 1) (.v 2)), (.v 3)), (1, (.v 4), (.n 0)), (1, (.v 3), (.v 4))] rfl h1.2 q1 (@sub_d (a + (a + b)) 1 q4) (Nat.sub_le ((a + (a + b)) - 1) c)) (fun q4 => le_e ((a + (a + b)) - 1) c (fun q5 => cert [c, a, b, (((a + (a + b)) - 1) - c)] [(1, (.a (.v 0) (.n 1)), (.a (.v 1) (.v 2))), (1, (.a (.v 1) (.v 2)), (.v 3)), (1, (.v 3), (.n 0))] rfl h1.2 q1 (@sub_d ((a + (a + b)) - 1) c q5)) (fun q5 => cert [a, c, b, (((a + (a + b)) - 1) - c), ((a + (a + b)) - 1)] [(1, (.v 0), (.v 1)), (1, (.a (.v 0) (.v 2)), (.v 3)), (1, (.a (.v 4) (.n 1)), (.a (.v 0) (.a (.v 0) (.v 2)))), (1, (.a (.v 3) (.v 1)), (.v 4))] rfl h1.1 q1 (@sub_c (a + (a + b)) 1 q4) (@sub_c ((a + (a + b)) - 1) c q5)))
theorem r432 {a : Nat} : ¬ (((a + (1 : Nat)) + (1 : Nat)) = ((((a + (1 : Nat)) + (1 : Nat)) + (1 : Nat)) + (1 : Nat))) := Nat.ne_of_lt (Nat.le_trans (Nat.le_refl (a + 1 + 1).succ) (Nat.le_add_right (a + 1 + 1).succ 1))
theorem r433 {a : Nat} : ¬ ((a + (1 : Nat)) = (((((a + (1 : Nat)) + (1 : Nat)) + (1 : Nat)) + (1 : Nat)) + (1 : Nat))) := by (subst_vars; simp; done)
theorem r434 {a b : Nat} (h1 : a ≤ (b - (1 : Nat))) (h2 : ¬ ((0 : Nat) < ((b - (1 : Nat)) - a))) : a = (b - (1 : Nat)) := Nat.le_antisymm (Nat.le_of_not_lt fun q1 => cert [a, (b - 1)] [(1, (.v 0), (.v 1)), (1, (.a (.v 1) (.n 1)), (.v 0))] rfl h1 q1) (Nat.le_of_not_lt fun q2 => cert [((b - 1) - a), a, (b - 1)] [(1, (.v 0), (.n 0)), (1, (.a (.v 1) (.n 1)), (.v 2)), (1, (.v 2), (.a (.v 0) (.v 1)))] rfl (Nat.le_of_not_lt h2) q2 (@sub_a (b - 1) a))
theorem r435 {a b c : Nat} (h1 : ((((2 : Nat) * b) + ((a + (1 : Nat)) + (1 : Nat))) + c) ≤ (900 : Nat)) : a ≤ (900 : Nat) := Nat.le_of_not_lt fun q1 => cert [b, a, c] [(1, (.a (.a (.m 2 (.v 0)) (.a (.a (.v 1) (.n 1)) (.n 1))) (.v 2)), (.n 900)), (1, (.a (.n 900) (.n 1)), (.v 1))] rfl h1 q1
theorem r436 {a b c : Nat} (h1 : ((((2 : Nat) * (a + (1 : Nat))) + b) + c) ≤ (900 : Nat)) : (a + (1 : Nat)) ≤ (450 : Nat) := Nat.le_of_not_lt fun q1 => cert [a, b, c] [(1, (.a (.a (.m 2 (.a (.v 0) (.n 1))) (.v 1)) (.v 2)), (.n 900)), (2, (.a (.n 450) (.n 1)), (.a (.v 0) (.n 1)))] rfl h1 q1
theorem r437 {a b c : Nat} (h1 : a < ((b + ((c - b) / (2 : Nat))) + (1 : Nat))) : a ≤ (b + ((c - b) / (2 : Nat))) := Nat.le_of_not_lt fun q1 => cert [a, b, ((c - b) / 2)] [(1, (.a (.v 0) (.n 1)), (.a (.a (.v 1) (.v 2)) (.n 1))), (1, (.a (.a (.v 1) (.v 2)) (.n 1)), (.v 0))] rfl h1 q1
theorem r438 {a b c d : Nat} (h1 : a = b) (h2 : b = (c + d)) (h3 : c ≤ (43 : Nat)) (h4 : d ≤ (43 : Nat)) : a ≤ (86 : Nat) := Nat.le_of_not_lt fun q1 => cert [a, b, c, d] [(1, (.v 0), (.v 1)), (1, (.v 1), (.a (.v 2) (.v 3))), (1, (.v 2), (.n 43)), (1, (.v 3), (.n 43)), (1, (.a (.n 86) (.n 1)), (.v 0))] rfl (Nat.le_of_eq h1) (Nat.le_of_eq h2) h3 h4 q1
theorem r439 {a b c d : Nat} (h1 : a = (((2 : Nat) * b) + c)) (h2 : a = (1 : Nat)) (h3 : d ≤ b) (h4 : (0 : Nat) < d) : False := cert [b, c, a, d] [(1, (.a (.m 2 (.v 0)) (.v 1)), (.v 2)), (1, (.v 2), (.n 1)), (2, (.v 3), (.v 0)), (2, (.a (.n 0) (.n 1)), (.v 3))] rfl (eq_b h1) (Nat.le_of_eq h2) h3 h4
theorem r440 {a b c d : Nat} (h1 : a = (1 : Nat)) (h2 : b ≤ c) (h3 : (((2 : Nat) * c) + d) = a) (h4 : (0 : Nat) < b) : False := cert [a, b, c, d] [(1, (.v 0), (.n 1)), (2, (.v 1), (.v 2)), (1, (.a (.m 2 (.v 2)) (.v 3)), (.v 0)), (2, (.a (.n 0) (.n 1)), (.v 1))] rfl (Nat.le_of_eq h1) h2 (Nat.le_of_eq h3) h4
theorem r441 {a b c d : Nat} (h1 : a < (b + (((c + d) / (2 : Nat)) + (1 : Nat)))) : a ≤ (b + ((c + d) / (2 : Nat))) := Nat.le_of_not_lt fun q1 => cert [a, b, ((c + d) / 2)] [(1, (.a (.v 0) (.n 1)), (.a (.v 1) (.a (.v 2) (.n 1)))), (1, (.a (.a (.v 1) (.v 2)) (.n 1)), (.v 0))] rfl h1 q1
theorem r442 {a b : Nat} (h1 : ¬ ((b - a) = (0 : Nat))) : ((((0 : Nat) + a) + (b - a)) - (1 : Nat)) = (b - (1 : Nat)) := Nat.le_antisymm (Nat.le_of_not_lt fun q1 => le_e b a (fun q14 => ne_e h1 (fun q15 => cert [(b - a)] [(1, (.a (.v 0) (.n 1)), (.n 0))] rfl q15) (fun q15 => cert [(b - a)] [(1, (.v 0), (.n 0)), (1, (.a (.n 0) (.n 1)), (.v 0))] rfl (@sub_d b a q14) q15)) (fun q14 => le_e ((0 + a) + (b - a)) 1 (fun q18 => cert [(b - 1), (((0 + a) + (b - a)) - 1)] [(1, (.a (.v 0) (.n 1)), (.v 1)), (1, (.v 1), (.n 0))] rfl q1 (@sub_d ((0 + a) + (b - a)) 1 q18)) (fun q18 => cert [(b - 1), (((0 + a) + (b - a)) - 1), (b - a), a, b] [(1, (.a (.v 0) (.n 1)), (.v 1)), (1, (.a (.v 2) (.v 3)), (.v 4)), (1, (.a (.v 1) (.n 1)), (.a (.a (.n 0) (.v 3)) (.v 2))), (1, (.v 4), (.a (.v 0) (.n 1)))] rfl q1 (@sub_c b a q14) (@sub_c ((0 + a) + (b - a)) 1 q18) (@sub_a b 1)))) (Nat.le_of_not_lt fun q19 => le_e b 1 (fun q23 => cert [(((0 + a) + (b - a)) - 1), (b - 1)] [(1, (.a (.v 0) (.n 1)), (.v 1)), (1, (.v 1), (.n 0))] rfl q19 (@sub_d b 1 q23)) (fun q23 => cert [(((0 + a) + (b - a)) - 1), (b - 1), b, (b - a), a] [(1, (.a (.v 0) (.n 1)), (.v 1)), (1, (.a (.v 1) (.n 1)), (.v 2)), (1, (.v 2), (.a (.v 3) (.v 4))), (1, (.a (.a (.n 0) (.v 4)) (.v 3)), (.a (.v 0) (.n 1)))] rfl q19 (@sub_c b 1 q23) (@sub_a b a) (@sub_a ((0 + a) + (b - a)) 1)))
theorem r443 {a b c : Nat} (h1 : (c + (((2 : Nat) * a) + b)) ≤ (900 : Nat)) : ((((2 : Nat) * a) + b) + c) ≤ (900 : Nat) := Nat.le_of_not_lt fun q1 => cert [c, a, b] [(1, (.a (.v 0) (.a (.m 2 (.v 1)) (.v 2))), (.n 900)), (1, (.a (.n 900) (.n 1)), (.a (.a (.m 2 (.v 1)) (.v 2)) (.v 0)))] rfl h1 q1
theorem r444 {a b c : Nat} (h1 : c < (b + ((1 : Nat) + (1 : Nat)))) (h2 : a ≤ c) (h3 : b ≤ a) (h4 : ¬ (a = c)) : a = b := Nat.le_antisymm (Nat.le_of_not_lt fun q1 => ne_e h4 (fun q2 => cert [c, b, a] [(1, (.a (.v 0) (.n 1)), (.a (.v 1) (.a (.n 1) (.n 1)))), (1, (.a (.v 1) (.n 1)), (.v 2)), (1, (.a (.v 2) (.n 1)), (.v 0))] rfl h1 q1 q2) (fun q2 => cert [a, c] [(1, (.v 0), (.v 1)), (1, (.a (.v 1) (.n 1)), (.v 0))] rfl h2 q2)) (Nat.le_of_not_lt fun q3 => cert [b, a] [(1, (.v 0), (.v 1)), (1, (.a (.v 1) (.n 1)), (.v 0))] rfl h3 q3)
theorem r445 {a b : Nat} (h1 : (0 : Nat) < a) : (((2 : Nat) * (a - (1 : Nat))) + (b + (1 : Nat))) < (((2 : Nat) * a) + b) := Nat.lt_of_not_le fun q1 => cert [a, b, (a - 1)] [(1, (.a (.m 2 (.v 0)) (.v 1)), (.a (.m 2 (.v 2)) (.a (.v 1) (.n 1)))), (2, (.a (.v 2) (.n 1)), (.v 0))] rfl q1 (@sub_c a 1 h1)
theorem r449 {a b c d : Nat} (h1 : d ≤ c) : (((a + (a + b)) - (1 : Nat)) - c) ≤ (((a + (a + b)) - (1 : Nat)) - d) := Nat.le_of_not_lt fun q1 => le_e ((a + (a + b)) - 1) c (fun q4 => cert [(((a + (a + b)) - 1) - d), (((a + (a + b)) - 1) - c)] [(1, (.a (.v 0) (.n 1)), (.v 1)), (1, (.v 1), (.n 0))] rfl q1 (@sub_d ((a + (a + b)) - 1) c q4)) (fun q4 => cert [d, c, (((a + (a + b)) - 1) - d), (((a + (a + b)) - 1) - c), ((a + (a + b)) - 1)] [(1, (.v 0), (.v 1)), (1, (.a (.v 2) (.n 1)), (.v 3)), (1, (.a (.v 3) (.v 1)), (.v 4)), (1, (.v 4), (.a (.v 2) (.v 0)))] rfl h1 q1 (@sub_c ((a + (a + b)) - 1) c q4) (@sub_a ((a + (a + b)) - 1) d))
theorem r451 {a b c d e f : Nat} (h1 : ((a + f) + c) ≤ (d + e)) (h2 : (0 : Nat) < (f - b)) : ((a + b) + c) ≤ (d + e) := Nat.le_of_not_lt fun q1 => le_e f b (fun q2 => cert [(f - b)] [(1, (.a (.n 0) (.n 1)), (.v 0)), (1, (.v 0), (.n 0))] rfl h2 (@sub_d f b q2)) (fun q2 => cert [a, f, c, d, e, (f - b), b] [(1, (.a (.a (.v 0) (.v 1)) (.v 2)), (.a (.v 3) (.v 4))), (1, (.a (.n 0) (.n 1)), (.v 5)), (1, (.a (.a (.v 3) (.v 4)) (.n 1)), (.a (.a (.v 0) (.v 6)) (.v 2))), (1, (.a (.v 5) (.v 6)), (.v 1))] rfl h1 h2 q1 (@sub_c f b q2))
theorem r452 {a b c d : Nat} (h1 : d ≤ c) (h2 : a ≤ (b - c)) (h3 : b ≤ ((2 : Nat) * d)) (h4 : ¬ (a < d)) : a = (b - c) := Nat.le_antisymm (Nat.le_of_not_lt fun q1 => cert [a, (b - c)] [(1, (.v 0), (.v 1)), (1, (.a (.v 1) (.n 1)), (.v 0))] rfl h2 q1) (Nat.le_of_not_lt fun q2 => le_e b c (fun q3 => cert [a, (b - c)] [(1, (.a (.v 0) (.n 1)), (.v 1)), (1, (.v 1), (.n 0))] rfl q2 (@sub_d b c q3)) (fun q3 => cert [d, c, b, a, (b - c)] [(1, (.v 0), (.v 1)), (1, (.v 2), (.m 2 (.v 0))), (1, (.v 0), (.v 3)), (1, (.a (.v 3) (.n 1)), (.v 4)), (1, (.a (.v 4) (.v 1)), (.v 2))] rfl h1 h3 (Nat.le_of_not_lt h4) q2 (@sub_c b c q3)))
theorem r454 {a b c : Nat} (h1 : a < (b + c)) (h2 : ((b + c) - ((0 : Nat) + (1 : Nat))) ≤ a) : a = ((b + c) - (1 : Nat)) := Nat.le_antisymm (Nat.le_of_not_lt fun q1 => cert [a, b, c, ((b + c) - 1)] [(1, (.a (.v 0) (.n 1)), (.a (.v 1) (.v 2))), (1, (.a (.v 3) (.n 1)), (.v 0)), (1, (.a (.v 1) (.v 2)), (.a (.v 3) (.n 1)))] rfl h1 q1 (@sub_a (b + c) 1)) (Nat.le_of_not_lt fun q2 => le_e (b + c) 1 (fun q4 => cert [a, ((b + c) - 1)] [(1, (.a (.v 0) (.n 1)), (.v 1)), (1, (.v 1), (.n 0))] rfl q2 (@sub_d (b + c) 1 q4)) (fun q4 => cert [((b + c) - (0 + 1)), a, ((b + c) - 1), b, c] [(1, (.v 0), (.v 1)), (1, (.a (.v 1) (.n 1)), (.v 2)), (1, (.a (.v 2) (.n 1)), (.a (.v 3) (.v 4))), (1, (.a (.v 3) (.v 4)), (.a (.v 0) (.a (.n 0) (.n 1))))] rfl h2 q2 (@sub_c (b + c) 1 q4) (@sub_a (b + c) (0 + 1))))
theorem r456 {a b : Nat} (h1 : ¬ ((a - (1 : Nat)) = (0 : Nat))) : ((((0 : Nat) + (1 : Nat)) + (a - (1 : Nat))) + b) ≤ (a + b) := Nat.le_of_not_lt fun q1 => ne_e h1 (fun q4 => cert [(a - 1)] [(1, (.a (.v 0) (.n 1)), (.n 0))] rfl q4) (fun q4 => le_e a 1 (fun q5 => cert [(a - 1)] [(1, (.a (.n 0) (.n 1)), (.v 0)), (1, (.v 0), (.n 0))] rfl q4 (@sub_d a 1 q5)) (fun q5 => cert [a, b, (a - 1)] [(1, (.a (.a (.v 0) (.v 1)) (.n 1)), (.a (.a (.a (.n 0) (.n 1)) (.v 2)) (.v 1))), (1, (.a (.v 2) (.n 1)), (.v 0))] rfl q1 (@sub_c a 1 q5)))
theorem r459 {a b c d : Nat} (h1 : c ≤ (1 : Nat)) (h2 : d ≤ (1 : Nat)) (h3 : (((2 : Nat) * a) + c) = (((2 : Nat) * b) + d)) : a = b := Nat.le_antisymm (Nat.le_of_not_lt fun q1 => cert [d, a, c, b] [(1, (.v 0), (.n 1)), (1, (.a (.m 2 (.v 1)) (.v 2)), (.a (.m 2 (.v 3)) (.v 0))), (2, (.a (.v 3) (.n 1)), (.v 1))] rfl h2 (Nat.le_of_eq h3) q1) (Nat.le_of_not_lt fun q2 => cert [c, b, d, a] [(1, (.v 0), (.n 1)), (1, (.a (.m 2 (.v 1)) (.v 2)), (.a (.m 2 (.v 3)) (.v 0))), (2, (.a (.v 3) (.n 1)), (.v 1))] rfl h1 (eq_b h3) q2)
theorem r460 {a b c d e : Nat} (h1 : b < (c + (min (max d (1 : Nat)) e))) (h2 : d = (0 : Nat)) (h3 : a ≤ b) (h4 : c ≤ a) : a = b := Nat.le_antisymm (Nat.le_of_not_lt fun q1 => cert [a, b] [(1, (.v 0), (.v 1)), (1, (.a (.v 1) (.n 1)), (.v 0))] rfl h3 q1) (Nat.le_of_not_lt fun q2 => le_e d 1 (fun q3 => cert [b, c, (min (max d 1) e), a, (max d 1)] [(1, (.a (.v 0) (.n 1)), (.a (.v 1) (.v 2))), (1, (.v 1), (.v 3)), (1, (.a (.v 3) (.n 1)), (.v 0)), (1, (.v 4), (.n 1)), (1, (.v 2), (.v 4))] rfl h1 h4 q2 (@max_c d 1 q3) (Nat.min_le_left (max d 1) e)) (fun q3 => cert [d] [(1, (.v 0), (.n 0)), (1, (.n 1), (.v 0))] rfl (Nat.le_of_eq h2) q3))
theorem r461 {a b c d : Nat} (h1 : a < b) (h2 : (c + (1 : Nat)) < d) (h3 : ((max (0 : Nat) (d + b)) + (1 : Nat)) ≤ (c + a)) : False := cert [a, b, c, d, (max 0 (d + b))] [(1, (.a (.v 0) (.n 1)), (.v 1)), (1, (.a (.a (.v 2) (.n 1)) (.n 1)), (.v 3)), (1, (.a (.v 4) (.n 1)), (.a (.v 2) (.v 0))), (1, (.a (.v 3) (.v 1)), (.v 4))] rfl h1 h2 h3 (Nat.le_max_right 0 (d + b))
theorem r462 {a : Nat} : ¬ ((((a + (1 : Nat)) + (1 : Nat)) + (1 : Nat)) = ((((a + (1 : Nat)) + (1 : Nat)) + (1 : Nat)) + (1 : Nat))) := Nat.ne_of_lt (Nat.le_trans (Nat.le_refl (a + 1 + 1 + 1).succ) (Nat.le_refl (a + 1 + 1 + 1).succ))
theorem r463 {a : Nat} : ¬ (((a + (1 : Nat)) + (1 : Nat)) = (((((a + (1 : Nat)) + (1 : Nat)) + (1 : Nat)) + (1 : Nat)) + (1 : Nat))) := by (simp [*] at *; done)
theorem r464 {a : Nat} : ¬ (((((a + (1 : Nat)) + (1 : Nat)) + (1 : Nat)) + (1 : Nat)) = (((a + (1 : Nat)) + (1 : Nat)) + (1 : Nat))) := by (simp [*] at *; done)
theorem r465 {a b c d : Nat} (h1 : (b + c) ≤ (d + a)) (h2 : ¬ (b ≤ a)) : (((a + b) / (2 : Nat)) + (c + (1 : Nat))) ≤ (d + a) := Nat.le_of_not_lt fun q1 => cert [b, c, d, a, ((a + b) / 2)] [(2, (.a (.v 0) (.v 1)), (.a (.v 2) (.v 3))), (1, (.a (.v 3) (.n 1)), (.v 0)), (2, (.a (.a (.v 2) (.v 3)) (.n 1)), (.a (.v 4) (.a (.v 1) (.n 1)))), (1, (.m 2 (.v 4)), (.a (.v 3) (.v 0)))] rfl h1 (Nat.lt_of_not_le h2) q1 (@div_a (a + b) 2)
theorem r467 {a b c d : Nat} (h1 : ((a + (b + (1 : Nat))) - ((c + (1 : Nat)) + (1 : Nat))) ≤ d) : ((a + b) - (c + (1 : Nat))) ≤ d := Nat.le_of_not_lt fun q1 => le_e (a + b) (c + 1) (fun q3 => cert [d, ((a + b) - (c + 1))] [(1, (.a (.v 0) (.n 1)), (.v 1)), (1, (.v 1), (.n 0))] rfl q1 (@sub_d (a + b) (c + 1) q3)) (fun q3 => cert [((a + (b + 1)) - ((c + 1) + 1)), d, ((a + b) - (c + 1)), c, a, b] [(1, (.v 0), (.v 1)), (1, (.a (.v 1) (.n 1)), (.v 2)), (1, (.a (.v 2) (.a (.v 3) (.n 1))), (.a (.v 4) (.v 5))), (1, (.a (.v 4) (.a (.v 5) (.n 1))), (.a (.v 0) (.a (.a (.v 3) (.n 1)) (.n 1))))] rfl h1 q1 (@sub_c (a + b) (c + 1) q3) (@sub_a (a + (b + 1)) ((c + 1) + 1)))
theorem r468 {a b c d : Nat} (h1 : ((a + (1 : Nat)) + b) ≤ (c + d)) : ((a + (1 : Nat)) + (b + (1 : Nat))) ≤ (c + (d + (1 : Nat))) := Nat.le_of_not_lt fun q1 => cert [a, b, c, d] [(1, (.a (.a (.v 0) (.n 1)) (.v 1)), (.a (.v 2) (.v 3))), (1, (.a (.a (.v 2) (.a (.v 3) (.n 1))) (.n 1)), (.a (.a (.v 0) (.n 1)) (.a (.v 1) (.n 1))))] rfl h1 q1
theorem r469 {a b c d : Nat} (h1 : ((a + (1 : Nat)) + b) ≤ (c + d)) : ((a + (1 : Nat)) + (b + (1 : Nat))) ≤ ((c + (1 : Nat)) + d) := Nat.le_of_not_lt fun q1 => cert [a, b, c, d] [(1, (.a (.a (.v 0) (.n 1)) (.v 1)), (.a (.v 2) (.v 3))), (1, (.a (.a (.a (.v 2) (.n 1)) (.v 3)) (.n 1)), (.a (.a (.v 0) (.n 1)) (.a (.v 1) (.n 1))))] rfl h1 q1
theorem r471 {a b c : Nat} (h1 : a < (b + ((1 : Nat) + (1 : Nat)))) (h2 : c = b) (h3 : c ≤ a) (h4 : ¬ (c = a)) : a = (b + (1 : Nat)) := Nat.le_antisymm (Nat.le_of_not_lt fun q1 => cert [a, b] [(1, (.a (.v 0) (.n 1)), (.a (.v 1) (.a (.n 1) (.n 1)))), (1, (.a (.a (.v 1) (.n 1)) (.n 1)), (.v 0))] rfl h1 q1) (Nat.le_of_not_lt fun q2 => ne_e h4 (fun q3 => cert [b, c, a] [(1, (.v 0), (.v 1)), (1, (.a (.v 2) (.n 1)), (.a (.v 0) (.n 1))), (1, (.a (.v 1) (.n 1)), (.v 2))] rfl (eq_b h2) q2 q3) (fun q3 => cert [c, a] [(1, (.v 0), (.v 1)), (1, (.a (.v 1) (.n 1)), (.v 0))] rfl h3 q3))
theorem r472 {a b c : Nat} (h1 : a ≤ b) (h2 : ((c = (1 : Nat)) ∨ (a = b))) (h3 : (1 : Nat) ≤ a) (h4 : (max (0 : Nat) b) = c) : a = b := Nat.le_antisymm (Nat.le_of_not_lt fun q1 => cert [a, b] [(1, (.v 0), (.v 1)), (1, (.a (.v 1) (.n 1)), (.v 0))] rfl h1 q1) (Nat.le_of_not_lt fun q2 => Or.elim h2 (fun q3 => cert [a, (max 0 b), c, b] [(1, (.n 1), (.v 0)), (1, (.v 1), (.v 2)), (1, (.a (.v 0) (.n 1)), (.v 3)), (1, (.v 2), (.n 1)), (1, (.v 3), (.v 1))] rfl h3 (Nat.le_of_eq h4) q2 (Nat.le_of_eq q3) (Nat.le_max_right 0 b)) (fun q3 => cert [a, b] [(1, (.a (.v 0) (.n 1)), (.v 1)), (1, (.v 1), (.v 0))] rfl q2 (eq_b q3)))
theorem r473 {a b c d : Nat} (h1 : (a + b) ≤ (c + d)) : (a + (b + (1 : Nat))) ≤ (c + ((d + ((a - d) / (2 : Nat))) + (1 : Nat))) := Nat.le_of_not_lt fun q1 => cert [a, b, c, d, ((a - d) / 2)] [(1, (.a (.v 0) (.v 1)), (.a (.v 2) (.v 3))), (1, (.a (.a (.v 2) (.a (.a (.v 3) (.v 4)) (.n 1))) (.n 1)), (.a (.v 0) (.a (.v 1) (.n 1))))] rfl h1 q1
theorem r474 {a b c d : Nat} (h1 : c < d) (h2 : (b + c) ≤ (d + a)) : ((a + ((b - a) / (2 : Nat))) + (c + (1 : Nat))) ≤ (d + a) := Nat.le_of_not_lt fun q1 => le_e b a (fun q2 => cert [c, d, a, ((b - a) / 2), (b - a)] [(2, (.a (.v 0) (.n 1)), (.v 1)), (2, (.a (.a (.v 1) (.v 2)) (.n 1)), (.a (.a (.v 2) (.v 3)) (.a (.v 0) (.n 1)))), (1, (.v 4), (.n 0)), (1, (.m 2 (.v 3)), (.v 4))] rfl h1 q1 (@sub_d b a q2) (@div_a (b - a) 2)) (fun q2 => cert [c, d, b, a, ((b - a) / 2), (b - a)] [(1, (.a (.v 0) (.n 1)), (.v 1)), (1, (.a (.v 2) (.v 0)), (.a (.v 1) (.v 3))), (2, (.a (.a (.v 1) (.v 3)) (.n 1)), (.a (.a (.v 3) (.v 4)) (.a (.v 0) (.n 1)))), (1, (.a (.v 5) (.v 3)), (.v 2)), (1, (.m 2 (.v 4)), (.v 5))] rfl h1 h2 q1 (@sub_c b a q2) (@div_a (b - a) 2))
theorem r475 {a b c : Nat} (h1 : b < c) (h2 : (0 : Nat) < a) : (((2 : Nat) * ((a - (1 : Nat)) + (1 : Nat))) + b) < (((2 : Nat) * a) + c) := Nat.lt_of_not_le fun q1 => cert [b, c, a, (a - 1)] [(1, (.a (.v 0) (.n 1)), (.v 1)), (1, (.a (.m 2 (.v 2)) (.v 1)), (.a (.m 2 (.a (.v 3) (.n 1))) (.v 0))), (2, (.a (.v 3) (.n 1)), (.v 2))] rfl h1 q1 (@sub_c a 1 h2)
theorem r476 {a b c d e : Nat} (h1 : (a + e) ≤ d) (h2 : (b + ((c - b) / (2 : Nat))) < e) : (a + (b + ((c - b) / (2 : Nat)))) < d := Nat.lt_of_not_le fun q1 => cert [a, e, d, b, ((c - b) / 2)] [(1, (.a (.v 0) (.v 1)), (.v 2)), (1, (.a (.a (.v 3) (.v 4)) (.n 1)), (.v 1)), (1, (.v 2), (.a (.v 0) (.a (.v 3) (.v 4))))] rfl h1 h2 q1
theorem r477 {a b c d e : Nat} (h1 : c < d) (h2 : ((a + (1 : Nat)) + (max (0 : Nat) (e + d))) ≤ (b + c)) : (a + (2 : Nat)) ≤ (b + c) := Nat.le_of_not_lt fun q1 => cert [c, d, a, (max 0 (e + d)), b, e] [(1, (.a (.v 0) (.n 1)), (.v 1)), (1, (.a (.a (.v 2) (.n 1)) (.v 3)), (.a (.v 4) (.v 0))), (1, (.a (.a (.v 4) (.v 0)) (.n 1)), (.a (.v 2) (.n 2))), (1, (.a (.v 5) (.v 1)), (.v 3))] rfl h1 h2 q1 (Nat.le_max_right 0 (e + d))
theorem r479 {a b c d e f : Nat} (h1 : ((a + b) + f) ≤ (d + e)) (h2 : (0 : Nat) < ((f - (1 : Nat)) - c)) : ((a + b) + c) ≤ (d + e) := Nat.le_of_not_lt fun q1 => le_e (f - 1) c (fun q3 => cert [((f - 1) - c)] [(1, (.a (.n 0) (.n 1)), (.v 0)), (1, (.v 0), (.n 0))] rfl h2 (@sub_d (f - 1) c q3)) (fun q3 => cert [a, b, f, d, e, ((f - 1) - c), c, (f - 1)] [(1, (.a (.a (.v 0) (.v 1)) (.v 2)), (.a (.v 3) (.v 4))), (1, (.a (.n 0) (.n 1)), (.v 5)), (1, (.a (.a (.v 3) (.v 4)) (.n 1)), (.a (.a (.v 0) (.v 1)) (.v 6))), (1, (.a (.v 5) (.v 6)), (.v 7)), (1, (.v 7), (.v 2))] rfl h1 h2 q1 (@sub_c (f - 1) c q3) (Nat.sub_le f 1))
theorem r480 {a b c : Nat} (h1 : c < b) (h2 : b ≤ (4 : Nat)) : ((a * (16 : Nat)) + ((16 : Nat) - b)) < ((a * (16 : Nat)) + ((16 : Nat) - c)) := Nat.lt_of_not_le fun q1 => le_e 16 b (fun q3 => cert [b] [(1, (.v 0), (.n 4)), (1, (.n 16), (.v 0))] rfl h2 q3) (fun q3 => cert [c, b, a, (16 - c), (16 - b)] [(1, (.a (.v 0) (.n 1)), (.v 1)), (1, (.a (.r (.v 2) 16) (.v 3)), (.a (.r (.v 2) 16) (.v 4))), (1, (.a (.v 4) (.v 1)), (.n 16)), (1, (.n 16), (.a (.v 3) (.v 0)))] rfl h1 q1 (@sub_c 16 b q3) (@sub_a 16 c))
theorem r483 {a b c d : Nat} (h1 : d ≤ a) (h2 : (a + b) ≤ (c + d)) : (a + (b + (1 : Nat))) ≤ (c + (((d + a) / (2 : Nat)) + (1 : Nat))) := Nat.le_of_not_lt fun q1 => cert [d, a, b, c, ((d + a) / 2)] [(1, (.v 0), (.v 1)), (2, (.a (.v 1) (.v 2)), (.a (.v 3) (.v 0))), (2, (.a (.a (.v 3) (.a (.v 4) (.n 1))) (.n 1)), (.a (.v 1) (.a (.v 2) (.n 1)))), (1, (.a (.a (.v 0) (.v 1)) (.n 1)), (.m 2 (.a (.v 4) (.n 1))))] rfl h1 h2 q1 (Nat.lt_mul_div_succ (d + a) (Nat.succ_pos 1))
theorem r484 {a b c d e : Nat} (h1 : c = d) (h2 : (a + e) = d) (h3 : ¬ ((a - b) = (0 : Nat))) : ((a - b) - (1 : Nat)) < ((min a c) - b) := Nat.lt_of_not_le fun q1 => ne_e h3 (fun q33 => cert [(a - b)] [(1, (.a (.v 0) (.n 1)), (.n 0))] rfl q33) (fun q33 => le_e a c (fun q34 => le_e a b (fun q36 => cert [(a - b)] [(1, (.a (.n 0) (.n 1)), (.v 0)), (1, (.v 0), (.n 0))] rfl q33 (@sub_d a b q36)) (fun q36 => cert [((min a c) - b), ((a - b) - 1), a, (min a c), (a - b), b] [(1, (.v 0), (.v 1)), (1, (.v 2), (.v 3)), (1, (.a (.v 4) (.v 5)), (.v 2)), (1, (.v 3), (.a (.v 0) (.v 5))), (1, (.a (.v 1) (.n 1)), (.v 4))] rfl q1 (@min_c a c q34) (@sub_c a b q36) (@sub_a (min a c) b) (@sub_c (a - b) 1 q33))) (fun q34 => le_e a b (fun q38 => cert [(a - b)] [(1, (.a (.n 0) (.n 1)), (.v 0)), (1, (.v 0), (.n 0))] rfl q33 (@sub_d a b q38)) (fun q38 => cert [d, c, a, e, ((min a c) - b), ((a - b) - 1), (min a c), (a - b), b] [(1, (.v 0), (.v 1)), (1, (.a (.v 2) (.v 3)), (.v 0)), (1, (.v 4), (.v 5)), (1, (.v 1), (.v 6)), (1, (.a (.v 7) (.v 8)), (.v 2)), (1, (.v 6), (.a (.v 4) (.v 8))), (1, (.a (.v 5) (.n 1)), (.v 7))] rfl (eq_b h1) (Nat.le_of_eq h2) q1 (@min_d a c q34) (@sub_c a b q38) (@sub_a (min a c) b) (@sub_c (a - b) 1 q33))))
theorem r485 {a : Nat} (h1 : a ≤ (1000 : Nat)) : (min ((a + (1 : Nat)) + (1 : Nat)) ((a + (1 : Nat)) + (1 : Nat))) ≤ ((16777216 : Nat) + (1 : Nat)) := Nat.le_of_not_lt fun q1 => cert [a, (min ((a + 1) + 1) ((a + 1) + 1))] [(1, (.v 0), (.n 1000)), (1, (.a (.a (.n 16777216) (.n 1)) (.n 1)), (.v 1)), (1, (.v 1), (.a (.a (.v 0) (.n 1)) (.n 1)))] rfl h1 q1 (Nat.min_le_left ((a + 1) + 1) ((a + 1) + 1))
theorem r486 {a : Nat} : ¬ ((((a + (1 : Nat)) + (1 : Nat)) + (1 : Nat)) = (((((a + (1 : Nat)) + (1 : Nat)) + (1 : Nat)) + (1 : Nat)) + (1 : Nat))) := Nat.ne_of_lt (Nat.le_trans (Nat.le_refl (a + 1 + 1 + 1).succ) (Nat.le_add_right (a + 1 + 1 + 1).succ 1))
theorem r487 {a : Nat} : ¬ ((((((a + (1 : Nat)) + (1 : Nat)) + (1 : Nat)) + (1 : Nat)) + (1 : Nat)) = (((a + (1 : Nat)) + (1 : Nat)) + (1 : Nat))) := fun q1 => cert [a] [(1, (.a (.a (.a (.a (.a (.v 0) (.n 1)) (.n 1)) (.n 1)) (.n 1)) (.n 1)), (.a (.a (.a (.v 0) (.n 1)) (.n 1)) (.n 1)))] rfl (Nat.le_of_eq q1)
theorem r488 {a b c d e : Nat} (h1 : c = d) (h2 : (a + e) = d) (h3 : (0 : Nat) < e) (h4 : ¬ (b = (0 : Nat))) : (0 : Nat) < ((min (a + b) c) - a) := Nat.lt_of_not_le fun q1 => ne_e h4 (fun q5 => cert [b] [(1, (.a (.v 0) (.n 1)), (.n 0))] rfl q5) (fun q5 => le_e (a + b) c (fun q6 => cert [((min (a + b) c) - a), b, a, (min (a + b) c)] [(1, (.v 0), (.n 0)), (1, (.a (.n 0) (.n 1)), (.v 1)), (1, (.a (.v 2) (.v 1)), (.v 3)), (1, (.v 3), (.a (.v 0) (.v 2)))] rfl q1 q5 (@min_c (a + b) c q6) (@sub_a (min (a + b) c) a)) (fun q6 => cert [d, c, a, e, ((min (a + b) c) - a), (min (a + b) c)] [(1, (.v 0), (.v 1)), (1, (.a (.v 2) (.v 3)), (.v 0)), (1, (.a (.n 0) (.n 1)), (.v 3)), (1, (.v 4), (.n 0)), (1, (.v 1), (.v 5)), (1, (.v 5), (.a (.v 4) (.v 2)))] rfl (eq_b h1) (Nat.le_of_eq h2) h3 q1 (@min_d (a + b) c q6) (@sub_a (min (a + b) c) a)))
theorem r490 {a b c : Nat} (h1 : b ≤ (c - (a + (1 : Nat)))) (h2 : (0 : Nat) < b) (h3 : ¬ (((a + (1 : Nat)) + b) = c)) : ((a + (1 : Nat)) + b) < c := Nat.lt_of_not_le fun q1 => ne_e h3 (fun q4 => cert [c, a, b] [(1, (.v 0), (.a (.a (.v 1) (.n 1)) (.v 2))), (1, (.a (.a (.a (.v 1) (.n 1)) (.v 2)) (.n 1)), (.v 0))] rfl q1 q4) (fun q4 => le_e c (a + 1) (fun q5 => cert [b, (c - (a + 1))] [(1, (.v 0), (.v 1)), (1, (.a (.n 0) (.n 1)), (.v 0)), (1, (.v 1), (.n 0))] rfl h1 h2 (@sub_d c (a + 1) q5)) (fun q5 => cert [b, (c - (a + 1)), c, a] [(1, (.v 0), (.v 1)), (1, (.a (.v 2) (.n 1)), (.a (.a (.v 3) (.n 1)) (.v 0))), (1, (.a (.v 1) (.a (.v 3) (.n 1))), (.v 2))] rfl h1 q4 (@sub_c c (a + 1) q5)))
theorem r492 {a b c d e : Nat} (h1 : ((((a + (1 : Nat)) + (max (0 : Nat) (d + e))) + b) + c) ≤ (d + e)) : (((a + (2 : Nat)) + b) + c) ≤ (d + e) := Nat.le_of_not_lt fun q1 => cert [a, (max 0 (d + e)), b, c, d, e] [(1, (.a (.a (.a (.a (.v 0) (.n 1)) (.v 1)) (.v 2)) (.v 3)), (.a (.v 4) (.v 5))), (1, (.a (.v 4) (.v 5)), (.v 1))] rfl h1 (Nat.le_max_right 0 (d + e))
theorem r494 {a b c d : Nat} (h1 : (a + (1 : Nat)) ≤ c) (h2 : (1 : Nat) ≤ b) : ((a * (16 : Nat)) + ((16 : Nat) - b)) < ((c * (16 : Nat)) + ((16 : Nat) - d)) := Nat.lt_of_not_le fun q1 => le_e 16 b (fun q3 => cert [a, c, (16 - d), (16 - b)] [(16, (.a (.v 0) (.n 1)), (.v 1)), (1, (.a (.r (.v 1) 16) (.v 2)), (.a (.r (.v 0) 16) (.v 3))), (1, (.v 3), (.n 0))] rfl h1 q1 (@sub_d 16 b q3)) (fun q3 => cert [a, c, b, (16 - d), (16 - b)] [(16, (.a (.v 0) (.n 1)), (.v 1)), (1, (.n 1), (.v 2)), (1, (.a (.r (.v 1) 16) (.v 3)), (.a (.r (.v 0) 16) (.v 4))), (1, (.a (.v 4) (.v 2)), (.n 16))] rfl h1 h2 q1 (@sub_c 16 b q3))
theorem r495 {a b : Nat} (h1 : a = (b + (2 : Nat))) : ((a ≤ ((2 : Nat) * (a + (0 : Nat)))) ∧ ((((a + (0 : Nat)) ≤ a) ∧ ((1 : Nat) ≤ (a + (0 : Nat)))))) := And.intro (Nat.le_of_not_lt fun q1 => cert [b, a] [(1, (.a (.v 0) (.n 2)), (.v 1)), (1, (.a (.m 2 (.a (.v 1) (.n 0))) (.n 1)), (.v 1))] rfl (eq_b h1) q1) (And.intro (Nat.le_of_not_lt fun q2 => cert [a] [(1, (.a (.v 0) (.n 1)), (.a (.v 0) (.n 0)))] rfl q2) (Nat.le_of_not_lt fun q3 => cert [b, a] [(1, (.a (.v 0) (.n 2)), (.v 1)), (1, (.a (.a (.v 1) (.n 0)) (.n 1)), (.n 1))] rfl (eq_b h1) q3))
theorem r496 {a : Nat} : ¬ (((((a + (1 : Nat)) + (1 : Nat)) + (1 : Nat)) + (1 : Nat)) = (((((a + (1 : Nat)) + (1 : Nat)) + (1 : Nat)) + (1 : Nat)) + (1 : Nat))) := Nat.ne_of_lt (Nat.le_trans (Nat.le_refl (a + 1 + 1 + 1 + 1).succ) (Nat.le_refl (a + 1 + 1 + 1 + 1).succ))
theorem r497 {a : Nat} : ¬ ((((((a + (1 : Nat)) + (1 : Nat)) + (1 : Nat)) + (1 : Nat)) + (1 : Nat)) = ((((a + (1 : Nat)) + (1 : Nat)) + (1 : Nat)) + (1 : Nat))) := by (simp at *; done)
theorem r501 {a b c : Nat} (h1 : b ≤ (c - a)) (h2 : (0 : Nat) < b) (h3 : ¬ ((a + b) = c)) (h4 : ¬ (((a + b) + (1 : Nat)) = c)) : ((a + b) + (1 : Nat)) < c := Nat.lt_of_not_le fun q1 => ne_e h3 (fun q5 => ne_e h4 (fun q6 => cert [c, a, b] [(1, (.v 0), (.a (.a (.v 1) (.v 2)) (.n 1))), (1, (.a (.a (.a (.v 1) (.v 2)) (.n 1)) (.n 1)), (.v 0))] rfl q1 q6) (fun q6 => cert [a, b, c] [(1, (.a (.a (.v 0) (.v 1)) (.n 1)), (.v 2)), (1, (.a (.v 2) (.n 1)), (.a (.a (.v 0) (.v 1)) (.n 1)))] rfl q5 q6)) (fun q5 => le_e c a (fun q8 => cert [b, (c - a)] [(1, (.v 0), (.v 1)), (1, (.a (.n 0) (.n 1)), (.v 0)), (1, (.v 1), (.n 0))] rfl h1 h2 (@sub_d c a q8)) (fun q8 => cert [b, (c - a), c, a] [(1, (.v 0), (.v 1)), (1, (.a (.v 2) (.n 1)), (.a (.v 3) (.v 0))), (1, (.a (.v 1) (.v 3)), (.v 2))] rfl h1 q5 (@sub_c c a q8)))
theorem r505 {a b c d : Nat} (h1 : a ≤ (d + (1 : Nat))) (h2 : (d + (((2 : Nat) * (b + (1 : Nat))) + c)) ≤ (900 : Nat)) : (a + (((2 : Nat) * b) + c)) ≤ (900 : Nat) := Nat.le_of_not_lt fun q1 => cert [a, d, b, c] [(1, (.v 0), (.a (.v 1) (.n 1))), (1, (.a (.v 1) (.a (.m 2 (.a (.v 2) (.n 1))) (.v 3))), (.n 900)), (1, (.a (.n 900) (.n 1)), (.a (.v 0) (.a (.m 2 (.v 2)) (.v 3))))] rfl h1 h2 q1
theorem r506 {a b c d e f : Nat} (h1 : ((((a + (1 : Nat)) + f) + b) + c) ≤ (d + e)) (h2 : (0 : Nat) < b) : (((a + (2 : Nat)) + (b - (1 : Nat))) + c) ≤ (d + e) := Nat.le_of_not_lt fun q1 => cert [a, f, b, c, d, e, (b - 1)] [(1, (.a (.a (.a (.a (.v 0) (.n 1)) (.v 1)) (.v 2)) (.v 3)), (.a (.v 4) (.v 5))), (1, (.a (.a (.v 4) (.v 5)) (.n 1)), (.a (.a (.a (.v 0) (.n 2)) (.v 6)) (.v 3))), (1, (.a (.v 6) (.n 1)), (.v 2))] rfl h1 q1 (@sub_c b 1 h2)
theorem r507 {a b c d e f : Nat} (h1 : ((((a + (1 : Nat)) + f) + b) + c) ≤ (d + e)) (h2 : (1 : Nat) < c) : (((a + (2 : Nat)) + b) + (c - (1 : Nat))) ≤ (d + e) := Nat.le_of_not_lt fun q1 => cert [a, f, b, c, d, e, (c - 1)] [(1, (.a (.a (.a (.a (.v 0) (.n 1)) (.v 1)) (.v 2)) (.v 3)), (.a (.v 4) (.v 5))), (1, (.a (.a (.v 4) (.v 5)) (.n 1)), (.a (.a (.a (.v 0) (.n 2)) (.v 2)) (.v 6))), (1, (.a (.v 6) (.n 1)), (.v 3))] rfl h1 q1 (@sub_c c 1 (Nat.le_of_lt h2))
theorem r511 {a b c d : Nat} (h1 : b < d) (h2 : a ≤ b) (h3 : c ≤ (1 : Nat)) : (((a * (2 : Nat)) ≤ (((2 : Nat) * b) + c)) ∧ ((((2 : Nat) * b) + c) < (d * (2 : Nat)))) := And.intro (Nat.le_of_not_lt fun q1 => cert [a, b, c] [(2, (.v 0), (.v 1)), (1, (.a (.a (.m 2 (.v 1)) (.v 2)) (.n 1)), (.r (.v 0) 2))] rfl h2 q1) (Nat.lt_of_not_le fun q2 => cert [b, d, c] [(2, (.a (.v 0) (.n 1)), (.v 1)), (1, (.v 2), (.n 1)), (1, (.r (.v 1) 2), (.a (.m 2 (.v 0)) (.v 2)))] rfl h1 h3 q2)
theorem r515 {a b c d : Nat} (h1 : a ≤ (d + (1 : Nat))) (h2 : (d + (((2 : Nat) * (b + (1 : Nat))) + c)) ≤ (900 : Nat)) : (a + (((2 : Nat) * b) + (c + (1 : Nat)))) ≤ (900 : Nat) := Nat.le_of_not_lt fun q1 => cert [a, d, b, c] [(1, (.v 0), (.a (.v 1) (.n 1))), (1, (.a (.v 1) (.a (.m 2 (.a (.v 2) (.n 1))) (.v 3))), (.n 900)), (1, (.a (.n 900) (.n 1)), (.a (.v 0) (.a (.m 2 (.v 2)) (.a (.v 3) (.n 1)))))] rfl h1 h2 q1
theorem r516 {a b c d e : Nat} (h1 : a = (0 : Nat)) (h2 : e = (28 : Nat)) (h3 : c = (5 : Nat)) (h4 : b ≤ (2100 : Nat)) (h5 : d ≤ (2100 : Nat)) : ((((a + b) + c) + d) + e) ≤ (5000 : Nat) := Nat.le_of_not_lt fun q1 => cert [a, e, c, b, d] [(1, (.v 0), (.n 0)), (1, (.v 1), (.n 28)), (1, (.v 2), (.n 5)), (1, (.v 3), (.n 2100)), (1, (.v 4), (.n 2100)), (1, (.a (.n 5000) (.n 1)), (.a (.a (.a (.a (.v 0) (.v 3)) (.v 2)) (.v 4)) (.v 1)))] rfl (Nat.le_of_eq h1) (Nat.le_of_eq h2) (Nat.le_of_eq h3) h4 h5 q1
theorem r517 {a b c d e f : Nat} (h1 : ((((a + (1 : Nat)) + b) + c) + d) ≤ (e + f)) (h2 : (0 : Nat) < c) : ((((a + (1 : Nat)) + (b + (1 : Nat))) + (c - (1 : Nat))) + d) ≤ (e + f) := Nat.le_of_not_lt fun q1 => cert [a, b, c, d, e, f, (c - 1)] [(1, (.a (.a (.a (.a (.v 0) (.n 1)) (.v 1)) (.v 2)) (.v 3)), (.a (.v 4) (.v 5))), (1, (.a (.a (.v 4) (.v 5)) (.n 1)), (.a (.a (.a (.a (.v 0) (.n 1)) (.a (.v 1) (.n 1))) (.v 6)) (.v 3))), (1, (.a (.v 6) (.n 1)), (.v 2))] rfl h1 q1 (@sub_c c 1 h2)
theorem r518 {a b c d e f : Nat} (h1 : ((((a + (1 : Nat)) + b) + c) + d) ≤ (e + f)) (h2 : (1 : Nat) < d) : ((((a + (1 : Nat)) + (b + (1 : Nat))) + c) + (d - (1 : Nat))) ≤ (e + f) := Nat.le_of_not_lt fun q1 => cert [a, b, c, d, e, f, (d - 1)] [(1, (.a (.a (.a (.a (.v 0) (.n 1)) (.v 1)) (.v 2)) (.v 3)), (.a (.v 4) (.v 5))), (1, (.a (.a (.v 4) (.v 5)) (.n 1)), (.a (.a (.a (.a (.v 0) (.n 1)) (.a (.v 1) (.n 1))) (.v 2)) (.v 6))), (1, (.a (.v 6) (.n 1)), (.v 3))] rfl h1 q1 (@sub_c d 1 (Nat.le_of_lt h2))
theorem r520 {a b c d e : Nat} (h1 : c < d) (h2 : a ≤ (e + (1 : Nat))) (h3 : (e + (((2 : Nat) * (b + (1 : Nat))) + d)) ≤ (900 : Nat)) : (a + (((2 : Nat) * (b + (1 : Nat))) + c)) ≤ (900 : Nat) := Nat.le_of_not_lt fun q1 => cert [c, d, a, e, b] [(1, (.a (.v 0) (.n 1)), (.v 1)), (1, (.v 2), (.a (.v 3) (.n 1))), (1, (.a (.v 3) (.a (.m 2 (.a (.v 4) (.n 1))) (.v 1))), (.n 900)), (1, (.a (.n 900) (.n 1)), (.a (.v 2) (.a (.m 2 (.a (.v 4) (.n 1))) (.v 0))))] rfl h1 h2 h3 q1
theorem r521 {a b c d e f g h : Nat} (h1 : b < c) (h2 : d = e) (h3 : d = f) (h4 : a = (e + g)) (h5 : f ≤ h) (h6 : g ≤ (b + (1 : Nat))) (h7 : h ≤ (43 : Nat)) (h8 : c ≤ (86 : Nat)) : a ≤ (200 : Nat) := Nat.le_of_not_lt fun q1 => cert [b, c, e, d, f, a, g, h] [(1, (.a (.v 0) (.n 1)), (.v 1)), (1, (.v 2), (.v 3)), (1, (.v 3), (.v 4)), (1, (.v 5), (.a (.v 2) (.v 6))), (1, (.v 4), (.v 7)), (1, (.v 6), (.a (.v 0) (.n 1))), (1, (.v 7), (.n 43)), (1, (.v 1), (.n 86)), (1, (.a (.n 200) (.n 1)), (.v 5))] rfl h1 (eq_b h2) (Nat.le_of_eq h3) (Nat.le_of_eq h4) h5 h6 h7 h8 q1
theorem r523 {a b c d e f : Nat} (h1 : d = e) (h2 : c ≤ f) (h3 : (b + f) = e) (h4 : ((((0 : Nat) + a) + (b - a)) - (1 : Nat)) = (b - (1 : Nat))) (h5 : (0 : Nat) < b) : ((a + (0 : Nat)) + ((b - a) + c)) ≤ d := Nat.le_of_not_lt fun q1 => cert [e, d, c, f, b, (((0 + a) + (b - a)) - 1), (b - 1), a, (b - a)] [(1, (.v 0), (.v 1)), (1, (.v 2), (.v 3)), (1, (.a (.v 4) (.v 3)), (.v 0)), (1, (.v 5), (.v 6)), (1, (.a (.v 1) (.n 1)), (.a (.a (.v 7) (.n 0)) (.a (.v 8) (.v 2)))), (1, (.a (.a (.n 0) (.v 7)) (.v 8)), (.a (.v 5) (.n 1))), (1, (.a (.v 6) (.n 1)), (.v 4))] rfl (eq_b h1) h2 (Nat.le_of_eq h3) (Nat.le_of_eq h4) q1 (@sub_a ((0 + a) + (b - a)) 1) (@sub_c b 1 h5)
theorem r526 {a : Nat} (h1 : ¬ (a < (64 : Nat))) : ((a ≤ ((2 : Nat) * ((a / (2 : Nat)) + (max (0 : Nat) (a % (2 : Nat)))))) ∧ (((((a / (2 : Nat)) + (max (0 : Nat) (a % (2 : Nat)))) ≤ a) ∧ ((1 : Nat) ≤ ((a / (2 : Nat)) + (max (0 : Nat) (a % (2 : Nat)))))))) := And.intro (Nat.le_of_not_lt fun q1 => cert [(a / 2), (max 0 (a % 2)), a, (a % 2)] [(1, (.a (.m 2 (.a (.v 0) (.v 1))) (.n 1)), (.v 2)), (1, (.v 2), (.a (.m 2 (.v 0)) (.v 3))), (1, (.v 3), (.v 1))] rfl q1 (eq_b (Nat.div_add_mod a 2)) (Nat.le_max_right 0 (a % 2))) (And.intro (Nat.le_of_not_lt fun q2 => le_e 0 (a % 2) (fun q3 => cert [a, (a / 2), (max 0 (a % 2)), (a % 2)] [(1, (.n 64), (.v 0)), (2, (.a (.v 0) (.n 1)), (.a (.v 1) (.v 2))), (2, (.v 2), (.v 3)), (1, (.a (.m 2 (.v 1)) (.v 3)), (.v 0)), (1, (.a (.v 3) (.n 1)), (.n 2))] rfl (Nat.le_of_not_lt h1) q2 (@max_c 0 (a % 2) q3) (Nat.le_of_eq (Nat.div_add_mod a 2)) (Nat.mod_lt a (Nat.succ_pos 1))) (fun q3 => cert [a, (a / 2), (max 0 (a % 2))] [(1, (.n 64), (.v 0)), (2, (.a (.v 0) (.n 1)), (.a (.v 1) (.v 2))), (2, (.v 2), (.n 0)), (1, (.m 2 (.v 1)), (.v 0))] rfl (Nat.le_of_not_lt h1) q2 (@max_d 0 (a % 2) q3) (@div_a a 2))) (Nat.le_of_not_lt fun q4 => cert [a, (a / 2), (max 0 (a % 2))] [(1, (.n 64), (.v 0)), (2, (.a (.a (.v 1) (.v 2)) (.n 1)), (.n 1)), (1, (.a (.v 0) (.n 1)), (.m 2 (.a (.v 1) (.n 1))))] rfl (Nat.le_of_not_lt h1) q4 (Nat.lt_mul_div_succ a (Nat.succ_pos 1))))
theorem r527n {a b c d : Nat} (h1 : d ≤ 15) : (a < b ∨ a = b ∧ d < c) ↔ a * 16 + (16 - c) < b * 16 + (16 - d) :=
  ⟨fun q => q.elim (fun h2 => Nat.lt_of_not_le fun q1 => cert [d, a, b, (16 - d), (16 - c)] [(1, (.v 0), (.n 15)), (16, (.a (.v 1) (.n 1)), (.v 2)), (1, (.a (.r (.v 2) 16) (.v 3)), (.a (.r (.v 1) 16) (.v 4))), (1, (.n 16), (.a (.v 3) (.v 0))), (1, (.v 4), (.n 16))] rfl h1 h2 q1 (@sub_a 16 d) (Nat.sub_le 16 c)) (fun h => (fun h2 h3 => Nat.lt_of_not_le fun q1 => le_e 16 c (fun q3 => cert [d, a, b, (16 - d), (16 - c)] [(1, (.v 0), (.n 15)), (16, (.v 1), (.v 2)), (1, (.a (.r (.v 2) 16) (.v 3)), (.a (.r (.v 1) 16) (.v 4))), (1, (.v 4), (.n 0)), (1, (.n 16), (.a (.v 3) (.v 0)))] rfl h1 (Nat.le_of_eq h2) q1 (@sub_d 16 c q3) (@sub_a 16 d)) (fun q3 => cert [a, b, d, c, (16 - d), (16 - c)] [(16, (.v 0), (.v 1)), (1, (.a (.v 2) (.n 1)), (.v 3)), (1, (.a (.r (.v 1) 16) (.v 4)), (.a (.r (.v 0) 16) (.v 5))), (1, (.a (.v 5) (.v 3)), (.n 16)), (1, (.n 16), (.a (.v 4) (.v 2)))] rfl (Nat.le_of_eq h2) h3 q1 (@sub_c 16 c q3) (@sub_a 16 d)) : a = b → d < c → a * 16 + (16 - c) < b * 16 + (16 - d)) h.1 h.2),
   fun h2 => (Nat.lt_or_ge a b).elim .inl fun h3 => .inr ⟨Nat.le_antisymm (Nat.le_of_not_lt fun q1 => cert [a, (16 - c), b, (16 - d)] [(1, (.a (.a (.r (.v 0) 16) (.v 1)) (.n 1)), (.a (.r (.v 2) 16) (.v 3))), (16, (.a (.v 2) (.n 1)), (.v 0)), (1, (.v 3), (.n 16))] rfl h2 q1 (Nat.sub_le 16 d)) h3, Nat.lt_of_not_le fun q1 => le_e 16 d (fun q3 => cert [d] [(1, (.v 0), (.n 15)), (1, (.n 16), (.v 0))] rfl h1 q3) (fun q3 => cert [a, (16 - c), b, (16 - d), c, d] [(1, (.a (.a (.r (.v 0) 16) (.v 1)) (.n 1)), (.a (.r (.v 2) 16) (.v 3))), (16, (.v 2), (.v 0)), (1, (.v 4), (.v 5)), (1, (.a (.v 3) (.v 5)), (.n 16)), (1, (.n 16), (.a (.v 1) (.v 4)))] rfl h2 h3 q1 (@sub_c 16 d q3) (@sub_a 16 c))⟩⟩
theorem r527 {a b c d : Nat} (h1 : d ≤ (15 : Nat)) : ((((((a : Nat) : Int) < ((b : Nat) : Int)) ∨ (((((a : Nat) : Int) = ((b : Nat) : Int)) ∧ ((-((c : Nat) : Int)) < (-((d : Nat) : Int))))))) ↔ (((a * (16 : Nat)) + ((16 : Nat) - c)) < ((b * (16 : Nat)) + ((16 : Nat) - d)))) :=
  (or_congr Int.ofNat_lt (and_congr Int.ofNat_inj (Int.neg_lt_neg_iff.trans Int.ofNat_lt))).trans (r527n h1)
theorem r528 {a : Nat} (h1 : (580 : Nat) < a) : (((580 : Nat) < (((((a + (1 : Nat)) + (1 : Nat)) + (1 : Nat)) + (1 : Nat)) + (1 : Nat))) ∧ ((((580 : Nat) < ((((a + (1 : Nat)) + (1 : Nat)) + (1 : Nat)) + (1 : Nat))) ∧ ((((580 : Nat) < (((a + (1 : Nat)) + (1 : Nat)) + (1 : Nat))) ∧ ((((580 : Nat) < ((a + (1 : Nat)) + (1 : Nat))) ∧ ((580 : Nat) < (a + (1 : Nat)))))))))) := And.intro (Nat.lt_of_not_le fun q1 => cert [a] [(1, (.a (.n 580) (.n 1)), (.v 0)), (1, (.a (.a (.a (.a (.a (.v 0) (.n 1)) (.n 1)) (.n 1)) (.n 1)) (.n 1)), (.n 580))] rfl h1 q1) (And.intro (Nat.lt_of_not_le fun q2 => cert [a] [(1, (.a (.n 580) (.n 1)), (.v 0)), (1, (.a (.a (.a (.a (.v 0) (.n 1)) (.n 1)) (.n 1)) (.n 1)), (.n 580))] rfl h1 q2) (And.intro (Nat.lt_of_not_le fun q3 => cert [a] [(1, (.a (.n 580) (.n 1)), (.v 0)), (1, (.a (.a (.a (.v 0) (.n 1)) (.n 1)) (.n 1)), (.n 580))] rfl h1 q3) (And.intro (Nat.lt_of_not_le fun q4 => cert [a] [(1, (.a (.n 580) (.n 1)), (.v 0)), (1, (.a (.a (.v 0) (.n 1)) (.n 1)), (.n 580))] rfl h1 q4) (Nat.lt_of_not_le fun q5 => cert [a] [(1, (.a (.n 580) (.n 1)), (.v 0)), (1, (.a (.v 0) (.n 1)), (.n 580))] rfl h1 q5))))
end Mine
end
section
open PySem PySem.W PyProof.Rows
namespace Mine
end Mine
namespace Mine
section
variable {prog : Program} {w : World} {A : Around} {E : Value → Shared → Prop} {s : Shared} {t : Tok} {Q : Value → Shared → Prop}
end
end Mine
namespace Mine
end Mine
namespace Mine
section
variable {prog : Program} {w : World} {A : Around} {E : Value → Shared → Prop} {s : Shared} {t u : Tok} {Q : Value → Shared → Prop} {h₀ : Heap} {L : Addr} {m : Str → Option Value} {news : List (Addr × Obj)} {d : Str}
end
end Mine
namespace Mine
end Mine
namespace Mine
end Mine
end
section
open PySem PySem.W PyProof.Rows PySem.Spec PySem.Calls
namespace Mine
section
variable {prog : Program} {w : World} {A₀ : Around} {E : Value → Shared → Prop} {s' : Shared} {base g g₀ G : Heap} {outer : List Env} {L a e t C : Addr} {m : Str → Option Value} {name : Str} {scope : Scope} {cd : Value}
  {vs : List Value} {n : Str} {b₀ : Stmt} {suite : List Stmt} {pos np : Pos} {rest : List ExceptHandler} {Q : Flow → Shared → Prop} {news : List (Addr × Obj)} {KF : Frag}
  {p : Program} {loose : List Str} {mean : ExcName → Option Value} {mg mb : Str → Option Value} {x : Str}
end
section
variable {prog : Program} {w : World} {A : Around} {E : Value → Shared → Prop} {s : Shared} {h₀ : Heap} {L e t C : Addr} {m : Str → Option Value} {news : List (Addr × Obj)} {d : Option Addr} {ws : Array Value} {sl : Array (Option Value)} {vs : List Value} {Q : Value → Shared → Prop}
end
end Mine
namespace Mine
section
variable {prog : Program} {w : World} {A : Around} {E : Value → Shared → Prop} {s : Shared} {h₀ : Heap} {L a b : Addr} {news : List (Addr × Obj)} {d : Option Addr} {sl : Array (Option Value)} {x y : Str} {t u : Tok} {n k : Nat} {Q : Value → Shared → Prop}
end
end Mine
namespace Mine
end Mine
namespace Mine
noncomputable def Stop (p : Prop) : Prop := p
theorem stop_here {p : Prop} (h : Stop p) : p := h
section
variable {prog : Program} {w : World} {A : Around} {E : Value → Shared → Prop} {env : Env} {test : PySem.Expr} {body orelse : List Stmt} {Q : Flow → Shared → Prop}
noncomputable def WPost (I : Nat → Shared → Prop) (n : Nat) (Q : Flow → Shared → Prop) (f : Flow) (s : Shared) : Prop := match f with
  | .next => ∃ n', n' < n ∧ I n' s
  | .cont => ∃ n', n' < n ∧ I n' s
  | .brk => Q .next s
  | .ret v => Q (.ret v) s
theorem while_ind (hE : PassesOwn (model prog w) A env E) (I : Nat → Shared → Prop)
    (turn : ∀ n s, I n s → wpAny (model prog w) A (isTrue test env (eval test env)) (fun b s₂ => WhlIf b (wpAny (model prog w) A (execs body env) (WPost I n Q) E s₂) (wpAny (model prog w) A (execs orelse env) Q E s₂)) E s)
    {pos : Pos} (n : Nat) {s : Shared} (h : I n s) : wpAny (model prog w) A (exec (.While test body orelse pos) env) Q E s := by
  refine whl_start 0 ?_
  have key : ∀ N n s, n < N → I n s → WhlRest prog w A E env test body orelse Q 1 s := by
    intro N
    induction N with
    | zero => intro n s hn; exact absurd hn (Nat.not_lt_zero _)
    | succ N ih =>
      intro n s hn hI
      refine whl_turn hE (wpAny_mono (turn n s hI) (fun b s₂ hb => ?_) fun _ _ e => e)
      unfold WhlIf at hb ⊢
      cases b with
      | false => exact hb
      | true =>
        refine wpAny_mono hb (fun f s₃ hf => ?_) fun _ _ e => e
        have go : (∃ n', n' < n ∧ I n' s₃) → WhlRest prog w A E env test body orelse Q 0 s₃ := fun ⟨n', l, i⟩ => ih n' s₃ (Nat.lt_of_lt_of_le l (Nat.le_of_lt_succ hn)) i
        cases f with
        | next => exact go hf
        | cont => exact go hf
        | brk => exact hf
        | ret v => exact hf
  exact key (n + 1) n s (Nat.lt_succ_self _) h
end
end Mine
namespace Mine
end Mine
end
section
open PySem PySem.W PyProof.Rows PySem.Spec PySem.Calls
namespace Mine
section
variable {prog : Program} {w : World} {A : Around} {E : Value → Shared → Prop} {s : Shared} {h₀ : Heap} {L a b : Addr} {news : List (Addr × Obj)} {ps qs : List (Str × Tok)} {n k : Nat} {vs : Array Value} {Q : Value → Shared → Prop}
end
section
open PySem.Spec PySem.Calls
end
section
open PySem.Spec PySem.Calls
end
end Mine
end
section
open PySem PySem.W PyProof.Rows
namespace Mine
section
variable {prog : Program} {w : World} {A : Around} {E : Value → Shared → Prop} {s : Shared} {t u : Tok} {Q : Value → Shared → Prop}
end
end Mine
end
section
open PySem PySem.W PyProof.Rows PySem.Spec PySem.Calls
namespace Mine
section
variable {prog : Program} {w : World} {A : Around} {E : Value → Shared → Prop} {s : Shared} {h₀ : Heap} {L D b : Addr} {m : Str → Option Value} {news news' : List (Addr × Obj)} {ps qs : List (Str × Tok)} {p : Str × Tok} {n k : Nat} {x y : Str} {t u : Tok}
end
section
variable {prog : Program} {w : World} {A : Around} {E : Value → Shared → Prop} {s : Shared} {t u : Tok} {Q : Value → Shared → Prop}
theorem add_small {x y : Str} (hx : x.length ≤ 200) (hy : y.length ≤ 200) (k : ∀ t' tk, Q (.str (x ++ y) t') { s with toks := tk }) : wpAny (model prog w) A (binaryOp .Add (.str x t) (.str y u)) Q E s := by
  refine add_str k ?_
  rw [sizeLine_eq]; exact Mine.r355 hx hy
end
end Mine
end
section
open PySem PySem.W PyProof.Rows PySem.Spec PySem.Calls
namespace Mine
section
open LCg
variable {prog : Program} {w : World} {A : Around} {E : Value → Shared → Prop} {s : Shared} {h₀ : Heap} {L : Addr} {m : Str → Option Value} {env : Env}
end
end Mine
end
section
open PySem PySem.W PyProof.Rows
namespace Mine
end Mine
end
section
open PySem PySem.W PyProof.Rows
namespace Mine
section
variable {prog : Program} {w : World} {A : Around} {E : Value → Shared → Prop} {s : Shared} {t u : Tok} {Q : Value → Shared → Prop}
end
end Mine
end
section
open PySem PySem.W PyProof.Rows
namespace Mine
end Mine
end
section
open PySem PySem.W PyProof.Rows
namespace Mine
end Mine
end
section
open PySem PySem.W PyProof.Rows PySem.Spec PySem.Calls
namespace Mine
section
variable {prog : Program} {w : World} {A : Around} {E : Value → Shared → Prop} {s : Shared} {h₀ : Heap} {L a : Addr} {news : List (Addr × Obj)} {vs : List Value} {n : Nat} {Q : Value → Shared → Prop}
end
end Mine
end
section
open PySem PySem.W PyProof.Rows PySem.Spec PySem.Calls
set_option maxRecDepth 100000
namespace Mine
section
variable {prog : Program} {w : World} {A : Around} {E : Value → Shared → Prop} {s : Shared} {env : Env} {x : Str} {px : Pos} {body : List Stmt} {it : Value} {Q : Flow → Shared → Prop}
noncomputable def ForTurn (prog : Program) (w : World) (A : Around) (E : Value → Shared → Prop) (env : Env) (x : Str) (px : Pos) (body : List Stmt) (Q : Flow → Shared → Prop) (I : Nat → Shared → Prop) (n : Nat) (r : Option Value) (s₁ : Shared) : Prop := match r with
  | none => wpAny (model prog w) A (execs [] env) Q E s₁
  | some v => wpAny (model prog w) A (assign (.Name x px) env v) (fun _ s₂ => wpAny (model prog w) A (execs body env) (WPost I n Q) E s₂) E s₁
theorem for_ind (hE : PassesOwn (model prog w) A env E) (I : Nat → Shared → Prop) (turn : ∀ n s, I n s → wpAny (model prog w) A (pyNext it) (ForTurn prog w A E env x px body Q I n) E s) (n : Nat) (h : I n s)
    (ht : ∀ v, letOwnedTupleGo (.Name x px) it v = pure () := by intro _; rfl) :
    codeAny (model prog w) A (.forLoop (.Name x px) it body [] env) (fun r s' => match r with | .ok f => Q f s' | .error e => cameBackBy (model prog w) A env E e s') s := by
  refine codeAny_forLoop I (fun n s hI => wpAny_passesOwn hE (wpAny_mono (turn n s hI) (fun r s₁ hr => ?_) fun _ _ e => e)) n h ht
  cases r with
  | none => exact wpAny_passesOwn hE hr
  | some v =>
    refine wpAny_passesOwn hE (wpAny_mono hr (fun _ s₂ h₂ => wpAny_passesOwn hE (wpAny_mono h₂ (fun f s₃ h₃ => ?_) fun _ _ e => e)) fun _ _ e => e)
    cases f with
    | next => exact h₃
    | cont => exact h₃
    | brk => exact h₃
    | ret v => exact h₃
end
end Mine
end
section
open PySem PySem.W PyProof.Rows PySem.Spec PySem.Calls
namespace Mine
section
open LCg
variable {prog : Program} {w : World} {A : Around} {E : Value → Shared → Prop} {s : Shared} {h₀ : Heap} {L : Addr} {m : Str → Option Value} {env : Env}
end
section
variable {prog : Program} {w : World} {A : Around} {E : Value → Shared → Prop} {s : Shared} {t : Tok} {Q : Value → Shared → Prop}
end
end Mine
end
section
open PySem PySem.W PyProof.Rows PySem.Spec PySem.Calls
set_option maxRecDepth 100000
namespace Mine
namespace RB
theorem slot_bytes_repr : Slot "bytes" "__repr__" "bytes.__repr__" :=
  .of (owner := "bytes") (n := "__repr__") (by rw [typeLookup_type, builtinLookup_eq_fast]; kernel_rfl) (by decide +kernel) (by decide +kernel) (by decide +kernel)
    (by first | exact .inl (by decide +kernel) | exact .inr (by decide +kernel)) (by rw [isSubtype_type]; kernel_rfl)
theorem entry_bytes_repr : entryFor table "bytes.__repr__" = some Builtin.«bytes.__repr__» := entryFor_of_tree (by kernel_rfl)
theorem args_bytes_repr (a : Value) : argsOk "bytes.__repr__" ⟨[a], []⟩ := by
  unfold argsOk; rw [signature?_of (id := "bytes.__repr__") (n := ['_', '_', 'r', 'p', 'e', 'r', '_', '_']) (o := ['s', 'e', 't', 'y', 'b']) (by kernel_rfl) FB.owner_bytes]; kernel_rfl
theorem fills_bytes_mod : fillsNumberSlot (.type "bytes") "mod" = pure true :=
  fillsNumberSlot_of (id := "bytes.__mod__") (r := some (.builtin "bytes.__rmod__")) (by rw [typeLookup_type, builtinLookup_eq_fast]; kernel_rfl) (by decide +kernel) (by rw [typeLookup_type, builtinLookup_eq_fast]; kernel_rfl)
theorem noFill (T : String) (h1 : typeLookup (.type T) (dunder "mod") = pure none) (h2 : typeLookup (.type T) (dunderR "mod") = pure none) : fillsNumberSlot (.type T) "mod" = pure false := by
  simp only [fillsNumberSlot, h1, h2, pure_bind]; rfl
theorem noFill_list : fillsNumberSlot (.type "list") "mod" = pure false := noFill _ (by rw [typeLookup_type, builtinLookup_eq_fast]; kernel_rfl) (by rw [typeLookup_type, builtinLookup_eq_fast]; kernel_rfl)
theorem noFill_None : fillsNumberSlot (.type "NoneType") "mod" = pure false := noFill _ (by rw [typeLookup_type, builtinLookup_eq_fast]; kernel_rfl) (by rw [typeLookup_type, builtinLookup_eq_fast]; kernel_rfl)
theorem get_bytes : typeLookup (.type "bytes") "__getitem__" = pure (some (.builtin "bytes.__getitem__")) := by rw [typeLookup_type, builtinLookup_eq_fast]; kernel_rfl
theorem get_list : typeLookup (.type "list") "__getitem__" = pure (some (.builtin "list.__getitem__")) := by rw [typeLookup_type, builtinLookup_eq_fast]; kernel_rfl
theorem get_None : typeLookup (.type "NoneType") "__getitem__" = pure none := by rw [typeLookup_type, builtinLookup_eq_fast]; kernel_rfl
theorem get_int : typeLookup (.type "int") "__getitem__" = pure none := by rw [typeLookup_type, builtinLookup_eq_fast]; kernel_rfl
theorem get_bool : typeLookup (.type "bool") "__getitem__" = pure none := by rw [typeLookup_type, builtinLookup_eq_fast]; kernel_rfl
theorem get_str : typeLookup (.type "str") "__getitem__" = pure (some (.builtin "str.__getitem__")) := by rw [typeLookup_type, builtinLookup_eq_fast]; kernel_rfl
end RB
section
variable {prog : Program} {w : World} {A : Around} {E : Value → Shared → Prop} {s : Shared}
end
end Mine
end
section
open PySem PySem.W PyProof.Rows PySem.Spec PySem.Calls
set_option maxRecDepth 100000
namespace Mine
section
variable {prog : Program} {w : World} {A : Around} {E : Value → Shared → Prop} {s : Shared}
end
end Mine
namespace Mine
section
variable {prog : Program} {w : World} {A : Around} {E : Value → Shared → Prop} {s : Shared}
end
end Mine
end
section
open PySem PySem.W PyProof.Rows PySem.Spec PySem.Calls
set_option maxRecDepth 100000
namespace Mine
theorem int_len {i : Int} (h1 : -(10 ^ 40) < i) (h2 : i < 10 ^ 40) : (Str.ofString (toString i)).length ≤ 1000 := by
  have hn : i.natAbs < 10 ^ 40 := by omega
  have := int_text_length_le10 (k := 40) (by decide) hn
  rw [PySem.ofString_length]
  exact Mine.r232 this
section
variable {prog : Program} {w : World} {A : Around} {E : Value → Shared → Prop} {s : Shared} {h₀ : Heap} {L : Addr} {m : Str → Option Value} {news : List (Addr × Obj)}
end
end Mine
end
section
open PySem PySem.W PyProof.Rows PySem.Spec PySem.Calls
set_option maxRecDepth 100000
namespace Mine
section
variable {prog : Program} {w : World} {A : Around} {E : Value → Shared → Prop} {s : Shared}
end
section
variable {prog : Program} {w : World} {A : Around}
end
end Mine
end
section
open PySem PySem.W PyProof.Rows PySem.Spec PySem.Calls
set_option maxRecDepth 100000
namespace Mine
section
open LCg
variable {prog : Program} {w : World} {A : Around} {E : Value → Shared → Prop} {s : Shared} {h₀ : Heap} {L : Addr} {m : Str → Option Value} {env : Env}
end
section
variable {prog : Program} {w : World} {A : Around} {E : Value → Shared → Prop} {s : Shared} {env : Env} {h₀ : Heap} {x : PySem.Str} {body : List Stmt} {Q : Flow → Shared → Prop}
end
end Mine
end
section
open PySem PySem.W PyProof.Rows PySem.Spec PySem.Calls
set_option maxRecDepth 100000
namespace Mine
section
open LCg
variable {prog : Program} {w : World} {A : Around} {E : Value → Shared → Prop} {s : Shared} {h₀ : Heap} {L : Addr} {m : Str → Option Value} {env : Env}
end
theorem ints_at {vs : List Value} {ns : List Int} (h : IntsAre vs ns) : ∀ {i : Nat} {v : Value}, vs[i]? = some v → ∃ k t, ns[i]? = some k ∧ v = .int k t := by
  induction h with
  | nil => intro i v h; simp at h
  | cons n t hr ih =>
    intro i v h
    cases i with
    | zero => exact ⟨n, t, rfl, by simpa using h.symm⟩
    | succ i => simpa using ih (by simpa using h)
section
variable {prog : Program} {w : World} {A : Around} {E : Value → Shared → Prop} {s : Shared} {t : Tok} {Q : Value → Shared → Prop}
end
end Mine
end
section
open PySem PySem.W PyProof.Rows PySem.Spec PySem.Calls
set_option maxRecDepth 100000
namespace Mine
end Mine
end
section
open PySem PySem.W PyProof.Rows PySem.Spec PySem.Calls
set_option maxRecDepth 100000
namespace Mine
theorem iter_new {h₀ h : Heap} {L l : Addr} {m : Str → Option Value} {LED : List (Addr × Obj)} (F : Fr h₀ L h m) (N : News h₀ L h LED) :
    News h₀ L (h.push { cls := .type "list_iterator", data := .fields #[.ref l, .int 0 0] }) ((h.objs.size, { cls := .type "list_iterator", data := .fields #[.ref l, .int 0 0] }) :: LED) ∧ ∀ p ∈ LED, p.1 ≠ h.objs.size := by
  refine ⟨fun p hp => ?_, fun p hp => Nat.ne_of_lt (Heap.lt_size (N p hp).1)⟩
  rcases List.mem_cons.mp hp with rfl | hp
  · exact ⟨Heap.get?_push_size _ rfl, Ne.symm (Nat.ne_of_lt F.ns.lt), next_is_new F⟩
  · exact ⟨Heap.get?_push_of_some _ (N p hp).1, (N p hp).2⟩
theorem iter_step {h₀ h h' : Heap} {L I l : Addr} {m : Str → Option Value} {LED : List (Addr × Obj)} {oI : Obj} {i : Nat} (F : Fr h₀ L h m) (N : News h₀ L h ((I, oI) :: LED)) (off : ∀ p ∈ LED, p.1 ≠ I) (hit : h'.IsListIter I l i) (hs : Heap.SameBut I h h') :
    ∃ o', o'.cls = .type "list_iterator" ∧ o'.data = .fields #[.ref l, .int i 0] ∧ Fr h₀ L h' m ∧ News h₀ L h' ((I, o') :: LED) := by
  obtain ⟨o', h1, h2, h3⟩ := hit
  have hI := N (I, oI) List.mem_cons_self
  refine ⟨o', h2, h3, F.change hs hI.2.1 hI.2.2, fun p hp => ?_⟩
  rcases List.mem_cons.mp hp with rfl | hp
  · exact ⟨h1, hI.2⟩
  · exact ⟨(hs.2 _ (off p hp)).trans (N p (List.mem_cons_of_mem _ hp)).1, (N p (List.mem_cons_of_mem _ hp)).2⟩
theorem iter_at {h₀ h : Heap} {L I l : Addr} {LED : List (Addr × Obj)} {oI : Obj} {i : Nat} (N : News h₀ L h ((I, oI) :: LED)) (h1 : oI.cls = .type "list_iterator") (h2 : oI.data = .fields #[.ref l, .int i 0]) : h.IsListIter I l i :=
  ⟨oI, (N (I, oI) List.mem_cons_self).1, h1, h2⟩
end Mine
end
section
open PySem PySem.W PyProof.Rows PySem.Spec PySem.Calls
set_option maxRecDepth 100000
namespace Mine
section
open LCg
variable {prog : Program} {w : World} {A : Around} {E : Value → Shared → Prop} {s : Shared} {h₀ : Heap} {L : Addr} {m : Str → Option Value} {env : Env}
end
end Mine
end
section
open PySem PySem.W PyProof.Rows PySem.Spec PySem.Calls
set_option maxRecDepth 100000
namespace Mine
section
open LCg
variable {prog : Program} {w : World} {A : Around} {E : Value → Shared → Prop} {s : Shared} {h₀ : Heap} {L : Addr} {m : Str → Option Value} {env : Env}
theorem comp_relP {elt : Expr} {x : Str} {scope : Scope} {cl : List (Str × Addr)} {Fin : List Value → List (Addr × Obj) → Prop} {news : List (Addr × Obj)} {S : List (Addr × Obj) → Prop} {P : Nat → Value → Prop} {n : Nat} (Rel : Nat → Value → Prop)
    (turn : ∀ (i : Nat) v I oI C oC D m₂ ys h tk (E' : Value → Shared → Prop), P i v → NsObj oC m₂ → m₂ x = some v → Fr h₀ L h m → News h₀ L h ((I, oI) :: (C, oC) :: (D, lst ys) :: news) → Off3 I C D news → ((@Ne Nat I C) ∧ (@Ne Nat I D) ∧ (@Ne Nat C D)) →
      wpAny (model prog w) A (eval elt (compEnvC scope cl C env)) (CompEnd h₀ L m { s with heap := h, toks := tk } I oI C oC D (lst ys) S (fun y news' => news' = news ∧ Rel i y)) E' { s with heap := h, toks := tk })
    (fin : ∀ ys : List Value, ys.length = n → (∀ i y, ys[i]? = some y → Rel i y) → Fin ys news) : CompRest prog w A h₀ L m env elt x scope cl s S P Fin n 0 [] news := by
  have key : ∀ (j i : Nat) (ys : List Value), i + j = n → ys.length = i → (∀ k y, ys[k]? = some y → Rel k y) → CompRest prog w A h₀ L m env elt x scope cl s S P Fin j i ys news := by
    intro j
    induction j with
    | zero =>
      intro i ys hi hl hr
      exact CompRest.zero (fin ys (by exact Mine.r86 hl hi) hr)
    | succ j ih =>
      intro i ys hi hl hr
      refine CompRest.succ ?_
      intro v I oI C oC D m₂ h tk E' hv hC hx F N off ne
      refine wpAny_mono (turn i v I oI C oC D m₂ _ h tk E' hv hC hx F N off ne) (fun v s₂ hq => ?_) fun _ _ e => e
      obtain ⟨h', tk', nw, e, F', N', off', hS, hn, hy'⟩ := hq
      rw [hn] at N' off' hS
      refine ⟨h', tk', news, e, F', N', off', hS, ?_⟩
      refine ih (i + 1) _ (by exact Mine.r2 hi) (by simp [hl]) fun k y hk => ?_
      by_cases hlt : k < ys.length
      · rw [List.getElem?_append_left hlt] at hk
        exact hr k y hk
      · rw [List.getElem?_append_right (by exact Mine.r1 hlt)] at hk
        have hk0 : k - ys.length = 0 := by
          rcases Nat.eq_zero_or_pos (k - ys.length) with h | h
          · exact h
          · rw [List.getElem?_eq_none (by simp only [List.length_singleton]; exact h)] at hk; cases hk
        rw [hk0] at hk
        have : v = y := by simpa using hk
        subst this
        have : k = i := by exact Mine.r41 hl hk0 hlt
        subst this
        exact hy'
  exact key n 0 [] (by exact Mine.r4) rfl (fun k y hk => by simp at hk)
end
section
variable {h₀ h : Heap} {L : Addr} {m : Str → Option Value}
theorem fr_name (F : Fr h₀ L h m) : ∃ m', m' = m ∧ Fr h₀ L h m' := ⟨_, rfl, F⟩
theorem fr_ext {m' : Str → Option Value} (F : Fr h₀ L h m) (e : ∀ y, m' y = m y) : Fr h₀ L h m' := by
  have : m' = m := funext e
  rw [this]; exact F
theorem off1_mem {D : Addr} : ∀ {l : List (Addr × Obj)}, LCg.Off1 D l → ∀ p ∈ l, p.1 ≠ D
  | [], _, _, h => nomatch h
  | q :: r, h, p, hp => by
    rcases List.mem_cons.mp hp with rfl | hp
    · exact h.1
    · exact off1_mem h.2 p hp
theorem allLt_mem {d : Addr} : ∀ {l : List (Addr × Obj)}, AllLt d l → ∀ p ∈ l, @LT.lt Nat _ p.1 d
  | [], _, _, h => nomatch h
  | q :: r, h, p, hp => by
    rcases List.mem_cons.mp hp with rfl | hp
    · exact h.1
    · exact allLt_mem h.2 p hp
theorem iter_end {h' : Heap} {I : Addr} {oI : Obj} {LED : List (Addr × Obj)} (F : Fr h₀ L h m) (N : News h₀ L h ((I, oI) :: LED)) (off : ∀ p ∈ LED, p.1 ≠ I) (he : Heap.ExtBut I h h') : Fr h₀ L h' m ∧ News h₀ L h' LED := by
  have hI9 := N (I, oI) List.mem_cons_self
  exact ⟨⟨F.ns.at' fun o e => he _ _ (fun z => hI9.2.1 z.symm) e, fun b o e => he _ _ (fun z => by rw [z, hI9.2.2] at e; cases e) (F.keep b o e), F.above⟩,
    fun p hp => ⟨he _ _ (off p hp) (N p (List.mem_cons_of_mem _ hp)).1, (N p (List.mem_cons_of_mem _ hp)).2⟩⟩
theorem head_name {a : Addr} {o : Obj} {LED : List (Addr × Obj)} (N : News h₀ L h ((a, o) :: LED)) : ∃ a', a' = a ∧ News h₀ L h ((a', o) :: LED) := ⟨_, rfl, N⟩
end
end Mine
end
section
open PySem PySem.W PyProof.Rows PySem.Spec PySem.Calls
set_option maxRecDepth 100000
namespace Mine
section
variable {prog : Program} {w : World} {A : Around} {E E' : Value → Shared → Prop} {s s1 : Shared} {env : Env} {x : Str} {px : Pos} {body : List Stmt} {Q : Flow → Shared → Prop} {h₀ : Heap} {L : Addr}
inductive LoopI {δ : Type} (h₀ : Heap) (L : Addr) (s1 : Shared) (K : Nat → Obj → Prop) (mF : δ → Str → Option Value) (LED : δ → List (Addr × Obj)) (P : Addr → Nat → δ → Prop) (N : Nat) (I : Addr) (n : Nat) (s' : Shared) : Prop
  | mk (i : Nat) (d : δ) (h : Heap) (tk : Nat) (oI : Obj) (k0 : n + i = N) (k1 : s' = { s1 with heap := h, toks := tk }) (k2 : Fr h₀ L h (mF d)) (k3 : News h₀ L h ((I, oI) :: LED d)) (k4 : K i oI) (k5 : (∀ p ∈ LED d, p.1 ≠ I)) (k6 : P I i d)
inductive TurnOk {δ : Type} (h₀ : Heap) (L : Addr) (s1 : Shared) (mF : δ → Str → Option Value) (LED : δ → List (Addr × Obj)) (P : Addr → Nat → δ → Prop) (I : Addr) (oI : Obj) (i : Nat) (s' : Shared) : Prop
  | mk (d : δ) (h : Heap) (tk : Nat) (k0 : s' = { s1 with heap := h, toks := tk }) (k1 : Fr h₀ L h (mF d)) (k2 : News h₀ L h ((I, oI) :: LED d)) (k3 : (∀ p ∈ LED d, p.1 ≠ I)) (k4 : P I i d)
noncomputable def TurnEnd {δ : Type} (h₀ : Heap) (L : Addr) (s1 : Shared) (mF : δ → Str → Option Value) (LED : δ → List (Addr × Obj)) (P : Addr → Nat → δ → Prop) (I : Addr) (oI : Obj) (i : Nat) (Q : Flow → Shared → Prop) (f : Flow) (s' : Shared) : Prop := match f with
  | .next => TurnOk h₀ L s1 mF LED P I oI i s'
  | .cont => TurnOk h₀ L s1 mF LED P I oI i s'
  | .brk => Q .next s'
  | .ret v => Q (.ret v) s'
theorem turnEnd_to {δ : Type} {K : Nat → Obj → Prop} {mF : δ → Str → Option Value} {LED : δ → List (Addr × Obj)} {P : Addr → Nat → δ → Prop} {N n i : Nat} {I : Addr} {oI : Obj} (hni : n + i = N) (hi : i < N) (hK : K (i + 1) oI) (f : Flow) (s' : Shared)
    (h : TurnEnd h₀ L s1 mF LED P I oI (i + 1) Q f s') : WPost (LoopI h₀ L s1 K mF LED P N I) n Q f s' := by
  have key : TurnOk h₀ L s1 mF LED P I oI (i + 1) s' → ∃ n', n' < n ∧ LoopI h₀ L s1 K mF LED P N I n' s' := fun ⟨d, h, tk, e, F, N1, off, hP⟩ =>
    ⟨n - 1, by exact Mine.r17 hi hni, i + 1, d, h, tk, oI, by exact Mine.r19 hi hni, e, F, N1, hK, off, hP⟩
  cases f with
  | next => exact key h
  | cont => exact key h
  | brk => exact h
  | ret v => exact h
theorem off_same {I : Addr} : ∀ {a b : List (Addr × Obj)}, b.map (·.1) = a.map (·.1) → (∀ p ∈ a, p.1 ≠ I) → ∀ p ∈ b, p.1 ≠ I := by
  intro a b e h p hp
  have : p.1 ∈ b.map (·.1) := List.mem_map_of_mem hp
  rw [e] at this
  obtain ⟨q, hq, hqe⟩ := List.mem_map.mp this
  rw [← hqe]; exact h q hq
noncomputable abbrev rngIt (n : Nat) (i : Nat) (o : Obj) : Prop := o = { cls := .type "range_iterator", dict := none, data := .fields #[rawInt (i : Int), rawInt ((n : Int) - (i : Int)), rawInt 1], slots := #[] }
theorem over_range {δ : Type} (mF : δ → Str → Option Value) (LED : δ → List (Addr × Obj)) (P : Addr → Nat → δ → Prop) (d0 : δ) {R : Addr} (n : Nat) {t1 t2 t3 : Tok} {m : Str → Option Value} {news : List (Addr × Obj)}
    (F : Fr h₀ L s.heap m) (N : News h₀ L s.heap news) (hs : ∃ h tk, s = { s1 with heap := h, toks := tk }) (hm : ∀ y, mF d0 y = m y) (hl : ∀ p ∈ LED d0, p ∈ news) (hP : ∀ I, (∀ p ∈ news, p.1 ≠ I) → P I 0 d0)
    (hR : IsRange s.heap R 0 n 1 t1 t2 t3) (hsm : Builtin.Range.small 0 n 1 = true) (hsz : Builtin.Range.rangeSize 0 n 1 = n)
    (turn : ∀ I oI i d h tk t, i < n → Fr h₀ L h (mF d) → News h₀ L h ((I, oI) :: LED d) → (∀ p ∈ LED d, p.1 ≠ I) → P I i d →
      wpAny (model prog w) A (assign (.Name x px) env (.int (i : Int) t)) (fun _ s₂ => wpAny (model prog w) A (execs body env) (TurnEnd h₀ L s1 mF LED P I oI (i + 1) Q) E s₂) E { s1 with heap := h, toks := tk })
    (fin : ∀ I d h tk, Fr h₀ L h (mF d) → News h₀ L h (LED d) → P I n d → wpAny (model prog w) A (execs [] env) Q E { s1 with heap := h, toks := tk })
    (hE : PassesOwn (model prog w) A env E) (hh0 : A.handled = none) (ht : ∀ it v, letOwnedTupleGo (.Name x px) it v = pure () := by intro _ _; rfl) :
    wpAny (model prog w) A (pyIter (.ref R)) (fun it s₂ => codeAny (model prog w) A (.forLoop (.Name x px) it body [] env) (fun r s' => match r with | .ok f => Q f s' | .error e => cameBackBy (model prog w) A env E e s') s₂) E' s := by
  obtain ⟨hh, tk, rfl⟩ := hs
  have hoff0 : ∀ p ∈ news, p.1 ≠ hh.objs.size := fun p hp => Nat.ne_of_lt (Heap.lt_size (N p hp).1)
  refine wpAny_pyIter_range hR hsm ?_
  have N2 : News h₀ L (hh.push { cls := .type "range_iterator", data := .fields #[rawInt 0, rawInt (Builtin.Range.rangeSize 0 n 1), rawInt 1] }) ((hh.objs.size, { cls := .type "range_iterator", data := .fields #[rawInt 0, rawInt (Builtin.Range.rangeSize 0 n 1), rawInt 1] }) :: news) := by
    intro p hp
    rcases List.mem_cons.mp hp with rfl | hp
    · exact ⟨Heap.get?_push_size _ rfl, Ne.symm (Nat.ne_of_lt F.ns.lt), next_is_new F⟩
    · exact ⟨Heap.get?_push_of_some _ (N p hp).1, (N p hp).2⟩
  have F2 := F.push { cls := .type "range_iterator", data := .fields #[rawInt 0, rawInt (Builtin.Range.rangeSize 0 n 1), rawInt 1] }
  rw [hsz] at N2 F2 ⊢
  dsimp only at N2 F2 ⊢
  generalize hI9 : hh.objs.size = I at *
  refine for_ind hE (LoopI h₀ L s1 (rngIt n) mF LED P n I) ?_ n ⟨0, d0, _, tk, { cls := .type "range_iterator", data := .fields #[rawInt 0, rawInt n, rawInt 1] }, rfl, rfl, fr_ext F2 hm, fun p hp => ?_, rfl, fun p hp => hoff0 p (hl p hp), hP I hoff0⟩ (ht _)
  · intro k s' ⟨i, d, h, tk, oI, hni, e, F3, N3, hK, off, hp⟩
    subst e
    have hI := N3 (I, oI) List.mem_cons_self
    have hit : IsRangeIter h I (i : Int) ((n : Int) - (i : Int)) 1 := by have z := hI.1; rw [hK] at z; exact z
    by_cases hi : i < n
    · refine wpAny_pyNext_range_item hit (by exact Mine.r97 hi) fun h' hit' hs' => ?_
      have F4 : Fr h₀ L h' (mF d) := F3.change hs' hI.2.1 hI.2.2
      have e1 : ((n : Int) - (i : Int) - 1) = ((n : Int) - ((i + 1 : Nat) : Int)) := by exact Mine.r112
      have N4 : News h₀ L h' ((I, { cls := .type "range_iterator", dict := none, data := .fields #[rawInt ((i + 1 : Nat) : Int), rawInt ((n : Int) - ((i + 1 : Nat) : Int)), rawInt 1], slots := #[] }) :: LED d) := fun p hp => by
        rcases List.mem_cons.mp hp with rfl | hp
        · exact ⟨by rw [← e1]; exact hit', hI.2⟩
        · exact ⟨(hs'.2 _ (off p hp)).trans (N3 p (List.mem_cons_of_mem _ hp)).1, (N3 p (List.mem_cons_of_mem _ hp)).2⟩
      dsimp only [ForTurn]
      refine wpAny_mono (turn I _ i d h' (tk + 1) _ hi F4 N4 off hp) (fun _ s₂ h2 => ?_) fun _ _ e => e
      exact wpAny_mono h2 (fun f s₃ h3 => turnEnd_to (K := rngIt n) hni hi rfl f s₃ h3) fun _ _ e => e
    · have hie : i = n := by exact Mine.r15 hni hi
      subst hie
      refine wpAny_pyNext_range_end hh0 hit (by exact Mine.r91) fun h' he => ?_
      obtain ⟨F5, N5⟩ := iter_end F3 N3 off he
      dsimp only [ForTurn]
      exact fin I d h' tk F5 N5 hp
  · rcases List.mem_cons.mp hp with rfl | hp
    · exact N2 _ (.head _)
    · exact N2 _ (.tail _ (hl p hp))
theorem fr_abc {a b c : Str} {f g : Str → Option Value} {h : Heap} (F : Fr h₀ L h f) (ha : g a = f a) (hb : g b = f b) (hc : g c = f c) (ho : ∀ y, y ≠ a → y ≠ b → y ≠ c → g y = f y) : Fr h₀ L h g := fr_ext F fun y => by
  by_cases h1 : y = a
  · rw [h1, ha]
  by_cases h2 : y = b
  · rw [h2, hb]
  by_cases h3 : y = c
  · rw [h3, hc]
  exact ho y h1 h2 h3
end
end Mine
end
section
open PySem PySem.W PyProof.Rows PySem.Spec PySem.Calls
set_option maxRecDepth 100000
namespace Mine
section
open LCg LCt
variable {prog : Program} {w : World} {A : Around} {E : Value → Shared → Prop} {s : Shared} {h₀ : Heap} {L : Addr} {m : Str → Option Value} {env : Env}
theorem ints_snoc {ys : List Value} {l : List Nat} {a : Nat} {t : Tok} (h : IntsAre ys (l.map Int.ofNat)) : IntsAre (ys ++ [.int (a : Int) t]) ((l ++ [a]).map Int.ofNat) := by
  rw [List.map_append]
  exact IntsAre.append h (.cons _ _ .nil)
theorem comp_ints {ct elt : Expr} {x : Str} {scope : Scope} {cl : List (Str × Addr)} {Fin : List Value → List (Addr × Obj) → Prop} {news : List (Addr × Obj)} {S : List (Addr × Obj) → Prop} {P : Nat → Value → Prop} (src : List Nat) (keep : Nat → Bool)
    (hP : ∀ i v, P i v → i < src.length → ∃ a t, src[i]? = some a ∧ v = .int (a : Int) t)
    (turn : ∀ (i a : Nat) t I oI C oC D m₂ ys h tk (E' : Value → Shared → Prop), src[i]? = some a → NsObj oC m₂ → m₂ x = some (.int (a : Int) t) → Fr h₀ L h m → News h₀ L h ((I, oI) :: (C, oC) :: (D, lst ys) :: news) → Off3 I C D news → ((@Ne Nat I C) ∧ (@Ne Nat I D) ∧ (@Ne Nat C D)) →
      wpAny (model prog w) A (isTrue ct (compEnvC scope cl C env) (eval ct (compEnvC scope cl C env))) (fun ok s' => if ok = true then
        wpAny (model prog w) A (eval elt (compEnvC scope cl C env)) (CompEnd h₀ L m { s with heap := h, toks := tk } I oI C oC D (lst ys) S (fun y news' => news' = news ∧ keep a = true ∧ ∃ u, y = .int (a : Int) u)) E' s'
        else CompEnd h₀ L m { s with heap := h, toks := tk } I oI C oC D (lst ys) S (fun _ news' => news' = news ∧ keep a = false) Value.none s') E' { s with heap := h, toks := tk })
    (fin : ∀ ys : List Value, IntsAre ys ((src.filter keep).map Int.ofNat) → Fin ys news) : CompRestT prog w A h₀ L m env ct elt x scope cl s S P Fin src.length 0 [] news := by
  have key : ∀ (j i : Nat) (ys : List Value), i + j = src.length → IntsAre ys (((src.take i).filter keep).map Int.ofNat) → CompRestT prog w A h₀ L m env ct elt x scope cl s S P Fin j i ys news := by
    intro j
    induction j with
    | zero =>
      intro i ys hi hr
      refine CompRestT.zero (fin ys ?_)
      rw [List.take_of_length_le (by exact Mine.r26 hi)] at hr
      exact hr
    | succ j ih =>
      intro i ys hi hr
      refine CompRestT.succ ?_
      intro v I oI C oC D m₂ h tk E' hv hC hmx F N off ne
      obtain ⟨a, t, ha, rfl⟩ := hP i v hv (by exact Mine.r31 hi)
      have htk : src.take (i + 1) = src.take i ++ [a] := by rw [List.take_add_one, ha]; rfl
      refine wpAny_mono (turn i a t I oI C oC D m₂ _ h tk E' ha hC hmx F N off ne) (fun ok s' hq => ?_) fun _ _ e => e
      cases ok with
      | true =>
        simp only [if_true] at hq ⊢
        refine wpAny_mono hq (fun y s₂ hq => ?_) fun _ _ e => e
        obtain ⟨h', tk', nw, e, F', N', off', hS, hn, hk, u, hy⟩ := hq
        rw [hn] at N' off' hS
        subst hy
        refine ⟨h', tk', news, e, F', N', off', hS, ih (i + 1) _ (by exact Mine.r2 hi) ?_⟩
        rw [htk, List.filter_append, show [a].filter keep = [a] by simp [List.filter_cons, hk]]
        exact ints_snoc hr
      | false =>
        simp only [Bool.false_eq_true, if_false] at hq ⊢
        obtain ⟨h', tk', nw, e, F', N', off', hS, hn, hk⟩ := hq
        rw [hn] at N' off' hS
        refine ⟨h', tk', news, e, F', N', off', hS, ih (i + 1) _ (by exact Mine.r2 hi) ?_⟩
        rw [htk, List.filter_append, show [a].filter keep = [] by simp [List.filter_cons, hk], List.append_nil]
        exact hr
  exact key src.length 0 [] (by exact Mine.r4) .nil
theorem src_range {n : Nat} {a : Int} (ha : a = 0) : ∀ (i : Nat) (v : Value), (∃ t, v = .int (a + (i : Int)) t) → i < (List.range n).length → ∃ b t, (List.range n)[i]? = some b ∧ v = .int ((b : Nat) : Int) t := by
  intro i v ⟨t, e⟩ hi
  subst ha
  refine ⟨i, t, ?_, by rw [e, Int.zero_add]⟩
  rw [List.length_range] at hi
  rw [List.getElem?_range hi]
theorem src_list {its : List Value} {src : List Nat} (h : IntsAre its (src.map Int.ofNat)) : ∀ (i : Nat) (v : Value), its.toArray[i]? = some v → i < src.length → ∃ b t, src[i]? = some b ∧ v = .int ((b : Nat) : Int) t := by
  intro i v hv hi
  obtain ⟨k, t, hk, e⟩ := ints_at h (by simpa using hv)
  rw [List.getElem?_map] at hk
  cases q : src[i]? with
  | none => rw [q] at hk; cases hk
  | some b =>
    rw [q] at hk
    cases hk
    exact ⟨b, t, rfl, e⟩
end
end Mine
end
section
open PySem PySem.W PyProof.Rows PySem.Spec PySem.Calls
set_option maxRecDepth 100000
namespace Mine
section
open LCg
variable {M : Model} {A : Around} {E : Value → Shared → Prop} {s : Shared}
theorem push_head {h₀ h : Heap} {L : Addr} {m : Str → Option Value} {o : Obj} {r : List (Addr × Obj)} (F : Fr h₀ L h m) (N : News h₀ L h r) (hof : o.isFreed = false) :
    News h₀ L (h.push o) ((h.objs.size, o) :: r) ∧ ∀ p ∈ r, @LT.lt Nat _ p.1 h.objs.size := by
  refine ⟨fun p hp => ?_, fun p hp => Heap.lt_size (N p hp).1⟩
  rcases List.mem_cons.mp hp with rfl | hp
  · exact ⟨Heap.get?_push_size _ hof, Ne.symm (Nat.ne_of_lt F.ns.lt), next_is_new F⟩
  · exact ⟨Heap.get?_push_of_some _ (N p hp).1, (N p hp).2⟩
end
section
open LCg
variable {prog : Program} {w : World} {A : Around} {E : Value → Shared → Prop} {s : Shared} {h₀ : Heap} {L : Addr} {m : Str → Option Value} {env : Env}
end
end Mine
end
section
open PySem PySem.W PyProof.Rows PySem.Spec PySem.Calls
set_option maxRecDepth 100000
namespace Mine
section
variable {prog : Program} {w : World} {A : Around} {E : Value → Shared → Prop} {s : Shared} {h₀ : Heap} {L D b : Addr} {m : Str → Option Value} {news news' : List (Addr × Obj)} {n n2 : Nat}
theorem extend_any {xs ys : List Value} {Q : Value → Shared → Prop} (F : Fr h₀ L s.heap m) (N : News h₀ L s.heap news) (hb : (b, W.listOf ys.toArray n2) ∈ news)
    (U : Upd D (W.listOf xs.toArray n) (W.listOf (xs ++ ys).toArray (if ys = [] then n else n + 1)) news news') (hz : xs.length + ys.length ≤ 1000)
    (h : ∀ h', Fr h₀ L h' m → News h₀ L h' news' → Q .none { s with heap := h' }) : wpAny (model prog w) A (call (.builtin "list.extend") [.ref D, .ref b]) Q E s := by
  obtain ⟨pre, post, rfl, rfl, a, c⟩ := U.split
  have z := N (D, W.listOf xs.toArray n) (List.mem_append.mpr (.inr (.head _)))
  have hd : ¬(!xs.toArray.isEmpty && Builtin.List.listTooLong (xs.toArray.size + ys.toArray.size)) = true := by
    have : Builtin.List.listTooLong (xs.length + ys.length) = false := by
      unfold Builtin.List.listTooLong
      have := sizeLine_eq
      simp
      exact Mine.r103 this hz
    rw [List.size_toArray, List.size_toArray, this]; simp
  refine call_meets PySem.F.slot_list_extend ⟨_, z.1, rfl⟩ PySem.F.entry_list_extend (PySem.F.args_list_extend_2 _ _) (PySem.AutoSeq1.list_extend_list_list_0 D xs.toArray n b ys.toArray n2 hd (by rw [List.size_toArray, sizeLine_eq]; exact Mine.r88 hz) (by rw [List.size_toArray, List.size_toArray, sizeLine_eq]; exact Mine.r102 hz)) ⟨z.1, (N _ hb).1, h _ (F.change (Heap.SameBut.update ..) z.2.1 z.2.2) ?_⟩
  cases ys with
  | nil =>
    have := kl_turn0 (fun x => x ++ ([] : List Value).toArray) N a c (its' := xs.toArray) (by simp) rfl
    simpa using this
  | cons y r =>
    refine kl_turn (fun x => x ++ (y :: r).toArray) N a c ?_ ?_
    · apply Array.toList_inj.mp
      simp
    · simp
end
end Mine
end
section
open PySem PySem.W PyProof.Rows PySem.Spec PySem.Calls
set_option maxRecDepth 100000
namespace Mine
noncomputable def GoodB (c : ClaimW) (cl : Str → Option Addr) (mean : ExcName → Option Value) (args : List WData) (s₁ : Shared) (res : Result) (s' : Shared) : Prop :=
  ((∃ v d as, res = .ok (.ret v) ∧ (∀ cls, c.raises args cls = false) ∧ ReadsW c.records cl s'.heap v d as ∧ c.post args d args = true ∧
      (c.unshared = true → as.Nodup ∧ ∀ a ∈ as, s₁.heap.get? a = none)) ∨
    (∃ e ob cls, res = .error (.ref e) ∧ s'.heap.get? e = some ob ∧ mean cls = some ob.cls ∧ c.raises args cls = true ∧ s₁.heap.get? e = none)) ∧
  (∀ b o, s₁.heap.get? b = some o → s'.heap.get? b = some o) ∧ s'.os = s₁.os ∧ AllBare s'.gens
theorem kn_postB {M : Model} {A : Around} {cd : Code} {s s₁ : Shared} {cw : ClaimW} {cl : Str → Option Addr} {mean : ExcName → Option Value} {args : List WData} {tabs : List (Addr × Addr)} (hT : TabsAt tabs s₁.heap) (hr : ∀ a x, cw.raises a x = false)
    (h : codeAny M A cd (fun r s' => GoodB cw cl mean args { s₁ with heap := ghostOf s₁.heap tabs } r s' ∧ GrownAll tabs s'.heap) s) : codeAny M A cd (GoodWG cw cl mean args s₁) s :=
  codeAny_mono h fun r s' ⟨⟨hc, hk, hos, hg⟩, hgr⟩ => by
    have keep : ∀ b o, b ∉ tabs.map (·.2) → s₁.heap.get? b = some o → s'.heap.get? b = some o := fun b o hb e => hk b o (ghost_ne e hb)
    have grown : ∀ b o, b ∈ tabs.map (·.2) → s₁.heap.get? b = some o → isCodeTable s₁.heap b ∧ o = tabObj #[] ∧ ∃ ps, s'.heap.get? b = some (tabObj ps) := fun b o hb e => by
      obtain ⟨q, hq, rfl⟩ := List.mem_map.mp hb
      have e2 := (hT q hq).2
      rw [e] at e2
      exact ⟨((hT q hq).1.tab (hT q hq).2).isCodeTable, Option.some.inj e2, hgr.get q hq⟩
    refine ⟨?_, ⟨fun b o e => ?_, fun b o e => ?_⟩, hos, hg⟩
    · rcases hc with ⟨v, d, as, r1, r2, r3, r4, r5⟩ | ⟨e, ob, x, _, _, _, r4, _⟩
      · refine .inl ⟨v, d, as, r1, r2, r3, r4, fun q => ⟨(r5 q).1, fun a ha => ?_⟩⟩
        cases q1 : s₁.heap.get? a with
        | none => rfl
        | some o =>
          by_cases hb : a ∈ tabs.map (·.2)
          · obtain ⟨_, _, ps, hP⟩ := grown a o hb q1
            exact absurd ha (readsW_apart hP rfl r3)
          · have e3 := (r5 q).2 a ha
            rw [show (ghostOf s₁.heap tabs).get? a = some o from ghost_ne q1 hb] at e3
            cases e3
      · rw [hr] at r4; cases r4
    · by_cases hb : b ∈ tabs.map (·.2)
      · obtain ⟨ht, rfl, ps, hP⟩ := grown b o hb e
        exact .inr (.inl ⟨ht, rfl, #[], ps, rfl, by rw [Array.empty_append]; exact hP⟩)
      · exact .inl (keep b o hb e)
    · by_cases hb : b ∈ tabs.map (·.2)
      · obtain ⟨_, _, ps, hP⟩ := grown b o hb e
        exact ⟨_, hP⟩
      · exact ⟨o, keep b o hb e⟩
theorem good_turnB {c : ClaimW} {cl : Str → Option Addr} {mean : ExcName → Option Value} {args : List WData} {s₁ s' : Shared} {L : Addr} {m : Str → Option Value} {hb : Heap} {b : Bool}
    (T : KtsTurn [] s₁.heap hb) (F : Fr hb L s'.heap m) (hg : AllBare s'.gens) (hn : ∀ cls, c.raises args cls = false) (hp : c.post args (.bool b) args = true) (hos : s'.os = s₁.os := by rfl) : GoodB c cl mean args s₁ (.ok (.ret (.bool b))) s' :=
  ⟨.inl ⟨_, _, _, rfl, hn, .bool b, hp, unshared_nil⟩, fun a o e => F.keep a o (T.other a o e (by simp)), hos, hg⟩
theorem is_ref_same {M : Model} {A : Around} {E : Value → Shared → Prop} {s : Shared} {a : Addr} {Q : Value → Shared → Prop} (h : Q (.bool true) s) : wpAny M A (compareOp .Is (.ref a) (.ref a)) Q E s := by
  show wpAny M A (do return Value.bool (← isSame (.ref a) (.ref a))) Q E s
  exact wpAny_bind (wpAny_isSame_ref_self (wpAny_pure h))
theorem bare_fin {gens : Array GenState} (h : gens = #[]) : AllBare (gens.push .finished) := AllBare.push (AllBare.of_eq h) rfl
end Mine
end
section
open PySem PySem.W PyProof.Rows PySem.Spec PySem.Calls PySem.NumText
set_option maxRecDepth 100000
namespace Mine
theorem typeCall_int_2 (a b : Value) : checkTypeCall "int" ⟨[a, b], []⟩ = pure () := by kernel_rfl
theorem newCall_int_2 (a b : Value) : checkBuiltinCall "int.__new__" ⟨[.type "int", a, b], []⟩ = pure () := by kernel_rfl
structure HidT (p : Prop) : Prop where
  out : p
set_option maxHeartbeats 4000000 in
theorem gives_base2 {x : PySem.Str} {u v : Tok} {n : Int} (ha : x.cps.all (· < 128) = true) (hl : (x.cps.toList.takeWhile (· != 0)).length ≤ 640) (hz : ((x.cps.toList.takeWhile (· != 0)).length == x.cps.toList.length) = true)
    (hn : (int_private% "readNumeral") 0 2 (x.cps.toList.takeWhile (· != 0)) = (int_private% "Numeral.value") n) : Gives (Builtin.«int.__new__» ⟨[.type "int", .str x u, .int 2 v], []⟩) (.int n) :=
  .of_wp fun M A E s Q h => by
    obtain ⟨hp, g, d, tk, os⟩ := s
    have f1 := F.conv_sub_int
    have f2 := F.madeHere_int
    have f6 : typeOf (.str x u) = pure (.type "str") := rfl
    have hk := HidT.mk (And.intro hl (And.intro hn hz))
    have hq := HidT.mk ha
    clear hl hn hz ha
    repeat (any_goals (first
      | assumption
      | ((with_reducible show wpAny _ _ ((int_private% "intFromText") _ _ _) _ _ _); refine wp_text2 hk.out.1 hk.out.2.1 hk.out.2.2 ?_)
      | wp_step))
    have e2 : Int.toNat 2 = 2 := rfl
    simp only [hq.out, if_true, e2]
    repeat (any_goals (first
      | assumption
      | (with_reducible refine wpAny_ite_true (decide_eq_true hk.out.1) ?_)
      | (with_reducible refine wpAny_ite_true (decide_eq_true hk.out.2.2) ?_)
      | wp_step))
    all_goals (try rw [hk.out.2.1])
    all_goals (try dsimp only)
    repeat (any_goals (first
      | assumption
      | (with_reducible refine wpAny_ite_true (decide_eq_true hk.out.1) ?_)
      | (with_reducible refine wpAny_ite_true (decide_eq_true hk.out.2.2) ?_)
      | wp_step))
    all_goals exact ⟨_, rfl, h⟩
section
variable {prog : Program} {w : World} {A : Around} {E : Value → Shared → Prop} {s : Shared} {Q : Value → Shared → Prop}
theorem call_base2 {x : PySem.Str} {t u : Tok} {n : Int} (ha : x.cps.all (· < 128) = true) (hl : (x.cps.toList.takeWhile (· != 0)).length ≤ 640) (hz : ((x.cps.toList.takeWhile (· != 0)).length == x.cps.toList.length) = true)
    (hn : (int_private% "readNumeral") 0 2 (x.cps.toList.takeWhile (· != 0)) = (int_private% "Numeral.value") n) (h : Q (.int n s.toks) { s with toks := s.toks + 1 }) :
    wpAny (model prog w) A (call (.type "int") [.str x t, .int 2 u]) Q E s :=
  callType_new F.called_int F.newNe_int (typeCall_int_2 _ _) (newCall_int_2 _ _) (fun obj => PySem.F.args_object_init_3 _ _ _) F.entry_int_new (gives_base2 ha hl hz hn).meets (show (Made.int n).post _ s from ⟨rfl, h⟩)
end
noncomputable def sgn (b : Bool) : Nat := if b then 49 else 48
noncomputable def code (w : List Bool) : Nat := w.foldl (fun a b => 2 * a + b.toNat) 1
noncomputable def ndStep (r : Array Nat × Bool) (c : Nat) : Option (Array Nat × Bool) :=
  if c == 95 then (if r.2 then some (r.1, false) else none)
  else match (int_private% "digitValue?") c with
    | some d => if d < 2 then some (r.1.push d, true) else none
    | none => none
theorem nd_eq (cs : List Nat) : (int_private% "numeralDigits?") 2 cs = ((cs.foldlM ndStep ((#[] : Array Nat), false)).bind fun r => if r.2 then some r.1 else none) := rfl
theorem nd_step (r : Array Nat × Bool) (b : Bool) : ndStep r (sgn b) = some (r.1.push b.toNat, true) := by
  cases b <;> rfl
theorem nd_fold : ∀ (w : List Bool) (r : Array Nat × Bool), (w.map sgn).foldlM ndStep r = some (r.1 ++ (w.map Bool.toNat).toArray, r.2 || !w.isEmpty)
  | [], r => by simp
  | b :: w, r => by
    rw [List.map_cons, List.foldlM_cons, nd_step]
    show (w.map sgn).foldlM ndStep _ = _
    rw [nd_fold w]
    simp
theorem nd_word (w : List Bool) : (int_private% "numeralDigits?") 2 (49 :: w.map sgn) = some (#[1] ++ (w.map Bool.toNat).toArray) := by
  have e : (49 :: w.map sgn) = (true :: w).map sgn := rfl
  rw [nd_eq, e, nd_fold]
  simp
theorem rd_eq (r : List Nat) : (int_private% "readNumeral") 0 2 (49 :: r) = (match (int_private% "numeralDigits?") 2 (((49 :: r).reverse.dropWhile (int_private% "isBlank")).reverse) with
    | none => (int_private% "Numeral.invalid")
    | some ds => (int_private% "Numeral.value") ((ds.foldl (fun acc d => acc * 2 + d) 0 : Nat) : Int)) := rfl
theorem sgn_bl (b : Bool) : (int_private% "isBlank") (sgn b) = false := by cases b <;> rfl
theorem dw_word (w : List Bool) : (((49 :: w.map sgn).reverse.dropWhile (int_private% "isBlank")).reverse) = 49 :: w.map sgn := by
  have key : ∀ v : List Bool, v ≠ [] → ((v.map sgn).reverse.dropWhile (int_private% "isBlank")).reverse = v.map sgn := by
    intro v hv
    obtain ⟨p, b, rfl⟩ : ∃ p b, v = p ++ [b] := ⟨v.dropLast, v.getLast hv, (List.dropLast_concat_getLast hv).symm⟩
    rw [List.map_append, List.reverse_append]
    show (((sgn b :: (p.map sgn).reverse).dropWhile _).reverse) = _
    rw [List.dropWhile_cons, sgn_bl]
    simp
  exact key (true :: w) (by simp)
theorem tw_all : ∀ (l : List Nat), (∀ c ∈ l, (c != 0) = true) → l.takeWhile (· != 0) = l
  | [], _ => rfl
  | a :: r, h => by
    rw [List.takeWhile_cons, h a (.head _)]
    simp only [if_true]
    rw [tw_all r fun c hc => h c (.tail _ hc)]
theorem fold_code : ∀ (w : List Bool) (a : Nat), (w.map Bool.toNat).foldl (fun acc d => acc * 2 + d) a = w.foldl (fun a b => 2 * a + b.toNat) a
  | [], _ => rfl
  | b :: w, a => by
    rw [List.map_cons, List.foldl_cons, List.foldl_cons, fold_code w, Nat.mul_comm]
theorem read_word (w : List Bool) : (int_private% "readNumeral") 0 2 (49 :: w.map sgn) = (int_private% "Numeral.value") ((code w : Nat) : Int) := by
  rw [rd_eq, dw_word, nd_word]
  dsimp only
  have e : (#[1] ++ (w.map Bool.toNat).toArray).foldl (fun acc d => acc * 2 + d) 0 = code w := by
    rw [← Array.foldl_toList]
    simp only [Array.toList_append, List.foldl_append]
    exact fold_code w 1
  rw [e]
noncomputable def wordStr (w : List Bool) : Str := ⟨(w.map sgn).toArray⟩
section
variable {prog : Program} {w : World} {A : Around} {E : Value → Shared → Prop} {s : Shared} {Q : Value → Shared → Prop}
theorem call_word {v : List Bool} {t u : Tok} (hv : v.length ≤ 100) (h : Q (.int ((code v : Nat) : Int) s.toks) { s with toks := s.toks + 1 }) :
    wpAny (model prog w) A (call (.type "int") [.str (Str.ofString "1" ++ wordStr v) t, .int 2 u]) Q E s := by
  have e : (Str.ofString "1" ++ wordStr v).cps.toList = 49 :: v.map sgn := by
    show ((Str.ofString "1").cps ++ (wordStr v).cps).toList = _
    rw [Array.toList_append, show (Str.ofString "1").cps.toList = [49] by decide +kernel]
    simp [wordStr]
  have hne : ∀ c ∈ (49 :: v.map sgn), c != 0 := by
    intro c hc
    rcases List.mem_cons.mp hc with rfl | hc
    · rfl
    · obtain ⟨b, -, rfl⟩ := List.mem_map.mp hc
      cases b <;> rfl
  have htw : (49 :: v.map sgn).takeWhile (· != 0) = 49 :: v.map sgn := tw_all _ hne
  refine call_base2 ?_ ?_ ?_ ?_ h
  · rw [← Array.all_toList, e, List.all_eq_true]
    intro c hc
    rcases List.mem_cons.mp hc with rfl | hc
    · rfl
    · obtain ⟨b, -, rfl⟩ := List.mem_map.mp hc
      cases b <;> rfl
  · rw [e, htw, List.length_cons, List.length_map]; exact Mine.r234 hv
  · rw [e, htw]; simp
  · rw [e, htw]; exact read_word v
end
end Mine
end
section
open PySem PySem.W PyProof.Rows PySem.Spec PySem.Calls
set_option maxRecDepth 100000
namespace Mine
noncomputable def hp (a b : Int) : Int := reduceHash (Builtin.Tuple.tupleHashOf [hashInt a, hashInt b])
theorem kind_hash' : builtinKind "hash" = none := by decide +kernel
theorem plain_hash' : plainId "hash" = true := by decide +kernel
theorem entry_hash' : entryFor table "hash" = some Builtin.«hash» := entryFor_of_fast (by kernel_rfl)
theorem args_hash1' (a : Value) : argsOk "hash" ⟨[a], []⟩ := by unfold argsOk; kernel_rfl
section
variable {prog : Program} {w : World} {A : Around} {E : Value → Shared → Prop} {s : Shared} {D : Addr} {a b : Int} {t u : Tok}
theorem hash_pair {Q : Value → Shared → Prop} (hu : A.in1.units < cLine) (hD : s.heap.get? D = some { cls := .type "tuple", data := .seq #[.int a t, .int b u] }) (h : ∀ t' tk', Q (.int (hp a b) t') { s with toks := tk' }) :
    wpAny (model prog w) A (call (.builtin "hash") [.ref D]) Q E s := by
  refine call_function_entry kind_hash' plain_hash' entry_hash' (args_hash1' _) ?_
  show wpAny _ _ (pure (Value.ref D) >>= fun x => pyHash x >>= fun i => retInt i) _ _ s
  refine wpAny_bind (wpAny_pure ?_)
  have hi : ItemsAre (PySem.intKind prog w) [a, b] [Value.int a t, .int b u] := .cons (intKind_is _ _ _ _) (.cons (intKind_is _ _ _ _) .nil)
  refine wpAny_bind (wpAny_pyHash_tuple (knd := PySem.intKind prog w) (ks := [a, b]) hu ⟨_, _, _, hD, rfl, rfl, hi⟩ ?_)
  exact wpAny_ret_mkInt (h _ _)
end
end Mine
end
section
open PySem PySem.W PyProof.Rows
set_option maxRecDepth 100000
namespace Mine
noncomputable def unrot (a : Nat) : Nat := (a * 2 ^ 33) % 2 ^ 64 + a / 2 ^ 31
noncomputable def unhash (h : Int) : Nat :=
  let m : Nat := 2 ^ 64
  let a3 := (h % (m : Int)).toNat
  let a2 := (a3 + (m - (2 ^^^ (2870177450012600261 ^^^ 3527539)))) % m
  let a1 := unrot ((a2 * 614540362697595703) % m)
  let a0 := unrot ((a1 * 614540362697595703) % m)
  ((a0 + (m - 2870177450012600261)) * 839798700976720815) % m
noncomputable def hpChk (n : Nat) : Bool := unhash (hp (n : Int) 0) == n && decide (-2 ^ 63 ≤ hp (n : Int) 0) && decide (hp (n : Int) 0 < 2 ^ 63) && !(hp (n : Int) 0 == -1)
theorem hp_all : (List.range 128).all (fun a => (List.range 64).all fun b => hpChk (64 * a + b)) = true := by decide +kernel
theorem hp_chk {n : Nat} (h : n < 8192) : hpChk n = true := by
  have h1 := List.all_eq_true.mp hp_all (n / 64) (List.mem_range.mpr (by exact Mine.r248 h))
  have h2 := List.all_eq_true.mp h1 (n % 64) (List.mem_range.mpr (by exact Mine.r130))
  rw [show 64 * (n / 64) + n % 64 = n by exact Mine.r298] at h2
  exact h2
theorem hp_ok8 {n : Nat} (h : n < 8192) : -2 ^ 63 ≤ hp (n : Int) 0 ∧ hp (n : Int) 0 < 2 ^ 63 ∧ hp (n : Int) 0 ≠ -1 := by
  have := hp_chk h
  simp only [hpChk, Bool.and_eq_true, decide_eq_true_eq, Bool.not_eq_true', beq_eq_false_iff_ne, beq_iff_eq] at this
  exact ⟨this.1.1.2, this.1.2, this.2⟩
theorem hp_inj8 {u v : Nat} (hu : u < 8192) (hv : v < 8192) (e : hp (u : Int) 0 = hp (v : Int) 0) : u = v := by
  have h1 := hp_chk hu
  have h2 := hp_chk hv
  simp only [hpChk, Bool.and_eq_true, decide_eq_true_eq, Bool.not_eq_true', beq_eq_false_iff_ne, beq_iff_eq] at h1 h2
  rw [← h1.1.1.1, e, h2.1.1.1]
theorem sgn_inj {a b : Bool} (h : sgn a = sgn b) : a = b := by cases a <;> cases b <;> first | rfl | exact absurd h (by decide)
theorem wordStr_inj {u v : List Bool} (h : wordStr u = wordStr v) : u = v := by
  have e : u.map sgn = v.map sgn := by
    have := congrArg (fun x : Str => x.cps.toList) h
    simpa [wordStr] using this
  exact List.map_inj_right (fun _ _ => sgn_inj) |>.mp e
theorem wordStr_len (v : List Bool) : (wordStr v).length = v.length := by simp [wordStr, Str.length]
theorem slice_last (v : List Bool) : Txt.slice (wordStr v) none (some (-1)) = wordStr v.dropLast := by
  by_cases hv : v = []
  · subst hv; decide +kernel
  · have hl : 0 < v.length := List.length_pos_iff.mpr hv
    show StrLaws.sliceText (wordStr v) none (some (-1)) = _
    rw [StrLaws.sliceText_to_neg (by decide) (by rw [wordStr_len]; exact Mine.r270 hl), wordStr_len]
    have e : (wordStr v).cps.toList = v.map sgn := by simp [wordStr]
    rw [e, List.drop_zero, show ((-1 : Int) + (v.length : Int) - 0).toNat = v.length - 1 by omega]
    show _ = (⟨(v.dropLast.map sgn).toArray⟩ : Str)
    rw [List.dropLast_eq_take, List.map_take]
theorem wordStr_snoc (v : List Bool) (b : Bool) : wordStr v ++ (if b then Str.ofString "1" else Str.ofString "0") = wordStr (v ++ [b]) := by
  have h0 : (Str.ofString "0").cps = #[48] := by decide +kernel
  have h1 : (Str.ofString "1").cps = #[49] := by decide +kernel
  show (⟨_ ++ _⟩ : Str) = ⟨_⟩
  congr 1
  cases b
  · simp only [Bool.false_eq_true, if_false, h0]; simp [wordStr, sgn]
  · simp only [if_true, h1]; simp [wordStr, sgn]
theorem rev_ind {P : List Bool → Prop} (h0 : P []) (h1 : ∀ v b, P v → P (v ++ [b])) (v : List Bool) : P v := by
  have key : ∀ r : List Bool, P r.reverse := by
    intro r
    induction r with
    | nil => exact h0
    | cons b r ih => rw [List.reverse_cons]; exact h1 _ b ih
  have := key v.reverse
  rwa [List.reverse_reverse] at this
theorem code_snoc (v : List Bool) (b : Bool) : code (v ++ [b]) = 2 * code v + b.toNat := by simp [code]
theorem code_pos (v : List Bool) : 2 ^ v.length ≤ code v ∧ code v < 2 ^ (v.length + 1) := by
  refine rev_ind (P := fun v => 2 ^ v.length ≤ code v ∧ code v < 2 ^ (v.length + 1)) (by decide) (fun v b ih => ?_) v
  · rw [code_snoc, List.length_append, List.length_singleton, Nat.pow_succ, Nat.pow_succ 2 (v.length + 1)]
    have : b.toNat ≤ 1 := by cases b <;> decide
    exact Mine.r511 ih.2 ih.1 this
theorem code_inj : ∀ {u v : List Bool}, code u = code v → u = v := by
  intro u
  refine rev_ind (P := fun u => ∀ {v : List Bool}, code u = code v → u = v) ?_ ?_ u
  · intro v h
    rcases List.eq_nil_or_concat v with rfl | ⟨p, b, rfl⟩
    · rfl
    · rw [List.concat_eq_append, code_snoc] at h
      have := (code_pos p).1
      have h2 : 0 < 2 ^ p.length := Nat.pow_pos (by decide)
      have h1 : code [] = 1 := rfl
      exact (Mine.r439 h h1 this h2).elim
  · intro p b ih v h
    rcases List.eq_nil_or_concat v with rfl | ⟨q, c, rfl⟩
    · rw [code_snoc] at h
      have := (code_pos p).1
      have h2 : 0 < 2 ^ p.length := Nat.pow_pos (by decide)
      have h1 : code [] = 1 := rfl
      exact (Mine.r440 h1 this h h2).elim
    · rw [List.concat_eq_append] at h ⊢
      rw [code_snoc, code_snoc] at h
      have hb : b.toNat ≤ 1 := by cases b <;> decide
      have hc : c.toNat ≤ 1 := by cases c <;> decide
      have e1 : code p = code q := by exact Mine.r459 hb hc h
      have e2 : b.toNat = c.toNat := by exact Mine.r386 e1 h
      rw [ih e1, show b = c by cases b <;> cases c <;> first | rfl | exact absurd e2 (by decide)]
theorem code_lt {v : List Bool} (h : v.length ≤ 12) : code v < 8192 := by
  have h1 := (code_pos v).2
  have h2 : 2 ^ (v.length + 1) ≤ 2 ^ 13 := Nat.pow_le_pow_right (by decide) (by exact Mine.r217 h)
  exact Nat.lt_of_lt_of_le h1 h2
end Mine
end
section
open PySem PySem.W PyProof.Rows PySem.Spec PySem.Calls PyProof.V
set_option maxRecDepth 100000
namespace Mine
theorem us_canLayAll0 : ∀ ns : List Str, (∀ x ∈ ns, PyData.strOk x = true) → PyData.canLayAll0 (ns.map PyData.str) = true
  | [], _ => rfl
  | a :: r, h => by simp [PyData.canLayAll0, PyData.canLay0, us_canLayAll0 r fun x hx => h x (.tail _ hx), h a (.head _)]
theorem us_depthAll : ∀ ns : List Str, PyData.depthAll (ns.map PyData.str) = 0
  | [] => rfl
  | _ :: r => by simp [PyData.depthAll, PyData.depth, us_depthAll r]
theorem us_shaped (ns : List Str) (h : ∀ x ∈ ns, PyData.strOk x = true) : SeqAt.shaped (.list (ns.map PyData.str)) = true := by
  simp [SeqAt.shaped, PyData.canLay0, PyData.depth, us_canLayAll0 ns h, us_depthAll]
theorem us_sameAll : ∀ ns ms : List Str, PySem.Spec.sameAll (ns.map PyData.str) (ms.map PyData.str) = decide (ns = ms)
  | [], [] => by simp [PySem.Spec.sameAll]
  | [], _ :: _ => by simp [PySem.Spec.sameAll]
  | _ :: _, [] => by simp [PySem.Spec.sameAll]
  | a :: r, b :: t => by
    simp only [List.map_cons, PySem.Spec.sameAll, PySem.Spec.same, us_sameAll r t]
    by_cases h : a = b <;> by_cases h' : r = t <;> simp [h, h']
theorem us_same (ns ms : List Str) : PySem.Spec.same (.list (ns.map PyData.str)) (.list (ms.map PyData.str)) = decide (ns = ms) := by
  simp only [PySem.Spec.same]; exact us_sameAll ns ms
theorem us_carried : ∀ {vs : List Value} {ns : List Str}, StrsAre vs ns → CarriedAll vs (ns.map PyData.str)
  | _, _, .nil => .nil
  | _, _, .cons _ t r => .cons (.str _ t) (us_carried r)
section
variable {prog : Program} {w : World} {A : Around} {E : Value → Shared → Prop} {s : Shared} {a b : Addr} {xs ys : List Value} {ns ms : List Str} {Q : Value → Shared → Prop}
theorem ne_strL (ha : s.heap.IsList a xs.toArray) (hb : s.heap.IsList b ys.toArray) (hi : StrsAre xs ns) (hj : StrsAre ys ms) (k1 : ∀ x ∈ ns, PyData.strOk x = true) (k2 : ∀ x ∈ ms, PyData.strOk x = true) (hu : A.units + 64 < cLine) (h : Q (.bool (!decide (ns = ms))) s) :
    wpAny (model prog w) A (compareOp .NotEq (.ref a) (.ref b)) Q E s :=
  ne_dataH_same (reads_newData ha (us_carried hi)) (reads_newData hb (us_carried hj)) (us_shaped _ k1) (us_shaped _ k2) hu (SeqAt.noMix_of_shape (.list .str) rfl _ _ (list_map_has fun _ => rfl) (list_map_has fun _ => rfl)) (by rw [us_same]; exact h)
end
theorem word_ok (v : List Bool) : PyData.strOk (wordStr v) = true := by
  unfold PyData.strOk wordStr
  rw [Array.all_eq_true]
  intro i hi
  simp only [List.size_toArray, List.length_map] at hi
  simp only [List.getElem_toArray, List.getElem_map, decide_eq_true_eq]
  cases v[i] <;> decide
section
variable {prog : Program} {w : World} {A : Around} {E : Value → Shared → Prop} {s : Shared} {h₀ : Heap} {L D : Addr} {m : Str → Option Value} {news news' : List (Addr × Obj)} {n : Nat}
end
end Mine
end
section
open PySem
namespace Mine
noncomputable abbrev Wd := List Bool
structure CSt where
  todo : List Wd
  sub : List (Wd × Wd)
  asked : List Wd
noncomputable def csize (c : CSt) : Nat := 2 * c.todo.length + c.sub.length
noncomputable def cstep (hs : Wd → Wd) (c : CSt) : CSt :=
  match c.todo.getLast? with
  | none => c
  | some n =>
    match c.sub.lookup (hs n) with
    | none => ⟨c.todo.dropLast, c.sub ++ [(hs n, n)], c.asked ++ [n]⟩
    | some e => if e = n then ⟨c.todo.dropLast, c.sub, c.asked ++ [n]⟩ else ⟨c.todo.dropLast ++ [hs n], c.sub.filter (fun p => p.1 != hs n), c.asked ++ [n]⟩
noncomputable def cruns (hs : Wd → Wd) : Nat → CSt → CSt
  | 0, c => c
  | n + 1, c => cruns hs n (cstep hs c)
noncomputable def cfin (hs : Wd → Wd) (c : CSt) : CSt := cruns hs (csize c) c
theorem cstep_nil {hs : Wd → Wd} {c : CSt} (h : c.todo = []) : cstep hs c = c := by simp [cstep, h]
theorem cruns_nil {hs : Wd → Wd} {c : CSt} (h : c.todo = []) : ∀ n, cruns hs n c = c
  | 0 => rfl
  | n + 1 => by rw [cruns, cstep_nil h, cruns_nil h n]
theorem lookup_len {k e : Wd} : ∀ {l : List (Wd × Wd)}, l.lookup k = some e → (l.filter (fun p => p.1 != k)).length < l.length
  | [], h => by simp at h
  | p :: r, h => by
    rw [List.lookup_cons] at h
    cases q : k == p.1 with
    | true =>
      have : p.1 = k := (beq_iff_eq.mp q).symm
      simp [this, Nat.lt_succ_of_le (List.length_filter_le _ r)]
    | false =>
      rw [q] at h
      have ih := lookup_len (l := r) h
      have : (p.1 != k) = true := by
        rw [bne_iff_ne]; intro z; rw [z] at q; simp at q
      simp [List.filter_cons, this, ih]
theorem cstep_less {hs : Wd → Wd} {c : CSt} (h : c.todo ≠ []) : csize (cstep hs c) < csize c := by
  have hl : 0 < c.todo.length := List.length_pos_iff.mpr h
  unfold cstep csize
  rw [List.getLast?_eq_some_getLast h]
  dsimp only
  split
  · simp; exact Mine.r445 hl
  · rename_i e he
    split
    · simp; exact Mine.r9 hl
    · have := lookup_len he
      simp; exact Mine.r475 this hl
theorem cruns_enough {hs : Wd → Wd} : ∀ (n : Nat) (c : CSt), csize c ≤ n → cruns hs n c = cfin hs c := by
  have key : ∀ (k n : Nat) (c : CSt), csize c ≤ k → csize c ≤ n → cruns hs n c = cruns hs k c := by
    intro k
    induction k with
    | zero =>
      intro n c hk hn
      have : c.todo = [] := by
        cases q : c.todo with
        | nil => rfl
        | cons a r => simp [csize, q] at hk
      rw [cruns_nil this, cruns_nil this]
    | succ k ih =>
      intro n c hk hn
      by_cases h : c.todo = []
      · rw [cruns_nil h, cruns_nil h]
      · cases n with
        | zero =>
          have := cstep_less (hs := hs) h
          exact (Mine.r160 this hn).elim
        | succ n =>
          have := cstep_less (hs := hs) h
          exact ih n _ (by exact Mine.r33 this hk) (by exact Mine.r33 this hn)
  intro n c h
  exact key _ n c (Nat.le_refl _) h
theorem cfin_step {hs : Wd → Wd} {c : CSt} (h : c.todo ≠ []) : cfin hs (cstep hs c) = cfin hs c := by
  have l := cstep_less (hs := hs) h
  rw [← cruns_enough (csize c - 1) (cstep hs c) (by exact Mine.r27 l)]
  show _ = cruns hs (csize c) c
  obtain ⟨k, hk⟩ : ∃ k, csize c = k + 1 := ⟨csize c - 1, by exact Mine.r226 l⟩
  rw [hk]
  rfl
theorem cfin_done {hs : Wd → Wd} {c : CSt} (h : c.todo = []) : cfin hs c = c := cruns_nil h _
end Mine
namespace Mine
section
variable {Dm : Wd → Prop} {X : Wd → Addr} {sub : List (Wd × Wd)} {u : Wd}
noncomputable abbrev pairs (X : Wd → Addr) (sub : List (Wd × Wd)) : List (Addr × Value) := sub.map fun p => (X p.1, Value.ref (X p.2))
theorem pairs_lookup (inj : ∀ a b, Dm a → Dm b → X a = X b → a = b) (hu : Dm u) : ∀ {sub : List (Wd × Wd)}, (∀ p ∈ sub, Dm p.1 ∧ Dm p.2) → (pairs X sub).lookup (X u) = (sub.lookup u).map fun e => Value.ref (X e)
  | [], _ => rfl
  | p :: r, h => by
    have h1 := (h p (.head _)).1
    have ih := pairs_lookup inj hu (sub := r) fun q hq => h q (.tail _ hq)
    show List.lookup (X u) ((X p.1, Value.ref (X p.2)) :: pairs X r) = _
    rw [List.lookup_cons, List.lookup_cons]
    by_cases q : u = p.1
    · rw [show (X u == X p.1) = true by rw [q]; exact beq_self_eq_true _, show (u == p.1) = true by rw [q]; exact beq_self_eq_true _]; rfl
    · have e1 : (u == p.1) = false := by rw [beq_eq_false_iff_ne]; exact q
      have e2 : (X u == X p.1) = false := by rw [beq_eq_false_iff_ne]; exact fun z => q (inj _ _ hu h1 z)
      rw [e1, e2]
      exact ih
theorem pairs_nodup (inj : ∀ a b, Dm a → Dm b → X a = X b → a = b) : ∀ {sub : List (Wd × Wd)}, (∀ p ∈ sub, Dm p.1 ∧ Dm p.2) → (sub.map (·.1)).Nodup → ((pairs X sub).map (·.1)).Nodup
  | [], _, _ => .nil
  | p :: r, h, hn => by
    have hn' := List.nodup_cons.mp (show (p.1 :: r.map (·.1)).Nodup from hn)
    refine List.nodup_cons.mpr ⟨fun z => ?_, pairs_nodup inj (fun q hq => h q (.tail _ hq)) hn'.2⟩
    obtain ⟨y, hy, e⟩ := List.mem_map.mp z
    obtain ⟨q, hq, rfl⟩ := List.mem_map.mp hy
    exact hn'.1 (List.mem_map.mpr ⟨q, hq, inj _ _ (h q (.tail _ hq)).1 (h p (.head _)).1 e⟩)
theorem pairs_notin (inj : ∀ a b, Dm a → Dm b → X a = X b → a = b) (hu : Dm u) (h : ∀ p ∈ sub, Dm p.1 ∧ Dm p.2) (hl : sub.lookup u = none) : X u ∉ (pairs X sub).map (·.1) := fun z => by
  obtain ⟨y, hy, e⟩ := List.mem_map.mp z
  obtain ⟨q, hq, rfl⟩ := List.mem_map.mp hy
  have : q.1 = u := inj _ _ (h q hq).1 hu e
  have := List.lookup_eq_none_iff.mp hl q hq
  simp_all
theorem pairs_filter (inj : ∀ a b, Dm a → Dm b → X a = X b → a = b) (hu : Dm u) : ∀ {sub : List (Wd × Wd)}, (∀ p ∈ sub, Dm p.1 ∧ Dm p.2) → (pairs X sub).filter (fun p => p.1 != X u) = pairs X (sub.filter fun p => p.1 != u)
  | [], _ => rfl
  | p :: r, h => by
    have h1 := (h p (.head _)).1
    have ih := pairs_filter inj hu (sub := r) fun q hq => h q (.tail _ hq)
    show List.filter _ ((X p.1, Value.ref (X p.2)) :: pairs X r) = _
    rw [List.filter_cons, List.filter_cons, ih]
    by_cases q : p.1 = u
    · have e1 : (X p.1 != X u) = false := by rw [q]; exact bne_self_eq_false _
      have e2 : (p.1 != u) = false := by rw [q]; exact bne_self_eq_false _
      simp [e1, e2]
    · have e2 : (p.1 != u) = true := bne_iff_ne.mpr q
      have e1 : (X p.1 != X u) = true := bne_iff_ne.mpr fun z => q (inj _ _ h1 hu z)
      simp [e1, e2]
theorem lookup_mem {e : Wd} (h : sub.lookup u = some e) : (u, e) ∈ sub := by
  induction sub with
  | nil => simp at h
  | cons p r ih =>
    rw [List.lookup_cons] at h
    cases q : u == p.1 with
    | true => rw [q] at h; rw [beq_iff_eq.mp q]; simp at h; rw [← h]; exact .head _
    | false => rw [q] at h; exact .tail _ (ih h)
end
section
variable {hs : Wd → Wd} {p : List Wd} {v u e : Wd} {sub : List (Wd × Wd)} {a : List Wd}
theorem cstep_none (hu : hs v = u) (h : sub.lookup u = none) : cstep hs ⟨p ++ [v], sub, a⟩ = ⟨p, sub ++ [(u, v)], a ++ [v]⟩ := by
  subst hu
  simp [cstep, h]
theorem cstep_same (hu : hs v = u) (h : sub.lookup u = some v) : cstep hs ⟨p ++ [v], sub, a⟩ = ⟨p, sub, a ++ [v]⟩ := by
  subst hu
  simp [cstep, h]
theorem cstep_other (hu : hs v = u) (h : sub.lookup u = some e) (hne : e ≠ v) : cstep hs ⟨p ++ [v], sub, a⟩ = ⟨p ++ [u], sub.filter (fun q => q.1 != u), a ++ [v]⟩ := by
  subst hu
  simp [cstep, h, hne]
end
theorem cfin_todo {hs : Wd → Wd} : ∀ (n : Nat) (c : CSt), csize c ≤ n → (cruns hs n c).todo = [] := by
  intro n
  induction n with
  | zero =>
    intro c h
    cases q : c.todo with
    | nil => exact q
    | cons a r => simp [csize, q] at h
  | succ n ih =>
    intro c h
    by_cases q : c.todo = []
    · rw [cruns_nil q]; exact q
    · have := cstep_less (hs := hs) q
      exact ih _ (by exact Mine.r33 this h)
theorem cstep_ne {hs : Wd → Wd} {c : CSt} (h : c.todo ≠ [] ∨ c.sub ≠ []) : (cstep hs c).todo ≠ [] ∨ (cstep hs c).sub ≠ [] := by
  unfold cstep
  split
  · exact h
  · rename_i n hn
    split
    · right; simp
    · rename_i e he
      split
      · right
        intro z
        dsimp only at z
        rw [z] at he
        simp at he
      · left; simp
theorem cruns_ne {hs : Wd → Wd} : ∀ (n : Nat) (c : CSt), c.todo ≠ [] ∨ c.sub ≠ [] → (cruns hs n c).todo ≠ [] ∨ (cruns hs n c).sub ≠ []
  | 0, _, h => h
  | n + 1, _, h => cruns_ne n _ (cstep_ne h)
theorem cfin_ne {hs : Wd → Wd} {row : List Wd} (h : row ≠ []) : (cfin hs ⟨row, [], []⟩).sub ≠ [] := by
  rcases cruns_ne (hs := hs) (csize ⟨row, [], []⟩) ⟨row, [], []⟩ (.inl h) with k | k
  · exact absurd (cfin_todo _ _ (Nat.le_refl _)) k
  · exact k
end Mine
end
section
set_option maxRecDepth 100000
namespace Mine
end Mine
end
section
open PySem PySem.W PyProof.Rows
set_option maxRecDepth 100000
namespace Mine
theorem strs_at {vs : List Value} {ws : List Wd} (h : StrsAre vs (ws.map wordStr)) {i : Nat} {y : Wd} (e : ws[i]? = some y) : ∃ t, vs[i]? = some (.str (wordStr y) t) := h.at (by rw [List.getElem?_map, e]; rfl)
end Mine
end
section
open PySem PySem.W PyProof.Rows PySem.Spec PySem.Calls
set_option maxRecDepth 100000
namespace Mine
section
open LCg LCt
variable {prog : Program} {w : World} {A : Around} {E : Value → Shared → Prop} {s : Shared} {h₀ : Heap} {L : Addr} {m : Str → Option Value} {env : Env}
theorem comp_inv {δ : Type} {elt : Expr} {x : Str} {scope : Scope} {cl : List (Str × Addr)} {Fin : List Value → List (Addr × Obj) → Prop} {S : List (Addr × Obj) → Prop} {P : Nat → Value → Prop} {n : Nat} (LED : δ → List (Addr × Obj)) (J : Nat → List Value → δ → Prop) (d0 : δ) (h0 : J 0 [] d0)
    (turn : ∀ (i : Nat) (d : δ) v I oI C oC D m₂ ys h tk (E' : Value → Shared → Prop), i < n → P i v → J i ys d → NsObj oC m₂ → m₂ x = some v → Fr h₀ L h m → News h₀ L h ((I, oI) :: (C, oC) :: (D, lst ys) :: LED d) → Off3 I C D (LED d) → ((@Ne Nat I C) ∧ (@Ne Nat I D) ∧ (@Ne Nat C D)) →
      wpAny (model prog w) A (eval elt (compEnvC scope cl C env)) (CompEnd h₀ L m { s with heap := h, toks := tk } I oI C oC D (lst ys) S (fun y news' => ∃ d', news' = LED d' ∧ J (i + 1) (ys ++ [y]) d')) E' { s with heap := h, toks := tk })
    (fin : ∀ (ys : List Value) (d : δ), ys.length = n → J n ys d → Fin ys (LED d)) : CompRest prog w A h₀ L m env elt x scope cl s S P Fin n 0 [] (LED d0) := by
  have key : ∀ (j i : Nat) (ys : List Value) (d : δ), i + j = n → ys.length = i → J i ys d → CompRest prog w A h₀ L m env elt x scope cl s S P Fin j i ys (LED d) := by
    intro j
    induction j with
    | zero =>
      intro i ys d hi hl hr
      have : i = n := by exact Mine.r152 hi
      subst this
      exact CompRest.zero (fin ys d hl hr)
    | succ j ih =>
      intro i ys d hi hl hr
      refine CompRest.succ ?_
      intro v I oI C oC D m₂ h tk E' hv hC hx F N off ne
      refine wpAny_mono (turn i d v I oI C oC D m₂ _ h tk E' (by exact Mine.r31 hi) hv hr hC hx F N off ne) (fun v s₂ hq => ?_) fun _ _ e => e
      obtain ⟨h', tk', nw, e, F', N', off', hS, d', hn, hy'⟩ := hq
      rw [hn] at N' off' hS
      exact ⟨h', tk', LED d', e, F', N', off', hS, ih (i + 1) _ d' (by exact Mine.r2 hi) (by simp [hl]) hy'⟩
  exact key n 0 [] d0 (by exact Mine.r4) rfl h0
theorem src_words {its : List Value} {src : List Wd} (h : StrsAre its (src.map wordStr)) : ∀ (i : Nat) (v : Value), its.toArray[i]? = some v → i < src.length → ∃ b t, src[i]? = some b ∧ v = .str (wordStr b) t := by
  intro i v hv hi
  obtain ⟨t, e⟩ := strs_at h (List.getElem?_eq_getElem hi)
  have hv' : its[i]? = some v := by simpa using hv
  rw [e] at hv'
  exact ⟨_, t, List.getElem?_eq_getElem hi, (Option.some.inj hv').symm⟩
end
end Mine
end
section
open PySem PySem.W PyProof.Rows PySem.Spec PySem.Calls
set_option maxRecDepth 100000
namespace Mine
section
variable {prog : Program} {w : World} {A₀ A : Around} {s : Shared} {base h₀ g₀ : Heap} {outer : List Env} {env : Env} {L a : Addr} {m : Str → Option Value} {news : List (Addr × Obj)} {K : Frag} {p : Program} {loose : List Str} {mean : ExcName → Option Value} {mg mb : Str → Option Value}
  {R : Result → Shared → Prop} {name qual : Str} {params : Arguments} {body : List Stmt} {scope : Scope} {dV kV doc pm cdv ct oc : Value} {an od : Option Addr} {osl : Array (Option Value)} {f : Addr} {args : Args} {binds : List (Str × Value)}
end
end Mine
end
section
open PySem PySem.W PyProof.Rows PySem.Spec PySem.Calls
set_option maxRecDepth 100000
namespace Mine
noncomputable abbrev ents (H : Addr → Int) (xs : List (Addr × Value)) : List DictEntry := xs.map fun p => ⟨H p.1, .ref p.1, p.2⟩
section
variable {prog : Program} {w : World} {A : Around} {E : Value → Shared → Prop} {s : Shared} {H : Addr → Int} {xs : List (Addr × Value)} {k d : Addr} {o : Obj} {ep : Nat}
theorem ents_at (j : Nat) : (ents H xs).toArray[j]? = (xs[j]?).map fun p => ⟨H p.1, .ref p.1, p.2⟩ := by
  rw [List.getElem?_toArray, List.getElem?_map]
theorem ents_size : (ents H xs).toArray.size = xs.length := by rw [List.size_toArray, List.length_map]
theorem keys_unique (hn : (xs.map (·.1)).Nodup) {i j : Nat} {p q : Value} (hi : xs[i]? = some (k, p)) (hj : xs[j]? = some (k, q)) : i = j := by
  have hi' : (xs.map (·.1))[i]? = some k := by rw [List.getElem?_map, hi]; rfl
  have hj' : (xs.map (·.1))[j]? = some k := by rw [List.getElem?_map, hj]; rfl
  exact (List.getElem?_inj (List.getElem?_eq_some_iff.mp hi').1 hn).mp (hi'.trans hj'.symm)
theorem dictFind_ref {Q : Option Nat → Shared → Prop} (ho : s.heap.get? d = some o) (hd : o.data = .dict (ents H xs).toArray ep) (hn : (xs.map (·.1)).Nodup) (hH : ∀ p ∈ xs, H p.1 = H k → p.1 = k)
    (hnone : (∀ (j : Nat) (v : Value), xs[j]? ≠ some (k, v)) → Q none s) (hsome : ∀ (j : Nat) (v : Value), xs[j]? = some (k, v) → Q (some j) s) :
    wpAny (model prog w) A (dictFind d (.ref k) (H k)) Q E s := by
  generalize hes : (ents H xs).toArray = es at hd
  have hat : ∀ j : Nat, es[j]? = (xs[j]?).map fun p => (⟨H p.1, .ref p.1, p.2⟩ : DictEntry) := fun j => by rw [← hes]; exact ents_at j
  have hsz : es.size = xs.length := by rw [← hes]; exact ents_size
  have haskey : ∀ (j : Nat) (v : Value), xs[j]? = some (k, v) → ((es[j]?.map (·.hash)) == some (H k)) = true := by
    intro j v hj
    rw [hat j, hj]; simp
  have hany : ¬ (es.any fun e => e.key == Value.ref k && e.hash != H k) = true := by
    rw [← Array.any_toList, List.any_eq_true]
    rintro ⟨e, hin, hc⟩
    rw [← hes, List.toList_toArray] at hin
    obtain ⟨p, hp, rfl⟩ := List.mem_map.mp hin
    simp only [Bool.and_eq_true, beq_iff_eq, bne_iff_ne, ne_eq, Value.ref.injEq] at hc
    exact hc.2 (by rw [hc.1])
  have hst : ∀ v ∈ (placesWithHash es.size (fun i => es[i]?.map (·.hash)) (H k)).filterMap (fun i => es[i]?.map (·.key)), v = .ref k := by
    intro v hv
    obtain ⟨i, hi0, hi⟩ := List.mem_filterMap.mp hv
    have hp := (List.mem_filter.mp hi0).2
    dsimp only at hp
    rw [hat i] at hi hp
    cases hx : xs[i]? with
    | none => rw [hx] at hi; cases hi
    | some p =>
      rw [hx] at hi hp
      have e1 : H p.1 = H k := by simpa using hp
      have e2 : (.ref p.1 : Value) = v := by simpa using hi
      rw [← e2, hH p (List.mem_of_getElem? hx) e1]
  have hlen1 : ((placesWithHash es.size (fun i => es[i]?.map (·.hash)) (H k)).filterMap (fun i => es[i]?.map (·.key))) = [] ∨ ((placesWithHash es.size (fun i => es[i]?.map (·.hash)) (H k)).filterMap (fun i => es[i]?.map (·.key))) = [.ref k] := by
    have uniq : ∀ l : List Nat, l.Nodup → (∀ i ∈ l, ∃ v, xs[i]? = some (k, v)) → l.filterMap (fun i => es[i]?.map (·.key)) = [] ∨ l.filterMap (fun i => es[i]?.map (·.key)) = [.ref k] := by
      intro l hl hk
      match l, hl, hk with
      | [], _, _ => exact .inl rfl
      | [i], _, hk =>
        obtain ⟨v, hv⟩ := hk i (.head _)
        right
        rw [List.filterMap_cons, List.filterMap_nil, hat i, hv]
        rfl
      | i :: j :: r, hl, hk =>
        obtain ⟨v, hv⟩ := hk i (.head _)
        obtain ⟨u, hu⟩ := hk j (.tail _ (.head _))
        have := keys_unique hn hv hu
        subst this
        simp at hl
    refine uniq _ ?_ ?_
    · unfold placesWithHash
      exact List.nodup_range.filter _
    · intro i hi
      have hp := (List.mem_filter.mp hi).2
      dsimp only at hp
      rw [hat i] at hp
      cases hx : xs[i]? with
      | none => rw [hx] at hp; simp at hp
      | some p =>
        rw [hx] at hp
        have e1 : H p.1 = H k := by simpa using hp
        refine ⟨p.2, ?_⟩
        rw [← hH p (List.mem_of_getElem? hx) e1]
  unfold dictFind
  try with_reducible refine wpAny_holding ?_
  refine wpAny_bind (wpAny_dictEntries ho hd ?_)
  dsimp only
  rw [if_neg (show ¬ ((Value.ref k :: (placesWithHash es.size (fun i => es[i]?.map (·.hash)) (H k)).filterMap (fun i => es[i]?.map (·.key))).all carriedByValue) = true by simp [carriedByValue])]
  rw [if_neg hany]
  have htell : ∀ {Q' : Bool → Shared → Prop}, Q' false s → wpAny (model prog w) A (if (((placesWithHash es.size (fun i => es[i]?.map (·.hash)) (H k)).filterMap (fun i => es[i]?.map (·.key))) == [Value.ref k]) = true then pure false else tableMayTell (.ref k) ((placesWithHash es.size (fun i => es[i]?.map (·.hash)) (H k)).filterMap (fun i => es[i]?.map (·.key)))) Q' E s := by
    intro Q' hq
    rcases hlen1 with e | e
    · rw [e]
      rw [if_neg (by simp)]
      unfold tableMayTell
      rw [if_pos (by rfl)]
      exact wpAny_pure hq
    · rw [e]
      rw [if_pos (by simp)]
      exact wpAny_pure hq
  by_cases hone : (((placesWithHash es.size (fun i => es[i]?.map (·.hash)) (H k)).filterMap (fun i => es[i]?.map (·.key))) == [Value.ref k]) = true <;>
  (first | rw [if_pos hone] | rw [if_neg hone]) <;>
  (first | rw [if_pos hone] at htell | rw [if_neg hone] at htell) <;> (first | refine wpAny_bind (wpAny_pure ?_) | refine wpAny_bind (htell ?_)) <;> (
    rw [if_neg (by simp)]
    refine wpAny_bind ?_
    refine wpAny_forIn_list _
      (fun rest b s' => s' = s ∧ ∃ i hit, b = (none, hit) ∧ rest = (List.range' i (es.size - i)).filter (fun i => (es[i]?.map (·.hash)) == some (H k)) ∧ i ≤ es.size ∧
        ((hit = none ∧ ∀ j v, j < i → xs[j]? ≠ some (k, v)) ∨ ∃ j v, hit = some j ∧ j < i ∧ xs[j]? = some (k, v))) _ ?_ ?_ _ _
      ⟨rfl, 0, none, rfl, by rw [placesWithHash, List.range_eq_range', Nat.sub_zero], Nat.zero_le _, .inl ⟨rfl, fun _ _ h => absurd h (Nat.not_lt_zero _)⟩⟩
    · rintro x rest b s' ⟨rfl, i, hit, rfl, hr, hi, hHt⟩
      obtain ⟨hix, hxn, hpx, hskip, hrest⟩ := filter_range'_cons _ _ _ _ _ hr.symm
      have hlt : x < es.size := by exact Mine.r249 hxn hix
      have hrest' : rest = (List.range' (x + 1) (es.size - (x + 1))).filter (fun i => (es[i]?.map (·.hash)) == some (H k)) := by rw [hrest]; congr 2; exact Mine.r389 hix
      obtain ⟨⟨b, v'⟩, hkv⟩ : ∃ y, xs[x]? = some y := ⟨xs[x]'(by rw [← hsz]; exact hlt), List.getElem?_eq_getElem _⟩
      have hex : es[x]? = some ⟨H b, .ref b, v'⟩ := by rw [hat x, hkv]; rfl
      have hbk : b = k := by
        rw [hex] at hpx
        exact hH (b, v') (List.mem_of_getElem? hkv) (by simpa using hpx)
      subst hbk
      rw [hex]
      dsimp only
      rw [if_pos (by simp)]
      have heq : ∀ {Q' : Bool → Shared → Prop}, Q' true s' → wpAny (model prog w) A (PySem.eqBool (.ref b) (.ref b)) Q' E s' := by
        intro Q' hq
        unfold PySem.eqBool
        try with_reducible refine wpAny_holding ?_
        rw [if_pos (by simp)]
        exact wpAny_bind (wpAny_rule (wpAny_pure hq))
      refine wpAny_bind (wpAny_dictEpoch ho hd (wpAny_bind (heq (wpAny_bind (wpAny_dictEpoch ho hd ?_)))))
      show wpAny _ _ (if (ep != ep) = true then _ else _) _ E _
      rw [if_neg (by simp)]
      rcases hHt with ⟨rfl, _⟩ | ⟨j, p, _, hjx, hj⟩
      · first | rw [if_pos rfl] | skip
        simp only [Option.isSome_none, Bool.false_eq_true, if_false]
        first | refine wpAny_bind (wpAny_pure ?_) | skip
        refine wpAny_bind (wpAny_rule ?_)
        split
        · exact wpAny_pure (wpAny_pure (hsome x _ hkv))
        · exact wpAny_pure ⟨rfl, x + 1, some x, rfl, hrest', hlt, .inr ⟨x, _, rfl, Nat.lt_succ_self x, hkv⟩⟩
      · exact absurd (keys_unique hn hj hkv) (by exact Mine.r179 hjx hix)
    · rintro b s' ⟨rfl, i, hit, rfl, hr, hi, hHt⟩
      have hall : ∀ j, i ≤ j → j < es.size → ((es[j]?.map (·.hash)) == some (H k)) = false := by
        intro j h1 h2
        have := List.filter_eq_nil_iff.mp hr.symm j (List.mem_range'_1.mpr ⟨h1, by exact Mine.r164 h2⟩)
        simpa using this
      rcases hHt with ⟨rfl, hno⟩ | ⟨j, p, rfl, _, hj⟩
      · refine wpAny_pure (hnone fun j p hj => ?_)
        rcases Nat.lt_or_ge j i with h | h
        · exact hno j p h hj
        · have hjl : j < es.size := by
            rw [hsz]
            rcases Nat.lt_or_ge j xs.length with h' | h'
            · exact h'
            · rw [List.getElem?_eq_none h'] at hj; exact nomatch hj
          have := hall j h hjl
          rw [haskey j p hj] at this
          exact absurd this (by decide)
      · exact wpAny_pure (hsome j p hj))
end
end Mine
end
section
open PySem PySem.W PyProof.Rows PySem.Spec PySem.Calls
set_option maxRecDepth 100000
namespace Mine
section
variable {prog : Program} {w : World} {A : Around} {E : Value → Shared → Prop} {s : Shared} {K : Frag} {C L f : Addr} {h₀ : Heap} {m : Str → Option Value} {ox : Obj} {od : Option Obj} {news : List (Addr × Obj)} {k S : Addr} {Hk : Int}
noncomputable def HashAt (prog : Program) (w : World) (A : Around) (h₀ : Heap) (L : Addr) (m : Str → Option Value) (news : List (Addr × Obj)) (f k : Addr) (Hk : Int) : Prop :=
  ∀ (s : Shared) (Q E : Value → Shared → Prop), Fr h₀ L s.heap m → News h₀ L s.heap news → (∀ h' tk' t, Fr h₀ L h' m → News h₀ L h' news → Q (.int Hk t) { s with heap := h', toks := tk' }) → wpAny (model prog w) A (call (.ref f) [.ref k]) Q E s
theorem hash_ref {Q : Int → Shared → Prop} (hu : A.units < cLine) (F : Fr h₀ L s.heap m) (N : News h₀ L s.heap news) (X₀ : K.In h₀) (I : InstAt s.heap k ox C od) (hs : findIn K (.ref C) "__hash__" = some (some (.ref f))) (hf : isFn K (.ref f) = true)
    (hr : -2 ^ 63 ≤ Hk ∧ Hk < 2 ^ 63 ∧ Hk ≠ -1) (hc : HashAt prog w A h₀ L m news f k Hk)
    (h : ∀ h' tk', Fr h₀ L h' m → News h₀ L h' news → Q Hk { s with heap := h', toks := tk' }) : wpAny (model prog w) A (pyHash (.ref k)) Q E s := by
  have X := X₀.keeps F.keep
  unfold pyHash
  refine wpAny_bind (wpAny_cRoomFor hu ?_)
  have sp : ∀ {Q' : Option Value → Shared → Prop}, Q' (some (.ref f)) s → wpAny (model prog w) A (specialOf (.ref k) "__hash__") Q' E s := by
    intro Q' hq
    unfold specialOf
    exact wpAny_bind (I.type.here ((looks_findIn X hs).here hq))
  refine wpAny_bind (sp ?_)
  rw [if_neg (by simp)]
  refine wpAny_bind (sp ?_)
  simp only [Option.isNone_some, Bool.false_eq_true, if_false]
  refine wpAny_bind ?_
  have main : wpAny (model prog w) A (call (.ref f) [.ref k] >>= fun v => pure (some v)) (fun r s' => ∃ h' tk' t, r = some (.int Hk t) ∧ s' = { s with heap := h', toks := tk' } ∧ Fr h₀ L h' m ∧ News h₀ L h' news) E s :=
    wpAny_bind (hc s _ _ F N fun h' tk' t F' N' => wpAny_pure ⟨h', tk', t, rfl, rfl, F', N'⟩)
  have two : wpAny (model prog w) A (callSpecialIfBoundUnlessNone? (.ref k) "__hash__" (do rule "hash.unhashable"; raiseError "TypeError" s!"unhashable type: '{← typeNameOf (.ref k)}'")) (fun r s' => ∃ h' tk' t, r = some (.int Hk t) ∧ s' = { s with heap := h', toks := tk' } ∧ Fr h₀ L h' m ∧ News h₀ L h' news) E s := by
    simp only [callSpecialIfBoundUnlessNone?, bindSpecialIfBound?]
    refine wpAny_holding (wpAny_bind (wpAny_bind (sp ?_)))
    refine wpAny_bind (wpAny_askSetting (wpAny_ite ?_))
    split
    · exact wpAny_bind ((bind_fn X _ (beq_iff_eq.mp hf)).here (wpAny_pure (by exact main)))
    · exact wpAny_tryCatch (wpAny_bind ((bind_fn X _ (beq_iff_eq.mp hf)).here (wpAny_pure (by exact main))))
  refine wpAny_mono two (fun r s' z => ?_) fun _ _ e => e
  obtain ⟨h', tk', t, rfl, rfl, F', N'⟩ := z
  dsimp only
  unfold pyHashByItsType.reduced
  rw [if_pos (by rw [decide_eq_true hr.1, decide_eq_true hr.2.1]; rfl)]
  refine wpAny_pure ?_
  rw [if_neg (by simpa using hr.2.2)]
  exact h h' tk' F' N'
end
section
variable {prog : Program} {w : World} {A : Around} {E : Value → Shared → Prop} {s : Shared} {K : Frag} {C L f : Addr} {h₀ : Heap} {m : Str → Option Value} {ox : Obj} {od : Option Obj} {news : List (Addr × Obj)} {k S : Addr} {H : Addr → Int} {xs : List (Addr × Value)} {n : Nat}
theorem atOf {v : Value} : ∀ {xs : List (Addr × Value)} {j : Nat}, (xs.map (·.1)).Nodup → xs[j]? = some (k, v) → xs.lookup k = some v
  | [], _, _, h => by simp at h
  | x :: r, 0, _, h => by
    have : x = (k, v) := by simpa using h
    subst this
    simp [List.lookup]
  | x :: r, j + 1, hn, h => by
    rw [List.map_cons, List.nodup_cons] at hn
    have h' : r[j]? = some (k, v) := by simpa using h
    have hne : (k == x.1) = false := by
      rw [beq_eq_false_iff_ne]
      rintro rfl
      exact hn.1 (List.mem_map.mpr ⟨_, List.mem_of_getElem? h', rfl⟩)
    obtain ⟨a, b⟩ := x
    simp only [List.lookup, hne]
    exact atOf hn.2 h'
theorem noneOf : ∀ {xs : List (Addr × Value)}, (∀ (j : Nat) (v : Value), xs[j]? ≠ some (k, v)) → xs.lookup k = none
  | [], _ => rfl
  | (a, b) :: r, h => by
    have hne : (k == a) = false := by
      rw [beq_eq_false_iff_ne]
      rintro rfl
      exact h 0 b rfl
    simp only [List.lookup, hne]
    exact noneOf fun j v hj => h (j + 1) v (by simpa using hj)
theorem get_ref {Q : Value → Shared → Prop} (hu : A.in1.units < cLine) (F : Fr h₀ L s.heap m) (N : News h₀ L s.heap news) (X₀ : K.In h₀) (I : InstAt s.heap k ox C od) (hs : findIn K (.ref C) "__hash__" = some (some (.ref f))) (hf : isFn K (.ref f) = true)
    (hr : -2 ^ 63 ≤ H k ∧ H k < 2 ^ 63 ∧ H k ≠ -1) (hc : HashAt prog w A.in1 h₀ L m news f k (H k)) (hS : (S, dictOf (ents H xs) n) ∈ news) (hsm : (S == sysModules) = false) (hn : (xs.map (·.1)).Nodup) (hH : ∀ p ∈ xs, H p.1 = H k → p.1 = k)
    (h : ∀ h' tk', Fr h₀ L h' m → News h₀ L h' news → Q ((xs.lookup k).getD .none) { s with heap := h', toks := tk' }) : wpAny (model prog w) A (call (.builtin "dict.get") [.ref S, .ref k]) Q E s := by
  have z := N _ hS
  refine wpAny_call_entry PySem.F.slot_dict_get ⟨_, z.1, rfl⟩ PySem.F.entry_dict_get ?_ (PySem.F.args_dict_get_2 _ _)
  show wpAny _ _ (Builtin.Dict.notOrdered "get" ⟨[.ref S, .ref k], []⟩ >>= fun _ => _) _ _ s
  refine wpAny_bind (wpAny_notOrdered_dict ⟨_, z.1, rfl⟩ ?_)
  show wpAny _ _ (dictGet S (.ref k) >>= _) _ _ s
  unfold dictGet
  refine wpAny_bind ?_
  try with_reducible refine wpAny_holding ?_
  refine wpAny_bind (hash_ref hu F N X₀ I hs hf hr hc fun h' tk' F' N' => ?_)
  have z' := N' _ hS
  refine wpAny_bind (dictFind_ref (H := H) (xs := xs) (ep := n) z'.1 rfl hn hH (fun hno => ?_) fun j v hj => ?_)
  · refine wpAny_pure ?_
    dsimp only
    show wpAny _ _ (Builtin.Dict.missed S (.ref k) >>= _) _ _ _
    refine wpAny_bind (wpAny_missed_other hsm (wpAny_pure ⟨.none, rfl, ?_⟩))
    have := h h' tk' F' N'
    rw [noneOf hno] at this
    exact this
  · refine wpAny_bind (wpAny_dictEntries z'.1 rfl (wpAny_pure ?_))
    rw [ents_at j, hj]
    have := h h' tk' F' N'
    rw [atOf hn hj] at this
    exact wpAny_pure ⟨v, rfl, this⟩
end
end Mine
end
section
open PySem PySem.W PyProof.Rows PySem.Spec PySem.Calls
set_option maxRecDepth 100000
namespace Mine
theorem map_erase {α β : Type} (f : α → β) : ∀ (l : List α) (j : Nat), (l.map f).eraseIdx j = (l.eraseIdx j).map f
  | [], _ => rfl
  | _ :: _, 0 => rfl
  | x :: r, j + 1 => by simp only [List.map_cons, List.eraseIdx_cons_succ, map_erase f r j]
theorem upd_at {h : Heap} {S : Addr} {o : Obj} (g : Obj → Obj) (ho : h.get? S = some o) (hf : (g o).isFreed = false) : (h.update S g).get? S = some (g o) := Heap.get?_update_self _ ho hf
theorem erase_keys {k : Addr} {v : Value} : ∀ {xs : List (Addr × Value)} {j : Nat}, (xs.map (·.1)).Nodup → xs[j]? = some (k, v) → xs.eraseIdx j = xs.filter (fun p => p.1 != k)
  | [], _, _, h => by simp at h
  | x :: r, 0, hn, h => by
    have : x = (k, v) := by simpa using h
    subst this
    rw [List.map_cons, List.nodup_cons] at hn
    rw [List.eraseIdx_cons_zero, List.filter_cons_of_neg (by simp)]
    symm
    rw [List.filter_eq_self]
    intro p hp
    have : p.1 ≠ k := fun e => hn.1 (List.mem_map.mpr ⟨p, hp, e⟩)
    simpa using this
  | x :: r, j + 1, hn, h => by
    rw [List.map_cons, List.nodup_cons] at hn
    have h' : r[j]? = some (k, v) := by simpa using h
    have hne : x.1 ≠ k := by
      rintro rfl
      exact hn.1 (List.mem_map.mpr ⟨_, List.mem_of_getElem? h', rfl⟩)
    rw [List.eraseIdx_cons_succ, List.filter_cons_of_pos (by simpa using hne), erase_keys hn.2 h']
section
variable {prog : Program} {w : World} {A : Around} {E : Value → Shared → Prop} {s : Shared} {K : Frag} {C L f : Addr} {h₀ : Heap} {m : Str → Option Value} {ox : Obj} {od : Option Obj} {rest : List (Addr × Obj)} {k S : Addr} {H : Addr → Int} {xs : List (Addr × Value)} {n : Nat} {v : Value}
theorem news_head {h h' : Heap} {o o' : Obj} (N : News h₀ L h ((S, o) :: rest)) (F : Fr h₀ L h m) (off : ∀ p ∈ rest, p.1 ≠ S) (hs : Heap.SameBut S h h') (ho : h'.get? S = some o') : Fr h₀ L h' m ∧ News h₀ L h' ((S, o') :: rest) := by
  have z := N (S, o) (.head _)
  refine ⟨F.change hs z.2.1 z.2.2, fun p hp => ?_⟩
  rcases List.mem_cons.mp hp with rfl | hp
  · exact ⟨ho, z.2⟩
  · exact ⟨(hs.2 _ (off p hp)).trans (N p (List.mem_cons_of_mem _ hp)).1, (N p (List.mem_cons_of_mem _ hp)).2⟩
theorem set_ref {Q : Unit → Shared → Prop} (hu : A.in1.units < cLine) (F : Fr h₀ L s.heap m) (N : News h₀ L s.heap ((S, dictOf (ents H xs) n) :: rest)) (off : ∀ p ∈ rest, p.1 ≠ S) (X₀ : K.In h₀) (I : InstAt s.heap k ox C od) (hs : findIn K (.ref C) "__hash__" = some (some (.ref f))) (hf : isFn K (.ref f) = true)
    (hr : -2 ^ 63 ≤ H k ∧ H k < 2 ^ 63 ∧ H k ≠ -1) (hc : HashAt prog w A.in1 h₀ L m ((S, dictOf (ents H xs) n) :: rest) f k (H k)) (hn : (xs.map (·.1)).Nodup) (hH : ∀ p ∈ xs, H p.1 = H k → p.1 = k) (hz : xs.length ≤ 1000) (hk : k ∉ xs.map (·.1))
    (h : ∀ h' tk', Fr h₀ L h' m → News h₀ L h' ((S, dictOf (ents H (xs ++ [(k, v)])) (n + 1)) :: rest) → Q () { s with heap := h', toks := tk' }) : wpAny (model prog w) A (setItem (.ref S) (.ref k) v) Q E s := by
  have z := N _ (.head _)
  have hT : s.TypeIs (.ref S) "dict" := ⟨_, z.1, rfl⟩
  unfold setItem
  try with_reducible refine wpAny_holding ?_
  refine wpAny_bind (wpAny_sequenceKey hT (by decide) ?_)
  refine wpAny_bind (wpAny_callSpecial?_slot (name := Str.ofString "__setitem__") hT slot_dict_setitem
    (wpAny_call_entry slot_dict_setitem hT entry_dict_setitem ?_ (args_dict_setitem _ _ _)))
  show wpAny _ _ (Builtin.Dict.notOrdered "__setitem__" ⟨[.ref S, .ref k, v], []⟩ >>= _) _ _ s
  refine wpAny_bind (wpAny_notOrdered_dict hT ?_)
  show wpAny _ _ (dictSet S (.ref k) v >>= _) _ _ s
  refine wpAny_bind ?_
  unfold dictSet
  try with_reducible refine wpAny_holding ?_
  refine wpAny_bind (hash_ref hu F N X₀ I hs hf hr hc fun h' tk' F' N' => ?_)
  have z' := N' _ (.head _)
  unfold dictSetHashed
  try with_reducible refine wpAny_holding ?_
  refine wpAny_bind (dictFind_ref (H := H) (xs := xs) (ep := n) z'.1 rfl hn hH (fun hno => ?_) fun j u hj => absurd (List.mem_map.mpr ⟨_, List.mem_of_getElem? hj, rfl⟩) hk)
  refine wpAny_bind (wpAny_rule (wpAny_updateDictKeys (hz := by rw [ents_size, sizeLine_eq]; exact Mine.r0 hz) z'.1 rfl ?_))
  refine wpAny_pure ⟨.none, rfl, wpAny_pure ?_⟩
  obtain ⟨F2, N2⟩ := news_head (o' := dictOf (ents H (xs ++ [(k, v)])) (n + 1)) N' F' off (Heap.SameBut.update ..) (by
    refine (upd_at (Obj.mapDictKeys (·.push ⟨H k, .ref k, v⟩)) z'.1 rfl).trans ?_
    show some (Obj.mk _ _ (.dict ((ents H xs).toArray.push ⟨H k, .ref k, v⟩) (n + 1)) _) = _
    rw [List.push_toArray, ents, ents, List.map_append]
    rfl)
  exact h _ _ F2 N2
theorem del_ref {Q : Unit → Shared → Prop} {u : Value} (hu : A.in1.units < cLine) (F : Fr h₀ L s.heap m) (N : News h₀ L s.heap ((S, dictOf (ents H xs) n) :: rest)) (off : ∀ p ∈ rest, p.1 ≠ S) (X₀ : K.In h₀) (I : InstAt s.heap k ox C od) (hs : findIn K (.ref C) "__hash__" = some (some (.ref f))) (hf : isFn K (.ref f) = true)
    (hr : -2 ^ 63 ≤ H k ∧ H k < 2 ^ 63 ∧ H k ≠ -1) (hc : HashAt prog w A.in1 h₀ L m ((S, dictOf (ents H xs) n) :: rest) f k (H k)) (hn : (xs.map (·.1)).Nodup) (hH : ∀ p ∈ xs, H p.1 = H k → p.1 = k) (hz : xs.length ≤ 1000) (hk : xs.lookup k = some u)
    (h : ∀ h' tk', Fr h₀ L h' m → News h₀ L h' ((S, dictOf (ents H (xs.filter (fun p => p.1 != k))) (n + 1)) :: rest) → Q () { s with heap := h', toks := tk' }) : wpAny (model prog w) A (delItem (.ref S) (.ref k)) Q E s := by
  have z := N _ (.head _)
  have hT : s.TypeIs (.ref S) "dict" := ⟨_, z.1, rfl⟩
  refine wpAny_delItem_slot hT (by decide) PySem.F.slot_dict_delitem (wpAny_call_entry PySem.F.slot_dict_delitem hT PySem.F.entry_dict_delitem ?_ (PySem.F.args_dict_delitem_2 _ _))
  unfold Builtin.«dict.__delitem__»
  refine wpAny_bind ?_
  unfold Builtin.Dict.dictSlotArgs
  refine wpAny_bind (wpAny_notOrdered_dict hT ?_)
  show wpAny _ _ (pure (Value.ref S, Value.ref k)) _ _ s
  refine wpAny_pure ?_
  show wpAny _ _ (Builtin.Dict.takeOut S (.ref k) >>= _) _ _ s
  refine wpAny_bind ?_
  unfold Builtin.Dict.takeOut
  try with_reducible refine wpAny_holding ?_
  refine wpAny_bind (hash_ref hu F N X₀ I hs hf hr hc fun h' tk' F' N' => ?_)
  have z' := N' _ (.head _)
  refine wpAny_bind (dictFind_ref (H := H) (xs := xs) (ep := n) z'.1 rfl hn hH (fun hno => absurd hk (by rw [noneOf hno]; simp)) fun j u hj => ?_)
  refine wpAny_bind (wpAny_dictEntries z'.1 rfl ?_)
  rw [ents_at j, hj]
  refine wpAny_bind (wpAny_updateDictKeys (hz := by rw [ents_size, sizeLine_eq]; exact Mine.r0 hz) z'.1 rfl (wpAny_pure ?_))
  refine wpAny_bind (wpAny_letGo (wpAny_pure ⟨.none, rfl, ?_⟩))
  obtain ⟨F2, N2⟩ := news_head (o' := dictOf (ents H (xs.filter (fun p => p.1 != k))) (n + 1)) N' F' off (Heap.SameBut.update ..) (by
    refine (upd_at (Obj.mapDictKeys (·.eraseIdxIfInBounds j)) z'.1 rfl).trans ?_
    show some (Obj.mk _ _ (.dict ((ents H xs).toArray.eraseIdxIfInBounds j) (n + 1)) _) = _
    have e : (ents H xs).toArray.eraseIdxIfInBounds j = (ents H (xs.filter (fun p => p.1 != k))).toArray := by
      rw [← erase_keys hn hj]
      have hjl : j < (ents H xs).length := by
        rw [List.length_map]
        exact (List.getElem?_eq_some_iff.mp hj).1
      apply Array.toList_inj.mp
      rw [Array.eraseIdxIfInBounds]
      simp only [List.size_toArray, hjl, dif_pos]
      rw [Array.toList_eraseIdx, List.toList_toArray]
      exact map_erase _ _ _
    rw [e])
  exact h _ _ F2 N2
end
end Mine
end
section
open PySem PySem.W PyProof.Rows PySem.Spec PySem.Calls
set_option maxRecDepth 100000
namespace Mine
section
variable {M : Model} {A : Around} {E : Value → Shared → Prop} {s : Shared} {σ : Type}
noncomputable def wpT (M : Model) (A : Around) (E : Value → Shared → Prop) (s : Shared) {α : Type} (m : StateT σ Sem α) (Q : α → σ → Shared → Prop) (st : σ) : Prop :=
  wpAny M A (m.run st) (fun r s' => Q r.1 r.2 s') E s
theorem wpT_pure {α : Type} {a : α} {Q : α → σ → Shared → Prop} {st : σ} (h : Q a st s) : wpT M A E s (pure a : StateT σ Sem α) Q st := by
  unfold wpT; rw [StateT.run_pure]; exact wpAny_pure h
theorem wpT_bind {α β : Type} {m : StateT σ Sem α} {f : α → StateT σ Sem β} {Q : β → σ → Shared → Prop} {st : σ}
    (h : wpT M A E s m (fun a st' s' => wpT M A E s' (f a) Q st') st) : wpT M A E s (m >>= f) Q st := by
  unfold wpT at h ⊢; rw [StateT.run_bind]
  exact wpAny_bind (wpAny_mono h (fun _ _ h' => h') fun _ _ e => e)
theorem wpT_mono {α : Type} {m : StateT σ Sem α} {Q Q' : α → σ → Shared → Prop} {st : σ} (h : wpT M A E s m Q st) (hq : ∀ a st' s', Q a st' s' → Q' a st' s') : wpT M A E s m Q' st :=
  wpAny_mono h (fun r s' h' => hq _ _ _ h') fun _ _ e => e
theorem wpT_get {Q : σ → σ → Shared → Prop} {st : σ} (h : Q st st s) : wpT M A E s (get : StateT σ Sem σ) Q st := by
  unfold wpT; rw [StateT.run_get]; exact wpAny_pure h
theorem wpT_modify {f : σ → σ} {Q : PUnit → σ → Shared → Prop} {st : σ} (h : Q ⟨⟩ (f st) s) : wpT M A E s (modify f : StateT σ Sem PUnit) Q st := by
  unfold wpT; rw [StateT.run_modify]; exact wpAny_pure h
theorem wpT_lift {α : Type} {m : Sem α} {Q : α → σ → Shared → Prop} {st : σ} (h : wpAny M A m (fun a s' => Q a st s') E s) : wpT M A E s (liftM m : StateT σ Sem α) Q st := by
  unfold wpT
  show wpAny M A ((StateT.lift m : StateT σ Sem α).run st) _ E s
  rw [StateT.run_lift]
  exact wpAny_bind (wpAny_mono h (fun a s' h' => wpAny_pure h') fun _ _ e => e)
theorem wpT_first {β : Type} {a b : Nat} {f : Nat → β → StateT σ Sem (ForInStep β)} {c : β} {Q : β → σ → Shared → Prop} {st : σ} (hab : a < b)
    (h : wpT M A E s (f a c) (fun r st' s' => ∃ c', r = .done c' ∧ Q c' st' s') st) : wpT M A E s (forIn [a:b] c f) Q st := by
  rw [Std.Legacy.Range.forIn_eq_forIn_range']
  have hsz : ([a:b] : Std.Legacy.Range).size = b - a := by simp [Std.Legacy.Range.size]
  show wpT M A E s (forIn (List.range' a ([a:b] : Std.Legacy.Range).size 1) c f) Q st
  rw [hsz]
  obtain ⟨n, hn⟩ : ∃ n, b - a = n + 1 := ⟨b - a - 1, by exact Mine.r321 hab⟩
  rw [hn, List.range'_succ, List.forIn_cons]
  refine wpT_bind (wpT_mono h fun r st' s' h' => ?_)
  obtain ⟨c', rfl, hq⟩ := h'
  exact wpT_pure hq
end
section
variable {prog : Program} {w : World} {A : Around} {E : Value → Shared → Prop} {s : Shared}
theorem lt_raises {st : SortSt} {i j : Nat} {x y p q : Value} {Q : Option Bool → SortSt → Shared → Prop} (hk : kindOf st = oneType') (hi : (arrOf st)[i]? = some (x, p)) (hj : (arrOf st)[j]? = some (y, q))
    (h : wpAny (model prog w) A (oneLt' true x y) (fun _ _ => False) (fun e s' => Q none (SortSt.mk' (kindOf st) (arrOf st) (pendingOf st) (gallopOf st) (some e)) s') s) :
    wpT (model prog w) A E s (ltAt' i j) Q st := by
  rw [ltAt'_eq]
  refine wpT_bind (wpT_get ?_)
  show wpT _ _ _ _ (do let x ← elem' (arrOf st) i; let y ← elem' (arrOf st) j; lt' x y) Q st
  rw [elem'_eq, elem'_eq, hi, hj]
  refine wpT_bind (wpT_pure (wpT_bind (wpT_pure ?_)))
  rw [lt'_eq]
  refine wpT_bind (wpT_get ?_)
  rw [hk, keyLt'_oneType]
  refine wpT_bind (wpT_lift (wpAny_attempt (wpAny_mono h (fun _ _ h' => h'.elim) fun e s' h' => ?_)))
  refine wpT_bind (wpT_modify (wpT_pure ?_))
  exact h'
theorem runs_raise {st : SortSt} {x y p q : Value} {Q : Unit → SortSt → Shared → Prop} (hk : kindOf st = oneType') (h0 : (arrOf st)[0]? = some (y, q)) (h1 : (arrOf st)[1]? = some (x, p))
    (h : wpAny (model prog w) A (oneLt' true x y) (fun _ _ => False) (fun e s' => Q () (SortSt.mk' (kindOf st) (arrOf st) (pendingOf st) (gallopOf st) (some e)) s') s) :
    wpT (model prog w) A E s sortRuns' Q st := by
  have h2 : 1 < (arrOf st).size := by
    rcases Nat.lt_or_ge 1 (arrOf st).size with h | h
    · exact h
    · rw [Array.getElem?_eq_none h] at h1; cases h1
  rw [sortRuns'_eq]
  refine wpT_bind (wpT_get ?_)
  dsimp only
  refine wpT_bind (wpT_first (by exact Mine.r52 h2) ?_)
  rw [if_neg (by exact Mine.r156 h2)]
  refine wpT_bind ?_
  rw [countRun0_eq]
  refine wpT_bind ?_
  unfold ascLoop
  refine wpT_first (by exact Mine.r202 h2) ?_
  refine wpT_bind (lt_raises hk h1 h0 (wpAny_mono h (fun _ _ h' => h'.elim) fun e s' h' => ?_))
  dsimp only
  refine wpT_pure ⟨_, rfl, ?_⟩
  dsimp only
  refine wpT_pure ?_
  dsimp only
  refine wpT_pure ⟨_, rfl, ?_⟩
  dsimp only
  exact wpT_pure h'
end
end Mine
end
section
open PySem PySem.W PyProof.Rows PySem.Spec PySem.Calls
set_option maxRecDepth 100000
namespace Mine
section
variable {M : Model} {A : Around} {E : Value → Shared → Prop} {s : Shared} {C : Addr}
noncomputable def OfClass (h : Heap) (C : Addr) (vs : List Value) : Prop := ∀ v ∈ vs, ∃ a o, v = .ref a ∧ h.get? a = some o ∧ o.cls = .ref C
theorem first_ref {v : Value} {Q : Option Value → Shared → Prop} (h : ∃ a o, v = .ref a ∧ s.heap.get? a = some o ∧ o.cls = .ref C) (hq : Q none s) : wpAny M A (firstOfTuple' v) Q E s := by
  obtain ⟨a, o, rfl, ho, hc⟩ := h
  show wpAny M A (do if (← typeOf (.ref a)) != .type "tuple" then return none
                     return (← Builtin.List.listItems (.ref a))[0]?) Q E s
  refine wpAny_bind ?_
  unfold typeOf
  refine wpAny_bind (wpAny_load ho (wpAny_pure ?_))
  rw [hc, if_pos (by simp)]
  exact wpAny_pure hq
theorem firsts_refs : ∀ {vs : List Value} {Q : List (Option Value) → Shared → Prop}, OfClass s.heap C vs → Q (vs.map fun _ => none) s → wpAny M A (vs.mapM firstOfTuple') Q E s
  | [], Q, _, hq => by rw [List.mapM_nil]; exact wpAny_pure hq
  | v :: r, Q, h, hq => by
    rw [List.mapM_cons]
    exact wpAny_bind (first_ref (h v (.head _)) (wpAny_bind (firsts_refs (fun u hu => h u (.tail _ hu)) (wpAny_pure hq))))
theorem types_refs : ∀ {vs : List Value} {Q : List Value → Shared → Prop}, OfClass s.heap C vs → Q (vs.map fun _ => .ref C) s → wpAny M A (vs.mapM typeOf) Q E s
  | [], Q, _, hq => by rw [List.mapM_nil]; exact wpAny_pure hq
  | v :: r, Q, h, hq => by
    rw [List.mapM_cons]
    obtain ⟨a, o, rfl, ho, hc⟩ := h v (.head _)
    refine wpAny_bind ?_
    unfold typeOf
    refine wpAny_bind (wpAny_load ho (wpAny_pure ?_))
    rw [hc]
    exact wpAny_bind (types_refs (fun u hu => h u (.tail _ hu)) (wpAny_pure hq))
theorem kind_refs {v₁ : Value} {vs : List Value} {Q : SortKind → Shared → Prop} (h : OfClass s.heap C (v₁ :: vs)) (hq : Q oneType' s) : wpAny M A (keyKind' (v₁ :: vs).toArray) Q E s := by
  rw [keyKind'_eq]
  simp only [List.mapM_toArray]
  refine wpAny_bind ?_
  rw [map_eq_pure_bind]
  refine wpAny_bind (firsts_refs h (wpAny_pure ?_))
  rw [if_neg (by simp), if_neg (by simp)]
  refine wpAny_bind ?_
  rw [oneTypeOnly'_eq]
  simp only [List.mapM_toArray]
  refine wpAny_bind ?_
  rw [map_eq_pure_bind]
  refine wpAny_bind (types_refs h (wpAny_pure ?_))
  have h0 : (List.map (fun _ => Value.ref C) (v₁ :: vs)).toArray[0]? = some (.ref C) := by simp
  rw [h0]
  have hall : ((List.map (fun _ => Value.ref C) (v₁ :: vs)).toArray.all fun x => x == Value.ref C) = true := by
    simp only [List.all_toArray, List.all_map, List.all_eq_true]
    intro _ _
    show (Value.ref C == Value.ref C) = true
    simp
  simp only [hall, if_true]
  refine wpAny_pure ?_
  simp only [Option.isSome_some, if_true]
  exact wpAny_pure hq
end
section
variable {prog : Program} {w : World} {A : Around} {E : Value → Shared → Prop} {s : Shared} {C L B : Addr} {h₀ : Heap} {m : Str → Option Value} {news : List (Addr × Obj)} {vs : List Value} {n : Nat}
theorem sort_world (F : Fr h₀ L s.heap m) (N : News h₀ L s.heap ((B, W.listOf vs.toArray n) :: news)) (off : ∀ p ∈ news, p.1 ≠ B) :
    ∃ e1 h', h' = ((s.heap.update B (Obj.mapSeq fun _ => #[])).push (seqObj "tuple" vs.toArray 0)).push (seqObj "list" #[] 0) ∧ (s.heap.update B (Obj.mapSeq fun _ => #[])).get? B = some (seqObj "list" #[] e1) ∧ Fr h₀ L h' m ∧ News h₀ L h' ((B, W.listOf #[] e1) :: news) := by
  have z := N _ (.head _)
  have hu := get?_update_seq (n := n) (xs := vs.toArray) (c := "list") z.1 (fun _ => #[])
  obtain ⟨F1, N1⟩ := news_head N F off (Heap.SameBut.update s.heap B (Obj.mapSeq fun _ => #[])) hu
  exact ⟨_, _, rfl, hu, (F1.push _).push _, (N1.grown fun _ _ e => Heap.get?_push_of_some _ (Heap.get?_push_of_some _ e))⟩
set_option maxHeartbeats 4000000 in
theorem sort_small {Q : Value → Shared → Prop} (F : Fr h₀ L s.heap m) (N : News h₀ L s.heap ((B, W.listOf vs.toArray n) :: news)) (off : ∀ p ∈ news, p.1 ≠ B) (hv : vs.length < 2)
    (h : ∀ h' n', Fr h₀ L h' m → News h₀ L h' ((B, W.listOf vs.toArray n') :: news) → Q .none { s with heap := h' }) : wpAny (model prog w) A (call (.builtin "list.sort") [.ref B]) Q E s := by
  have z := N _ (.head _)
  refine wpAny_call_entry slot_list_sort ⟨_, z.1, rfl⟩ entry_list_sort ?_ (args_list_sort _)
  rw [list_sort_plain]
  refine wpAny_bind (listItems_at z.1 rfl (wpAny_bind (listUpdate_at z.1 rfl ?_ (by rw [List.size_toArray, sizeLine_eq]; exact Mine.r172 hv))))
  obtain ⟨e1, h1, rfl, hu, F1, N1⟩ := sort_world F N off
  refine wpAny_bind (seqEpoch_at hu rfl (wpAny_bind (wpAny_newTuple (wpAny_bind (wpAny_newList (wpAny_holding ?_))))))
  show wpAny (model prog w) A.in1 _ _ E { s with heap := ((s.heap.update B (Obj.mapSeq fun _ => #[])).push (seqObj "tuple" vs.toArray 0)).push (seqObj "list" #[] 0) }
  clear hu
  generalize ((s.heap.update B (Obj.mapSeq fun _ => #[])).push (seqObj "tuple" vs.toArray 0)).push (seqObj "list" #[] 0) = h1 at F1 N1
  have z1 := N1 _ (.head _)
  dsimp only
  rw [if_pos (show vs.toArray.size < 2 by rw [List.size_toArray]; exact hv), if_pos (show vs.toArray.size < 2 by rw [List.size_toArray]; exact hv)]
  refine wpAny_bind (wpAny_pure ?_)
  rw [StateT.run_pure]
  refine wpAny_bind (wpAny_pure ?_)
  dsimp only
  refine wpAny_bind (seqEpoch_at z1.1 rfl ?_)
  have e2 : ((vs.toArray.zip vs.toArray).map (·.2)) = vs.toArray := by
    apply Array.toList_inj.mp
    rw [Array.toList_map, Array.toList_zip, List.toList_toArray]
    exact List.map_snd_zip (Nat.le_refl _)
  refine wpAny_bind (listUpdate_at z1.1 rfl ?_ (by rw [sizeLine_eq]; simp) (by rw [e2, List.size_toArray, sizeLine_eq]; exact Mine.r260 hv))
  simp only [bne_self_eq_false, Bool.false_eq_true, if_false]
  refine wpAny_pure ⟨_, rfl, ?_⟩
  have hu2 := get?_update_seq (n := e1) (xs := #[]) (c := "list") z1.1 (fun _ => ((vs.toArray.zip vs.toArray).map (·.2)))
  have e3 : ∀ k, seqObj "list" ((vs.toArray.zip vs.toArray).map (·.2)) k = W.listOf vs.toArray k := fun k => by rw [e2]
  obtain ⟨F2, N2⟩ := news_head N1 F1 off (Heap.SameBut.update _ B (Obj.mapSeq fun _ => ((vs.toArray.zip vs.toArray).map (·.2)))) (hu2.trans (congrArg some (e3 _)))
  exact h _ _ F2 N2
end
end Mine
end
section
open PySem PySem.W PyProof.Rows PySem.Spec PySem.Calls
set_option maxRecDepth 100000
namespace Mine
theorem funFrames_upd {Bh h h' : Heap} {B : Addr} (hs : Heap.SameBut B h h') : ∀ {l : List Env}, (∀ b ∈ l.filterMap (·.frame), b ≠ B) → h.FunFrames Bh l → h'.FunFrames (hideAll Bh [B]) l
  | [], _, _ => trivial
  | env :: r, hl, x => by
    obtain ⟨x1, ⟨L, o, hf, hn, ho, hd⟩, x3⟩ := x
    have hL : L ≠ B := hl L (List.mem_filterMap.mpr ⟨env, .head _, hf⟩)
    refine ⟨x1, ⟨L, o, hf, ?_, (hs.2 _ hL).trans ho, hd⟩, funFrames_upd hs (fun b hb => hl b (by
      obtain ⟨e, he, hfe⟩ := List.mem_filterMap.mp hb
      exact List.mem_filterMap.mpr ⟨e, .tail _ he, hfe⟩)) x3⟩
    cases q : (hideAll Bh [B]).get? L with
    | none => rfl
    | some o' => have := of_hideAll [B] q; rw [hn] at this; cases this
theorem raised_upd {base G h h' : Heap} {l : List Env} {e B : Addr} {cls : Value} {oB : Obj} {news : List (Addr × Obj)} (R : RaisedSN base G l e cls ((B, oB) :: news) h)
    (hl : ∀ b ∈ l.filterMap (·.frame), ∃ o, G.get? b = some o) (hs : Heap.SameBut B h h') (hd : ∀ vs, oB.data ≠ .fields vs) (off : ∀ p ∈ news, p.1 ≠ B) (hu : G.UpToSlots h) : RaisedSN base G l e cls news h' ∧ G.UpToSlots h' := by
  obtain ⟨Bh, a0, hB, hBG, hln, ⟨f1, f2, f3, f4⟩⟩ := R
  obtain ⟨b1, b2, b3⟩ := hln (B, oB) (.head _)
  have hn1 : ∀ b, b ≠ B → b ∉ [B] := fun b hb hm => hb (List.mem_singleton.mp hm)
  have none' : ∀ {x : Addr}, Bh.get? x = none → (hideAll Bh [B]).get? x = none := fun {x} hx => by
    cases q : (hideAll Bh [B]).get? x with
    | none => rfl
    | some o' => have := of_hideAll [B] q; rw [hx] at this; cases this
  have hb : h.get? B = some oB := f1 _ _ b1
  have hlB : ∀ b ∈ l.filterMap (·.frame), b ≠ B := fun b hm q => by
    obtain ⟨o, ho⟩ := hl b hm
    rw [q, b2] at ho; cases ho
  refine ⟨⟨hideAll Bh [B], a0, fun b o q => hideAll_get _ (hB b o q) (hn1 b fun z => by rw [z, b3] at q; cases q), fun b o q nm => hideAll_get _ (hBG b o q nm) (hn1 b fun z => by rw [z, b2] at q; cases q),
    fun q hq => ⟨hideAll_get _ (hln q (.tail _ hq)).1 (hn1 _ (off q hq)), (hln q (.tail _ hq)).2⟩, ⟨fun b o q => ?_, none' f2, funFrames_upd hs hlB f3, ?_⟩⟩, fun b o q hnf => ?_⟩
  · have hbB : b ≠ B := fun z => by
      subst z
      have := hideAll_none [b] (h := Bh) (List.mem_singleton.mpr rfl)
      rw [this] at q; cases q
    exact (hs.2 _ hbB).trans (f1 _ _ (of_hideAll [B] q))
  · obtain ⟨oe, vs, T, oT, ts, he, hc, hde, h1, hnT, hTe, hT, hdT, h3⟩ := f4
    have heB : e ≠ B := fun z => by rw [z, hb] at he; cases he; exact hd _ hde
    have hTB : T ≠ B := fun z => by rw [z, hb] at hT; cases hT; exact hd _ hdT
    exact ⟨oe, vs, T, oT, ts, (hs.2 _ heB).trans he, hc, hde, h1, none' hnT, hTe, (hs.2 _ hTB).trans hT, hdT, h3⟩
  · have hbB : b ≠ B := fun z => by rw [z, b2] at q; cases q
    obtain ⟨sl, hsl⟩ := hu b o q hnf
    exact ⟨sl, (hs.2 _ hbB).trans hsl⟩
noncomputable def RaisedAt (base h₀ : Heap) (L : Addr) (m : Str → Option Value) (l : List Env) (e : Addr) (cls : Value) (news : List (Addr × Obj)) (h : Heap) : Prop :=
  ∃ G, Fr h₀ L G m ∧ RaisedSN base G l e cls news h ∧ G.UpToSlots h ∧ ∀ b ∈ l.filterMap (·.frame), ∃ o, G.get? b = some o
section
variable {prog : Program} {w : World} {A : Around} {E : Value → Shared → Prop} {s : Shared} {C L B flt : Addr} {base h₀ : Heap} {m : Str → Option Value} {news : List (Addr × Obj)} {vs : List Value} {n : Nat} {l : List Env} {cls x y : Value}
noncomputable def LtRaises (prog : Program) (w : World) (A : Around) (base h₀ : Heap) (L : Addr) (m : Str → Option Value) (l : List Env) (cls : Value) (news : List (Addr × Obj)) (flt : Addr) (x y : Value) : Prop :=
  ∀ (s : Shared) (E : Value → Shared → Prop), Fr h₀ L s.heap m → News h₀ L s.heap news → (∀ e h' tk', RaisedAt base h₀ L m l e cls news h' → E (.ref e) { s with heap := h', toks := tk' }) → wpAny (model prog w) A (call (.ref flt) [x, y]) (fun _ _ => False) E s
set_option maxHeartbeats 4000000 in
theorem sort_raise {K : Frag} {a : Addr} {oa : Obj} {od : Option Obj} {Q : Value → Shared → Prop} (hu : A.in1.units < cLine) (F : Fr h₀ L s.heap m) (N : News h₀ L s.heap ((B, W.listOf (y :: .ref a :: vs).toArray n) :: news)) (off : ∀ p ∈ news, p.1 ≠ B) (hz : vs.length ≤ 1000)
    (X₀ : K.In h₀) (hc : ∀ v ∈ y :: .ref a :: vs, ∃ b o, v = .ref b ∧ (b, o) ∈ news ∧ o.cls = .ref C) (I : ∀ h, (∀ p ∈ news, h.get? p.1 = some p.2) → InstAt h a oa C od) (hs : findIn K (.ref C) "__lt__" = some (some (.ref flt))) (hf : isFn K (.ref flt) = true)
    (hlt : ∀ e1, LtRaises prog w A.in1 base h₀ L m l cls ((B, W.listOf #[] e1) :: news) flt (.ref a) y)
    (h : ∀ e h' tk', RaisedAt base h₀ L m l e cls news h' → E (.ref e) { s with heap := h', toks := tk' }) : wpAny (model prog w) A (call (.builtin "list.sort") [.ref B]) Q E s := by
  have z := N _ (.head _)
  refine wpAny_call_entry slot_list_sort ⟨_, z.1, rfl⟩ entry_list_sort ?_ (args_list_sort _)
  rw [list_sort_plain]
  refine wpAny_bind (listItems_at z.1 rfl (wpAny_bind (listUpdate_at z.1 rfl ?_ (by rw [List.size_toArray, sizeLine_eq]; simp only [List.length_cons]; exact Mine.r344 hz))))
  obtain ⟨e1, h1, rfl, hu1, F1, N1⟩ := sort_world F N off
  refine wpAny_bind (seqEpoch_at hu1 rfl (wpAny_bind (wpAny_newTuple (wpAny_bind (wpAny_newList (wpAny_holding ?_))))))
  show wpAny (model prog w) A.in1 _ _ E { s with heap := ((s.heap.update B (Obj.mapSeq fun _ => #[])).push (seqObj "tuple" (y :: .ref a :: vs).toArray 0)).push (seqObj "list" #[] 0) }
  clear hu1
  generalize ((s.heap.update B (Obj.mapSeq fun _ => #[])).push (seqObj "tuple" (y :: .ref a :: vs).toArray 0)).push (seqObj "list" #[] 0) = h1 at F1 N1
  have z1 := N1 _ (.head _)
  dsimp only
  rw [if_neg (show ¬ (y :: Value.ref a :: vs).toArray.size < 2 by rw [List.size_toArray]; simp only [List.length_cons]; exact Mine.r32), if_neg (show ¬ (y :: Value.ref a :: vs).toArray.size < 2 by rw [List.size_toArray]; simp only [List.length_cons]; exact Mine.r32)]
  refine wpAny_bind (kind_refs (C := C) (s := { s with heap := h1 }) (fun v hv => ?_) ?_)
  · obtain ⟨b, o, e, hm, ho⟩ := hc v hv
    exact ⟨b, o, e, (N1 _ (.tail _ hm)).1, ho⟩
  have run := runs_raise (prog := prog) (w := w) (A := A.in1) (E := E) (s := { s with heap := h1 }) (st := SortSt.mk' oneType' ((y :: Value.ref a :: vs).toArray.zip (y :: Value.ref a :: vs).toArray) #[] 7 none) (x := .ref a) (y := y) (p := .ref a) (q := y)
    (Q := fun _ st s' => ∃ e h' tk', st = SortSt.mk' oneType' ((y :: Value.ref a :: vs).toArray.zip (y :: Value.ref a :: vs).toArray) #[] 7 (some (.ref e)) ∧ s' = { s with heap := h', toks := tk' } ∧ RaisedAt base h₀ L m l e cls ((B, W.listOf #[] e1) :: news) h') rfl (by show ((y :: Value.ref a :: vs).toArray.zip (y :: Value.ref a :: vs).toArray)[0]? = _; simp) (by show ((y :: Value.ref a :: vs).toArray.zip (y :: Value.ref a :: vs).toArray)[1]? = _; simp) ?_
  · refine wpAny_bind (wpAny_mono run ?_ fun _ _ e => e)
    rintro ⟨⟨⟩, st⟩ s' ⟨e, h', tk', rfl, rfl, G, FG, R, hsm, hl⟩
    dsimp only
    obtain ⟨Bh, _, _, _, hln, ⟨f1, _⟩⟩ := id R
    have hbB : h'.get? B = some (W.listOf #[] e1) := f1 _ _ (hln _ (.head _)).1
    refine wpAny_bind (seqEpoch_at (s := { s with heap := h', toks := tk' }) hbB rfl ?_)
    refine wpAny_bind (listUpdate_at (s := { s with heap := h', toks := tk' }) hbB rfl ?_ (by rw [sizeLine_eq]; simp) (by show (((y :: Value.ref a :: vs).toArray.zip (y :: Value.ref a :: vs).toArray).map (·.2)).size ≤ _; rw [sizeLine_eq]; simp only [Array.size_map, Array.size_zip, List.size_toArray, List.length_cons]; exact Mine.r485 hz))
    refine wpAny_bind (wpAny_rule (wpAny_bind (wpAny_throw ?_)))
    obtain ⟨R2, U2⟩ := raised_upd R hl (Heap.SameBut.update h' B (Obj.mapSeq fun _ => _)) (fun _ q => by cases q) off hsm
    exact h e _ tk' ⟨G, FG, R2, U2, hl⟩
  · rw [oneLt'_eq]
    simp only [if_true]
    refine wpAny_bind (wpAny_cRoomFor hu (wpAny_bind (ifBound_K (X₀.keeps F1.keep) (I _ fun p hp => (N1 p (.tail _ hp)).1) hs hf ?_)))
    refine wpAny_mono (hlt e1 _ _ F1 N1 fun e h' tk' R => ?_) (fun _ _ h' => h'.elim) fun _ _ e => e
    exact ⟨e, h', tk', rfl, rfl, R⟩
end
end Mine
end
local macro_rules | `(tactic| k_all) => `(tactic| assumption)
local macro_rules | `(tactic| k_room) => `(tactic| ((try simp only [depth_under_make, depth_under_kw, depth_in1, depth_deeper, depth_caller, units_in1, units_deeper, Around.mark_units, units_caller]); first | decide | (refine Mine.room1 (by with_reducible assumption) ?_; exact rfl) | (refine Mine.room2 (by with_reducible assumption) ?_; exact rfl) | (refine Mine.room3 (by with_reducible assumption) ?_; exact rfl) | (refine Mine.room4 (by with_reducible assumption) ?_; exact rfl) | exact Mine.room0 (by with_reducible assumption) | ktr_room))
local macro_rules | `(tactic| ke_room) => `(tactic| k_units)
local macro_rules | `(tactic| k_units) => `(tactic| ((try simp only [depth_under_make, depth_under_kw, depth_in1, depth_deeper, depth_caller, units_in1, units_deeper, Around.mark_units, units_caller]); first | decide | (refine Mine.room1 (by with_reducible assumption) ?_; exact rfl) | (refine Mine.room2 (by with_reducible assumption) ?_; exact rfl) | (refine Mine.room3 (by with_reducible assumption) ?_; exact rfl) | (refine Mine.room4 (by with_reducible assumption) ?_; exact rfl) | exact Mine.room0 (by with_reducible assumption) | ktr_units))
local macro_rules | `(tactic| kwk_ne) => `(tactic| refine Mine.stop_here ?_)
section
open PySem PySem.W PyProof.Rows
local macro_rules | `(tactic| walk_at "call builtin:hash") => `(tactic| (k_here; k_dflt (refine' Mine.hash_pair ?u ?D ?_; (case u => ktr_units); (case D => exact (News.get (by k_asm) (by k_mem)))); intro t' tk'))
namespace Mine
noncomputable abbrev P7 : Program := PySem.Challenge.rw_km0038_07.row.prog
noncomputable abbrev atN (dp un : Nat) (gd : Option (List Code)) (env : Env) (outer : List Env) : Around := { handled := none, depth := dp, frames := some (env :: outer), guards := gd, units := un }
noncomputable abbrev ent (P : Params) (k : String) (t : Tok) (v : Value) : DictEntry := { hash := PyData.keyHash P (Str.ofString k), key := Value.str (Str.ofString k) t, val := v }
structure Net where
  word : Str
  n : Int
  pl : Int
  f : Addr
  u0 : Tok
  u1 : Tok
  u2 : Tok
  u3 : Tok
  u4 : Tok
  k0 : Tok
  k1 : Tok
  k2 : Tok
  k3 : Tok
  k4 : Tok
  k5 : Tok
noncomputable abbrev netD (P : Params) (q : Net) : Obj :=
  dictOf [ent P "_version" q.k1 (.int q.n q.u1), ent P "network_address" q.k2 (.int q.n q.u2), ent P "netmask" q.k3 (.int 0 q.u3), ent P "_prefixlen" q.k4 (.int q.pl q.u4), ent P "supernet" q.k5 (.ref q.f)] 5
set_option maxRecDepth 100000 in
set_option maxHeartbeats 8000000 in
theorem hash_spec (w : World) {mean : ExcName → Option Value} {mg mb : Str → Option Value} {q : Net} {x d : Addr} {dp un : Nat} {gd : Option (List Code)} {env : Env} {outer : List Env} {A₀ : Around} {base h₀ : Heap} {L : Addr} {m : Str → Option Value}
    {rest : List (Addr × Obj)} {s : Shared} {Q E : Value → Shared → Prop} {loose : List Str} {pgm : Program}
    (B : Below A₀ base outer h₀) (F : Fr h₀ L s.heap m) (X : (hd.heap_1 w.params).In h₀) (N : News h₀ L s.heap ((x, instObj 556 d) :: (d, netD w.params q) :: rest))
    (T : Top pgm loose mean mg mb h₀) (hfX : env.frame = some L) (hk : env.scope.kind = .function) 
    (hdp : dp + 10 < recursionLimit) (hu : un + 400 < cLine)
    (rS : ∀ h' tk' t', Fr h₀ L h' m → News h₀ L h' ((x, instObj 556 d) :: (d, netD w.params q) :: rest) → Q (.int (hp q.n 0) t') { s with heap := h', toks := tk' }) :
    wpAny (model P7 w) (atN dp un gd env outer) (call (.ref 354) [.ref x]) Q E s := by
  have hq : PySem.Challenge.rw_km0038_07 = PySem.Challenge.rw_km0038_07 ∧ hd.heap_1 = hd.heap_1 := ⟨rfl, rfl⟩
  revert hq
  k_fill
  intro hq
  w_on
  refine wpAny_call ?_
  k_dflt (refine' PySem.W.code_def ?k1 ?k2 ?k3 ?k4 ?k5 ?kA ?kF ?kK ?k6 ?k7 ?k8 ?k9 ?kB ?_ ?c2 ?c3 ?c4 ?c5; (case kA => exact rfl); (case kF => exact hfX); (case kK => exact hk); (case k1 => k_asm); (case k2 => k_asm); (case k3 => k_asm); (case k4 => k_asm); (case k5 => k_asm); (case k6 => k_is); (case k7 => k_is); (case k8 => k_room); (case k9 => first | exact BindsTo.of_eq rfl | exact binds_K (by k_in) rfl (by k_is) rfl rfl rfl); (case c5 => decide); (case kB => exact locs rfl); (case c2 => exact rfl); (case c3 => exact rfl); (case c4 => exact rfl); k_whole; intro g' L' h' FG' F' N' B' X' T'; (try dsimp only); (try k_lift B'); (try k_fold))
  w_strict k_steps
  rename Fr h₀ L _ _ => F9
  rename News h₀ L _ _ => N9
  exact rS _ _ _ F9 (News.tail' N9)
end Mine
namespace Mine
set_option maxRecDepth 100000 in
set_option maxHeartbeats 8000000 in
theorem eq_spec (w : World) {mean : ExcName → Option Value} {mg mb : Str → Option Value} {q q' : Net} {x d y e : Addr} {dp un : Nat} {gd : Option (List Code)} {env : Env} {outer : List Env} {A₀ : Around} {base h₀ : Heap} {L : Addr} {m : Str → Option Value}
    {rest : List (Addr × Obj)} {s : Shared} {Q E : Value → Shared → Prop} {loose : List Str} {pgm : Program}
    (B : Below A₀ base outer h₀) (F : Fr h₀ L s.heap m) (X : (hd.heap_1 w.params).In h₀) (N : News h₀ L s.heap ((x, instObj 556 d) :: (d, netD w.params q) :: (y, instObj 556 e) :: (e, netD w.params q') :: rest))
    (T : Top pgm loose mean mg mb h₀) (hfX : env.frame = some L) (hk : env.scope.kind = .function) 
    (hdp : dp + 10 < recursionLimit) (hu : un + 400 < cLine)
    (rS : ∀ h' tk', Fr h₀ L h' m → News h₀ L h' ((x, instObj 556 d) :: (d, netD w.params q) :: (y, instObj 556 e) :: (e, netD w.params q') :: rest) → Q (.bool (decide (q.n = q'.n))) { s with heap := h', toks := tk' }) :
    wpAny (model P7 w) (atN dp un gd env outer) (call (.ref 347) [.ref x, .ref y]) Q E s := by
  have hq : PySem.Challenge.rw_km0038_07 = PySem.Challenge.rw_km0038_07 ∧ hd.heap_1 = hd.heap_1 := ⟨rfl, rfl⟩
  revert hq
  k_fill
  intro hq
  w_on
  refine wpAny_call ?_
  k_dflt (refine' PySem.W.code_def ?k1 ?k2 ?k3 ?k4 ?k5 ?kA ?kF ?kK ?k6 ?k7 ?k8 ?k9 ?kB ?_ ?c2 ?c3 ?c4 ?c5; (case kA => exact rfl); (case kF => exact hfX); (case kK => exact hk); (case k1 => k_asm); (case k2 => k_asm); (case k3 => k_asm); (case k4 => k_asm); (case k5 => k_asm); (case k6 => k_is); (case k7 => k_is); (case k8 => k_room); (case k9 => first | exact BindsTo.of_eq rfl | exact binds_K (by k_in) rfl (by k_is) rfl rfl rfl); (case c5 => decide); (case kB => exact locs rfl); (case c2 => exact rfl); (case c3 => exact rfl); (case c4 => exact rfl); k_whole; intro g' L' h' FG' F' N' B' X' T'; (try dsimp only); (try k_lift B'); (try k_fold))
  w_strict k_steps
  all_goals (
    rename Fr h₀ L _ _ => F9
    rename News h₀ L _ _ => N9
    have r := fun tk' => rS _ tk' F9 N9)
  · rw [decide_eq_true (by assumption)] at r
    exact r _
  · exact r _
  · exact r _
set_option maxRecDepth 100000 in
set_option maxHeartbeats 8000000 in
theorem str_spec (w : World) {mean : ExcName → Option Value} {mg mb : Str → Option Value} {q : Net} {x d : Addr} {dp un : Nat} {gd : Option (List Code)} {env : Env} {outer : List Env} {A₀ : Around} {base h₀ : Heap} {L : Addr} {m : Str → Option Value}
    {rest : List (Addr × Obj)} {s : Shared} {Q E : Value → Shared → Prop} {loose : List Str} {pgm : Program}
    (B : Below A₀ base outer h₀) (F : Fr h₀ L s.heap m) (X : (hd.heap_1 w.params).In h₀) (N : News h₀ L s.heap ((x, instObj 556 d) :: (d, netD w.params q) :: rest))
    (T : Top pgm loose mean mg mb h₀) (hfX : env.frame = some L) (hk : env.scope.kind = .function) (h0 : 0 ≤ q.n) (h1 : q.n < 16384) (h2 : 0 ≤ q.pl) (h3 : q.pl < 16384)
    (hdp : dp + 20 < recursionLimit) (hu : un + 800 < cLine)
    (rS : ∀ h' tk' y t', Fr h₀ L h' m → News h₀ L h' ((x, instObj 556 d) :: (d, netD w.params q) :: rest) → y.length ≤ 2100 → Q (.str y t') { s with heap := h', toks := tk' }) :
    wpAny (model P7 w) (atN dp un gd env outer) (call (.ref 312) [.ref x]) Q E s := by
  have hq : PySem.Challenge.rw_km0038_07 = PySem.Challenge.rw_km0038_07 ∧ hd.heap_1 = hd.heap_1 := ⟨rfl, rfl⟩
  revert hq
  k_fill
  intro hq
  w_on
  refine wpAny_call ?_
  k_dflt (refine' PySem.W.code_def ?k1 ?k2 ?k3 ?k4 ?k5 ?kA ?kF ?kK ?k6 ?k7 ?k8 ?k9 ?kB ?_ ?c2 ?c3 ?c4 ?c5; (case kA => exact rfl); (case kF => exact hfX); (case kK => exact hk); (case k1 => k_asm); (case k2 => k_asm); (case k3 => k_asm); (case k4 => k_asm); (case k5 => k_asm); (case k6 => k_is); (case k7 => k_is); (case k8 => k_room); (case k9 => first | exact BindsTo.of_eq rfl | exact binds_K (by k_in) rfl (by k_is) rfl rfl rfl); (case c5 => decide); (case kB => exact locs rfl); (case c2 => exact rfl); (case c3 => exact rfl); (case c4 => exact rfl); k_whole; intro g' L' h' FG' F' N' B' X' T'; (try dsimp only); (try k_lift B'); (try k_fold))
  w_strict k_steps
  rename Fr h₀ L _ _ => F9
  rename News h₀ L _ _ => N9
  refine rS _ _ _ _ F9 (by first | exact N9 | exact News.tail' N9) ?_
  have e1 := int_len (i := q.n) (by omega) (by omega)
  have e2 := int_len (i := q.pl) (by omega) (by omega)
  rw [Str.length_append, Str.length_append, show (Str.ofString "/").length = 1 by decide +kernel]
  exact Mine.r400 e1 e2
end Mine
end
section
open PySem PySem.W PyProof.Rows
local macro_rules | `(tactic| k_ne) => `(tactic| (refine neN ?_; (try dsimp only); first | (with_reducible assumption) | (with_reducible exact Ne.symm (by assumption)) | omega))
local macro_rules | `(tactic| walk_at "eval Lambda") => `(tactic| kwk_ne)
local macro_rules | `(tactic| walk_at "compareOp NotIn str ref") => `(tactic| kwk_ne)
local macro_rules | `(tactic| walk_at "setItem ref str") => `(tactic| kwk_ne)
local macro_rules | `(tactic| walk_at "call type:int") => `(tactic| kwk_ne)
local macro_rules | `(tactic| walk_at "subscriptTail") => `(tactic| ((with_reducible show wpAny _ _ (subscriptTail _ _ (Value.ref _) (Value.str _ _)) _ _ _); kwk_ne))
namespace Mine
noncomputable abbrev lamParams : Arguments := { posonlyargs := [], args := [], vararg := none, kwonlyargs := [], kw_defaults := [], kwarg := none, defaults := [] }
noncomputable abbrev lamPos (c e : Nat) : Pos := { line := 394, col := c, endLine := 394, endCol := e }
noncomputable abbrev lamBody : Expr := (Expr.Name (Str.ofString "_law_asked") (lamPos 31 41)).Call
  [Expr.Name (Str.ofString "nets") (lamPos 42 46), Expr.Name (Str.ofString "word") (lamPos 48 52), Expr.Name (Str.ofString "asked") (lamPos 54 59)] [] (lamPos 31 60)
noncomputable abbrev lamScope : Scope := { kind := ScopeKind.function, names := [(Str.ofString "asked", NameKind.free), (Str.ofString "nets", NameKind.free), (Str.ofString "word", NameKind.free), (Str.ofString "_law_asked", NameKind.globalImplicit)], isGenerator := false, isCoroutine := false }
noncomputable abbrev lawNetScope : Scope := { kind := ScopeKind.function, names := [(Str.ofString "nets", NameKind.cell), (Str.ofString "word", NameKind.cell), (Str.ofString "asked", NameKind.cell), (Str.ofString "net", NameKind.local), (Str.ofString "_BaseNetwork", NameKind.globalImplicit), (Str.ofString "int", NameKind.globalImplicit), (Str.ofString "len", NameKind.globalImplicit)], isGenerator := false, isCoroutine := false }
noncomputable abbrev lamQual : Str := (envOfC (Str.ofString "_law_net") lawNetScope 0 585 (Value.ref 584)).qual ++ Str.ofString "<lambda>"
noncomputable abbrev lamO (pm : Value) (c' : Addr) (ctv : Value) (a1 a2 a3 : Addr) : Obj :=
  kla_obj (Str.ofString "<lambda>") lamQual lamParams lamBody lamScope [(Str.ofString "word", a2), (Str.ofString "nets", a1), (Str.ofString "asked", a3)] pm c' ctv
set_option maxRecDepth 100000 in
set_option maxHeartbeats 2000000 in
theorem net_known (w : World) {mean : ExcName → Option Value} {mg mb : Str → Option Value} {word : Str} {kvs : List (Str × Value)} {oN : Obj} {a ND LA : Addr} {t : Tok} {dp un : Nat} {gd : Option (List Code)} {env : Env} {outer : List Env} {A₀ : Around} {base h₀ : Heap} {L : Addr} {m : Str → Option Value}
    {rest : List (Addr × Obj)} {s : Shared} {Q E : Value → Shared → Prop} {loose : List Str} {pgm : Program}
    (B : Below A₀ base outer h₀) (F : Fr h₀ L s.heap m) (X : (hd.heap_1 w.params).In h₀) (N : News h₀ L s.heap ((ND, oN) :: rest)) (hN : oN.IsDictOf (PySem.strKind P7 w) kvs) (hlo : (ND == sysModules) = false) (hk1 : valueAt kvs word = some (.ref a))
    (T : Top pgm loose mean mg mb h₀) (hfX : env.frame = some L) (hk : env.scope.kind = .function)
    (hdp : dp + 10 < recursionLimit) (hu : un + 400 < cLine)
    (rS : ∀ h' tk', Fr h₀ L h' m → News h₀ L h' ((ND, oN) :: rest) → Q (.ref a) { s with heap := h', toks := tk' }) :
    wpAny (model P7 w) (atN dp un gd env outer) (call (.ref 585) [.ref ND, .str word t, .ref LA]) Q E s := by
  have hq : PySem.Challenge.rw_km0038_07 = PySem.Challenge.rw_km0038_07 ∧ hd.heap_1 = hd.heap_1 := ⟨rfl, rfl⟩
  revert hq
  k_fill
  intro hq
  w_on
  refine wpAny_call ?_
  k_dflt (refine' code_defC ?k1 ?k2 ?k3 ?k4 ?k5 ?kA ?kF ?kK ?k6 ?k7 ?k8 ?k9 ?kB ?kD ?_ ?c2 ?c3 ?c4; (case kA => exact rfl); (case kF => exact hfX); (case kK => exact hk); (case k1 => k_asm); (case k2 => k_asm); (case k3 => k_asm); (case k4 => k_asm); (case k5 => k_asm); (case k6 => k_is); (case k7 => k_is); (case k8 => k_room); (case k9 => first | exact BindsTo.of_eq rfl | exact binds_K (by k_in) rfl (by k_is) rfl rfl rfl); (case kB => exact rfl); (case kD => decide +kernel); (case c2 => exact rfl); (case c3 => exact rfl); (case c4 => exact rfl); k_whole; intro g' L' h' tk' cells' FG' F' N' Y' B' X' T' l1; (try k_lt l1); k_cells Y'; (try simp only [List.cons_append, List.nil_append] at N'); (try dsimp only); (try k_lift B'); (try k_fold))
  w_strict k_steps
  unfold Stop
  refine kdg_notin (knd := PySem.strKind _ _) N' (by k_mem) hN hlo (strKind_is _ _ _ _) true (by rw [hk1]; rfl) ?_
  dsimp only [Bool.not_true]
  w_strict k_steps
  unfold Stop
  refine kda_item (knd := PySem.strKind _ _) N' (by k_mem) hN (strKind_is _ _ _ _) hk1 ?_
  w_strict k_steps
  rename News h₀ L _ _ => N9
  rename Fr h₀ L _ _ => F9
  exact rS _ _ F9 (News.tail' (News.tail' (News.tail' N9)))
theorem stored_new {kvs : List (Str × Value)} {k : Str} {v : Value} (h : valueAt kvs k = none) : stored kvs k v = kvs ++ [(k, v)] := by
  unfold stored
  have : kvs.any (fun kv => decide (kv.1 = k)) = false := by
    rw [Bool.eq_false_iff]
    intro z
    obtain ⟨x, hx, e⟩ := List.any_eq_true.mp z
    unfold valueAt at h
    rw [Option.map_eq_none_iff, List.find?_eq_none] at h
    exact h x hx e
  rw [this]; rfl
theorem valueAt_snoc {kvs : List (Str × Value)} {k u : Str} {v : Value} (h : valueAt kvs k = none) : valueAt (kvs ++ [(k, v)]) u = if k = u then some v else valueAt kvs u := by
  unfold valueAt
  rw [List.find?_append]
  by_cases e : k = u
  · subst e
    unfold valueAt at h
    rw [Option.map_eq_none_iff] at h
    rw [h, if_pos rfl]
    simp
  · rw [if_neg e]
    cases q : kvs.find? (fun kv => decide (kv.1 = u)) with
    | none => simp [e]
    | some x => simp
noncomputable abbrev tab1 (c' : Addr) : Obj := tabObj (#[] ++ #[rawInt ((394 : Nat) : Int), rawInt ((23 : Nat) : Int), .ref c'])
noncomputable def LamCode (c' : Addr) (news : List (Addr × Obj)) : Prop := ∃ oc vs t, (c', oc) ∈ news ∧ oc.data = .fields vs ∧ vs[1]? = some (.str lamQual t)
inductive NetAt (P : Params) (ND LA c' : Addr) (v : List Bool) (x : Addr) (news : List (Addr × Obj)) : Prop
  | mk (d : Addr) (q : Net) (pm ctv : Value) (a1 a2 a3 : Addr) (o1 o2 o3 : Obj) (t : Tok) (h1 : (x, instObj 556 d) ∈ news) (h2 : (d, netD P q) ∈ news) (e2 : q.n = (code v : Int)) (e3 : q.pl = (v.length : Int)) (h3 : (q.f, lamO pm c' ctv a1 a2 a3) ∈ news)
    (h4 : (a1, o1) ∈ news ∧ o1.data = .cell (some (.ref ND))) (h5 : (a2, o2) ∈ news ∧ o2.data = .cell (some (.str (wordStr v) t))) (h6 : (a3, o3) ∈ news ∧ o3.data = .cell (some (.ref LA)))
theorem NetAt.of {P : Params} {ND LA c' x : Addr} {v : List Bool} {news : List (Addr × Obj)} {d f : Addr} {u1 u2 u3 u4 k1 k2 k3 k4 k5 : Tok} {pm ctv : Value} {a1 a2 a3 : Addr} {o1 o2 o3 : Obj} {t : Tok}
    (h1 : (x, instObj 556 d) ∈ news) (h2 : (d, netD P ⟨wordStr v, ((code v : Nat) : Int), ((wordStr v).length : Int), f, 0, u1, u2, u3, u4, 0, k1, k2, k3, k4, k5⟩) ∈ news) (h3 : (f, lamO pm c' ctv a1 a2 a3) ∈ news) (h4 : (a1, o1) ∈ news) (h5 : (a2, o2) ∈ news) (h6 : (a3, o3) ∈ news)
    (g4 : o1.data = .cell (some (.ref ND))) (g5 : o2.data = .cell (some (.str (wordStr v) t))) (g6 : o3.data = .cell (some (.ref LA))) : NetAt P ND LA c' v x news :=
  ⟨d, _, pm, ctv, a1, a2, a3, o1, o2, o3, t, h1, h2, rfl, by rw [wordStr_len], h3, ⟨h4, g4⟩, ⟨h5, g5⟩, h6, g6⟩
theorem allLt_get {d : Nat} {l : List (Addr × Obj)} (h : AllLt d l) (p : Addr × Obj) (hp : p ∈ l) : @LT.lt Nat _ p.1 d := by
  induction l with
  | nil => nomatch hp
  | cons a r ih =>
    have h1 : @LT.lt Nat _ a.1 d := h.1
    have h2 : AllLt d r := h.2
    cases hp with
    | head => exact h1
    | tail _ hp => exact ih h2 hp
set_option maxRecDepth 100000 in
set_option maxHeartbeats 2000000 in
theorem net_new (w : World) {mean : ExcName → Option Value} {mg mb : Str → Option Value} {v : List Bool} {kvs : List (Str × Value)} {oN : Obj} {ND LA : Addr} {t : Tok} {dp un : Nat} {gd : Option (List Code)} {env : Env} {outer : List Env} {A₀ : Around} {base h₀ : Heap} {L : Addr} {m : Str → Option Value}
    {rest : List (Addr × Obj)} {s : Shared} {Q E : Value → Shared → Prop} {loose : List Str} {pgm : Program}
    (B : Below A₀ base outer h₀) (F : Fr h₀ L s.heap m) (X : (hd.heap_1 w.params).In h₀) (N : News h₀ L s.heap ((ND, oN) :: (580, tabObj #[]) :: rest)) (hN : oN.IsDictOf (PySem.strKind P7 w) kvs) (hlo : (ND == sysModules) = false) (hk1 : valueAt kvs (wordStr v) = none) (hv : v.length ≤ 12) (hkl : kvs.length ≤ 1000)
    (T : Top pgm loose mean mg mb h₀) (hfX : env.frame = some L) (hk : env.scope.kind = .function) (C : CodeHd h₀ 584 580) (hoff : ∀ p ∈ rest, p.1 ≠ 580 ∧ p.1 ≠ ND) (hlt : @LT.lt Nat _ 580 ND)
    (hdp : dp + 10 < recursionLimit) (hu : un + 400 < cLine)
    (rS : ∀ h' tk' x c' oN' G, Fr h₀ L h' m → News h₀ L h' (G ++ (ND, oN') :: (580, tab1 c') :: rest) → oN'.IsDictOf (PySem.strKind P7 w) (stored kvs (wordStr v) (.ref x)) → NetAt w.params ND LA c' v x G → LamCode c' G → (∀ p ∈ G, @LT.lt Nat _ ND p.1 ∧ ∀ q ∈ rest, @LT.lt Nat _ q.1 p.1) → Q (.ref x) { s with heap := h', toks := tk' }) :
    wpAny (model P7 w) (atN dp un gd env outer) (call (.ref 585) [.ref ND, .str (wordStr v) t, .ref LA]) Q E s := by
  have hq : PySem.Challenge.rw_km0038_07 = PySem.Challenge.rw_km0038_07 ∧ hd.heap_1 = hd.heap_1 := ⟨rfl, rfl⟩
  revert hq
  k_fill
  intro hq
  w_on
  refine wpAny_call ?_
  k_dflt (refine' code_defC ?k1 ?k2 ?k3 ?k4 ?k5 ?kA ?kF ?kK ?k6 ?k7 ?k8 ?k9 ?kB ?kD ?_ ?c2 ?c3 ?c4; (case kA => exact rfl); (case kF => exact hfX); (case kK => exact hk); (case k1 => k_asm); (case k2 => k_asm); (case k3 => k_asm); (case k4 => k_asm); (case k5 => k_asm); (case k6 => k_is); (case k7 => k_is); (case k8 => k_room); (case k9 => first | exact BindsTo.of_eq rfl | exact binds_K (by k_in) rfl (by k_is) rfl rfl rfl); (case kB => exact rfl); (case kD => decide +kernel); (case c2 => exact rfl); (case c3 => exact rfl); (case c4 => exact rfl); k_whole; intro g' L' h' tk' cells' FG' F' N' Y' B' X' T' l1; (try k_lt l1); k_cells Y'; (try simp only [List.cons_append, List.nil_append] at N'); (try dsimp only); (try k_lift B'); (try k_fold))
  have lz := l1
  w_strict k_steps
  unfold Stop
  refine kdg_notin (knd := PySem.strKind _ _) N' (by k_mem) hN hlo (strKind_is _ _ _ _) false (by rw [hk1]; rfl) ?_
  dsimp only [Bool.not_false]
  w_strict k_steps
  rename (_ ∧ _ ∧ _ ∧ _ ∧ _ ∧ PySem.W.AllLt _ _) => l5
  rename (@LT.lt Nat _ _ _) => l6
  have e1 := Nat.ne_of_lt l5.1
  have e2 := Nat.ne_of_lt l5.2.1
  have e3 := Nat.ne_of_lt l5.2.2.1
  have e4 := Nat.ne_of_lt l5.2.2.2.1
  have e5 := Nat.ne_of_lt l5.2.2.2.2.1
  have e6 := Nat.ne_of_lt l6
  have x4 := Nat.lt_trans l5.2.2.2.1 l6
  have e7 := Nat.ne_of_lt x4
  have e8 := Nat.ne_of_lt (Nat.lt_trans l5.2.2.2.2.1 l6)
  have e9 := Nat.ne_of_lt hlt
  have p1 := Nat.ne_of_lt (Nat.lt_succ_of_lt lz.1)
  have p2 := Nat.ne_of_lt (Nat.lt_succ_of_lt (Nat.lt_succ_of_lt lz.1))
  have p3 := Nat.ne_of_lt (Nat.lt_succ_of_lt (Nat.lt_succ_of_lt (Nat.lt_succ_of_lt lz.1)))
  have p4 := Nat.ne_of_lt (Nat.lt_succ_of_lt lz.2.1)
  have p5 := Nat.ne_of_lt (Nat.lt_succ_of_lt (Nat.lt_succ_of_lt lz.2.1))
  have p6 := Nat.ne_of_lt (Nat.lt_succ_of_lt (Nat.lt_succ_of_lt (Nat.lt_succ_of_lt lz.2.1)))
  have y1 := Nat.lt_of_succ_lt (Nat.lt_of_succ_lt (Nat.lt_of_succ_lt l5.1))
  have y2 := Nat.lt_trans y1 l6
  refine add_small (by rw [show (Str.ofString "1").length = 1 by decide +kernel]; decide) (by rw [wordStr_len]; exact Mine.r58 hv) fun t1 tk1 => ?_
  w_strict k_steps
  unfold Stop
  refine call_word (by exact Mine.r59 hv) ?_
  w_strict k_steps
  refine PyProof.Rows.len_str (by rw [wordStr_len]; lia) ?_
  w_strict k_steps
  unfold Stop
  refine kla_eval rfl ?_
  k_dflt (refine' kla_nest (ps := #[]) ?F ?N ?T ?C ?cd ?U ?t ?n ?cl ?_; (case F => k_asm); (case N => k_asm); (case T => k_asm); (case cd => exact rfl); (case C => exact CodeHd.keeps C (Fr.keep FG')); k_whole)
  case t => kn_triples
  case n => kn_among
  case cl => exact rfl
  case U =>
    refine UpdF.tail (by k_ne) (UpdF.tail (by k_ne) (UpdF.tail (by k_ne) (UpdF.tail (by k_ne) (UpdF.tail (by k_ne) (UpdF.tail (by k_ne) (UpdF.head fun p hp => (hoff p hp).1))))))
  intro f' c' oc' vs' t' ct' h' tk' F' N' d1' d2' l1 l2; (try dsimp only at N'); (try k_lt l1); (try k_lt2 l2)
  have g1 := Nat.ne_of_lt l1.2.2.2.2.2.1
  have g2 := Nat.ne_of_lt (Nat.lt_trans l1.2.2.2.2.2.1 l2)
  have g3 := Nat.ne_of_lt l1.2.1
  have g4 := Nat.ne_of_lt (Nat.lt_trans l1.2.1 l2)
  have y3 := Nat.lt_trans y1 l1.2.1
  have y4 := Nat.lt_trans y3 l2
  w_strict k_steps
  unfold Stop
  rename Fr g' L' _ _ => F3
  rename News g' L' _ _ => N3
  refine kda_set (knd := PySem.strKind _ _) F3 N3 (UpdF.tail (by k_ne) (UpdF.tail (by k_ne) (UpdF.tail (by k_ne) (UpdF.tail (by k_ne) (UpdF.tail (by k_ne) (UpdF.tail (by k_ne) (UpdF.tail (by k_ne) (UpdF.head ?hU)))))))) hN (strKind_is _ _ _ _) (by rw [sizeLine_eq]; exact Mine.r0 hkl) ?_
  case hU =>
    intro p hp
    rcases List.mem_cons.mp hp with rfl | hp
    · exact Nat.ne_of_lt hlt
    · exact (hoff p hp).2
  intro h4 oN4 F4 N4 hN4
  (try dsimp only at N4)
  clear F3 N3
  w_strict k_steps
  unfold Stop
  refine kda_item (knd := PySem.strKind _ _) N4 (by k_mem) hN4 (strKind_is _ _ _ _) (by rw [stored_new hk1, valueAt_snoc hk1, if_pos rfl]) ?_
  w_strict k_steps
  rename News h₀ L _ _ => N9
  rename Fr h₀ L _ _ => F9
  refine rS _ _ _ _ _ [_, _, _, _, _, _, _] F9 N9 hN4 ?_ ?_ ?_
  · refine' NetAt.of ?h1 ?h2 ?h3 ?h4 ?h5 ?h6 ?g4 ?g5 ?g6
    case h1 => k_mem
    case h2 => k_mem
    case h3 => k_mem
    case h4 => k_mem
    case h5 => k_mem
    case h6 => k_mem
    case g4 => assumption
    case g5 => assumption
    case g6 => assumption
  · exact ⟨oc', vs', t', by k_mem, by assumption, by assumption⟩
  · have kq := allLt_get lz.2.2
    simp only [List.forall_mem_cons]
    refine ⟨⟨by exact Mine.r13 l1.2.2.2.2.2.1 l2, fun q hq => ?_⟩, ⟨by exact Mine.r47 l1.2.2.2.2.2.1, fun q hq => ?_⟩, ⟨by first | exact x4 | exact l5.2.2.2.1, fun q hq => ?_⟩, ⟨by first | exact x4 | exact l5.2.2.2.1, fun q hq => ?_⟩, ⟨by exact Mine.r93 lz.1, fun q hq => ?_⟩, ⟨by exact Mine.r82 lz.1, fun q hq => ?_⟩, ⟨by exact Mine.r12 lz.1, fun q hq => ?_⟩, fun _ h => (nomatch h)⟩
    all_goals (have := kq q hq; first | exact Nat.lt_trans this (by assumption) | exact Nat.lt_succ_of_lt this | exact Nat.lt_succ_of_lt (Nat.lt_succ_of_lt this) | exact Nat.lt_succ_of_lt (Nat.lt_succ_of_lt (Nat.lt_succ_of_lt this)))
set_option maxRecDepth 100000 in
set_option maxHeartbeats 2000000 in
theorem net_hit (w : World) {mean : ExcName → Option Value} {mg mb : Str → Option Value} {v : List Bool} {kvs : List (Str × Value)} {oN : Obj} {ND LA c' : Addr} {t : Tok} {dp un : Nat} {gd : Option (List Code)} {env : Env} {outer : List Env} {A₀ : Around} {base h₀ : Heap} {L : Addr} {m : Str → Option Value}
    {rest : List (Addr × Obj)} {s : Shared} {Q E : Value → Shared → Prop} {loose : List Str} {pgm : Program}
    (B : Below A₀ base outer h₀) (F : Fr h₀ L s.heap m) (X : (hd.heap_1 w.params).In h₀) (N : News h₀ L s.heap ((ND, oN) :: (580, tab1 c') :: rest)) (hN : oN.IsDictOf (PySem.strKind P7 w) kvs) (hlo : (ND == sysModules) = false) (hk1 : valueAt kvs (wordStr v) = none) (hv : v.length ≤ 12) (hkl : kvs.length ≤ 1000)
    (T : Top pgm loose mean mg mb h₀) (hfX : env.frame = some L) (hk : env.scope.kind = .function) (C : CodeHd h₀ 584 580) (hoff : ∀ p ∈ rest, p.1 ≠ 580 ∧ p.1 ≠ ND) (hlt : @LT.lt Nat _ 580 ND)
    (hdp : dp + 10 < recursionLimit) (hu : un + 400 < cLine)
    (rS : ∀ h' tk' x oN' G, Fr h₀ L h' m → News h₀ L h' (G ++ (ND, oN') :: (580, tab1 c') :: rest) → oN'.IsDictOf (PySem.strKind P7 w) (stored kvs (wordStr v) (.ref x)) → NetAt w.params ND LA c' v x G → (∀ p ∈ G, @LT.lt Nat _ ND p.1 ∧ ∀ q ∈ rest, @LT.lt Nat _ q.1 p.1) → Q (.ref x) { s with heap := h', toks := tk' }) :
    wpAny (model P7 w) (atN dp un gd env outer) (call (.ref 585) [.ref ND, .str (wordStr v) t, .ref LA]) Q E s := by
  have hq : PySem.Challenge.rw_km0038_07 = PySem.Challenge.rw_km0038_07 ∧ hd.heap_1 = hd.heap_1 := ⟨rfl, rfl⟩
  revert hq
  k_fill
  intro hq
  w_on
  refine wpAny_call ?_
  k_dflt (refine' code_defC ?k1 ?k2 ?k3 ?k4 ?k5 ?kA ?kF ?kK ?k6 ?k7 ?k8 ?k9 ?kB ?kD ?_ ?c2 ?c3 ?c4; (case kA => exact rfl); (case kF => exact hfX); (case kK => exact hk); (case k1 => k_asm); (case k2 => k_asm); (case k3 => k_asm); (case k4 => k_asm); (case k5 => k_asm); (case k6 => k_is); (case k7 => k_is); (case k8 => k_room); (case k9 => first | exact BindsTo.of_eq rfl | exact binds_K (by k_in) rfl (by k_is) rfl rfl rfl); (case kB => exact rfl); (case kD => decide +kernel); (case c2 => exact rfl); (case c3 => exact rfl); (case c4 => exact rfl); k_whole; intro g' L' h' tk' cells' FG' F' N' Y' B' X' T' l1; (try k_lt l1); k_cells Y'; (try simp only [List.cons_append, List.nil_append] at N'); (try dsimp only); (try k_lift B'); (try k_fold))
  have lz := l1
  w_strict k_steps
  unfold Stop
  refine kdg_notin (knd := PySem.strKind _ _) N' (by k_mem) hN hlo (strKind_is _ _ _ _) false (by rw [hk1]; rfl) ?_
  dsimp only [Bool.not_false]
  w_strict k_steps
  rename (_ ∧ _ ∧ _ ∧ _ ∧ _ ∧ PySem.W.AllLt _ _) => l5
  rename (@LT.lt Nat _ _ _) => l6
  have e1 := Nat.ne_of_lt l5.1
  have e2 := Nat.ne_of_lt l5.2.1
  have e3 := Nat.ne_of_lt l5.2.2.1
  have e4 := Nat.ne_of_lt l5.2.2.2.1
  have e5 := Nat.ne_of_lt l5.2.2.2.2.1
  have e6 := Nat.ne_of_lt l6
  have x4 := Nat.lt_trans l5.2.2.2.1 l6
  have e7 := Nat.ne_of_lt x4
  have e8 := Nat.ne_of_lt (Nat.lt_trans l5.2.2.2.2.1 l6)
  have e9 := Nat.ne_of_lt hlt
  have p1 := Nat.ne_of_lt (Nat.lt_succ_of_lt lz.1)
  have p2 := Nat.ne_of_lt (Nat.lt_succ_of_lt (Nat.lt_succ_of_lt lz.1))
  have p3 := Nat.ne_of_lt (Nat.lt_succ_of_lt (Nat.lt_succ_of_lt (Nat.lt_succ_of_lt lz.1)))
  have p4 := Nat.ne_of_lt (Nat.lt_succ_of_lt lz.2.1)
  have p5 := Nat.ne_of_lt (Nat.lt_succ_of_lt (Nat.lt_succ_of_lt lz.2.1))
  have p6 := Nat.ne_of_lt (Nat.lt_succ_of_lt (Nat.lt_succ_of_lt (Nat.lt_succ_of_lt lz.2.1)))
  have y1 := Nat.lt_of_succ_lt (Nat.lt_of_succ_lt (Nat.lt_of_succ_lt l5.1))
  have y2 := Nat.lt_trans y1 l6
  refine add_small (by rw [show (Str.ofString "1").length = 1 by decide +kernel]; decide) (by rw [wordStr_len]; exact Mine.r58 hv) fun t1 tk1 => ?_
  w_strict k_steps
  unfold Stop
  refine call_word (by exact Mine.r59 hv) ?_
  w_strict k_steps
  refine PyProof.Rows.len_str (by rw [wordStr_len]; lia) ?_
  w_strict k_steps
  unfold Stop
  refine kla_eval rfl ?_
  k_dflt (refine' kla_hit ?F ?N ?T ?C ?cd ?mem ?t ?n ?cl ?_; (case F => k_asm); (case N => k_asm); (case T => k_asm); (case cd => exact rfl); (case C => exact CodeHd.keeps C (Fr.keep FG')); (case mem => k_mem); k_whole)
  case t => kn_triples
  case n => kn_hit
  case cl => exact rfl
  intro f' ct' h' tk' F' N' l1; (try dsimp only at N'); (try k_lt l1)
  have g1 := Nat.ne_of_lt l1.2.2.2.2.2.1
  have g3 := Nat.ne_of_lt l1.2.1
  have y3 := Nat.lt_trans y1 l1.2.1
  w_strict k_steps
  unfold Stop
  rename Fr g' L' _ _ => F3
  rename News g' L' _ _ => N3
  refine kda_set (knd := PySem.strKind _ _) F3 N3 (UpdF.tail (by k_ne) (UpdF.tail (by k_ne) (UpdF.tail (by k_ne) (UpdF.tail (by k_ne) (UpdF.tail (by k_ne) (UpdF.tail (by k_ne) (UpdF.head ?hU))))))) hN (strKind_is _ _ _ _) (by rw [sizeLine_eq]; exact Mine.r0 hkl) ?_
  case hU =>
    intro p hp
    rcases List.mem_cons.mp hp with rfl | hp
    · exact Nat.ne_of_lt hlt
    · exact (hoff p hp).2
  intro h4 oN4 F4 N4 hN4
  (try dsimp only at N4)
  clear F3 N3
  w_strict k_steps
  unfold Stop
  refine kda_item (knd := PySem.strKind _ _) N4 (by k_mem) hN4 (strKind_is _ _ _ _) (by rw [stored_new hk1, valueAt_snoc hk1, if_pos rfl]) ?_
  w_strict k_steps
  rename News h₀ L _ _ => N9
  rename Fr h₀ L _ _ => F9
  refine rS _ _ _ _ [_, _, _, _, _, _] F9 N9 hN4 ?_ ?_
  · refine' NetAt.of ?h1 ?h2 ?h3 ?h4 ?h5 ?h6 ?g4 ?g5 ?g6
    case h1 => k_mem
    case h2 => k_mem
    case h3 => k_mem
    case h4 => k_mem
    case h5 => k_mem
    case h6 => k_mem
    case g4 => assumption
    case g5 => assumption
    case g6 => assumption
  · have kq := allLt_get lz.2.2
    simp only [List.forall_mem_cons]
    refine ⟨⟨by exact Mine.r47 l1.2.2.2.2.2.1, fun q hq => ?_⟩, ⟨by first | exact x4 | exact l5.2.2.2.1, fun q hq => ?_⟩, ⟨by first | exact x4 | exact l5.2.2.2.1, fun q hq => ?_⟩, ⟨by exact Mine.r93 lz.1, fun q hq => ?_⟩, ⟨by exact Mine.r82 lz.1, fun q hq => ?_⟩, ⟨by exact Mine.r12 lz.1, fun q hq => ?_⟩, fun _ h => (nomatch h)⟩
    all_goals (have := kq q hq; first | exact Nat.lt_trans this (by assumption) | exact Nat.lt_succ_of_lt this | exact Nat.lt_succ_of_lt (Nat.lt_succ_of_lt this) | exact Nat.lt_succ_of_lt (Nat.lt_succ_of_lt (Nat.lt_succ_of_lt this)))
end Mine
end
section
open PySem PySem.W PyProof.Rows
set_option maxRecDepth 100000
namespace Mine
structure WS where
  ks : List (List Bool × Addr)
  oN : Obj
  c0 : Addr
  tab : Obj
  G : List (Addr × Obj)
  av : List Value
  za : Nat
noncomputable abbrev kvsOf (ks : List (List Bool × Addr)) : List (Str × Value) := ks.map fun p => (wordStr p.1, Value.ref p.2)
structure WOk (w : World) (ND LA : Addr) (σ : WS) : Prop where
  dict : σ.oN.IsDictOf (PySem.strKind P7 w) (kvsOf σ.ks)
  tabs : (σ.ks = [] ∧ σ.tab = tabObj #[]) ∨ (σ.tab = tab1 σ.c0 ∧ LamCode σ.c0 σ.G)
  net : ∀ p ∈ σ.ks, p.1.length ≤ 12 ∧ NetAt w.params ND LA σ.c0 p.1 p.2 σ.G
  words : (σ.ks.map (·.1)).Nodup
  adds : (σ.ks.map (·.2)).Nodup
  gt : ∀ p ∈ σ.G, @LT.lt Nat _ ND p.1
  gtA : ∀ p ∈ σ.G, @LT.lt Nat _ LA p.1
  low : @LT.lt Nat _ ND LA
structure Ext (σ τ : WS) : Prop where
  ks : ∃ more, τ.ks = σ.ks ++ more
  G : ∀ p ∈ σ.G, p ∈ τ.G
theorem Ext.refl (σ : WS) : Ext σ σ := ⟨⟨[], by simp⟩, fun _ h => h⟩
theorem Ext.trans {a b c : WS} (x : Ext a b) (y : Ext b c) : Ext a c := by
  obtain ⟨m1, e1⟩ := x.ks
  obtain ⟨m2, e2⟩ := y.ks
  exact ⟨⟨m1 ++ m2, by rw [e2, e1, List.append_assoc]⟩, fun p h => y.G p (x.G p h)⟩
theorem lookup_app {v : List Bool} {x : Addr} : ∀ {a b : List (List Bool × Addr)}, a.lookup v = some x → (a ++ b).lookup v = some x
  | [], _, h => by simp at h
  | p :: r, b, h => by
    rw [List.cons_append, List.lookup_cons] at *
    cases q : v == p.1 with
    | true => rw [q] at h; exact h
    | false => rw [q] at h; exact lookup_app h
theorem Ext.look {a b : WS} (x : Ext a b) {v : List Bool} {k : Addr} (h : a.ks.lookup v = some k) : b.ks.lookup v = some k := by
  obtain ⟨m, e⟩ := x.ks
  rw [e]; exact lookup_app h
theorem kvs_look {ks : List (List Bool × Addr)} {v : List Bool} : valueAt (kvsOf ks) (wordStr v) = (ks.lookup v).map Value.ref := by
  induction ks with
  | nil => rfl
  | cons p r ih =>
    unfold valueAt at ih ⊢
    show ((((wordStr p.1, Value.ref p.2) :: kvsOf r).find? _).map _) = _
    rw [List.find?_cons, List.lookup_cons]
    by_cases e : p.1 = v
    · subst e; simp
    · have h1 : decide (wordStr p.1 = wordStr v) = false := decide_eq_false fun z => e (wordStr_inj z)
      have h2 : (v == p.1) = false := by rw [beq_eq_false_iff_ne]; exact fun z => e z.symm
      rw [h1, h2]
      exact ih
theorem lookup_mem' {v : List Bool} {x : Addr} : ∀ {ks : List (List Bool × Addr)}, ks.lookup v = some x → (v, x) ∈ ks
  | [], h => by simp at h
  | p :: r, h => by
    rw [List.lookup_cons] at h
    cases q : v == p.1 with
    | true =>
      rw [q] at h
      cases h
      rw [beq_iff_eq.mp q]
      exact .head _
    | false => rw [q] at h; exact .tail _ (lookup_mem' h)
theorem lookup_none {v : List Bool} : ∀ {ks : List (List Bool × Addr)}, ks.lookup v = none → v ∉ ks.map (·.1)
  | [], _ => by simp
  | p :: r, h => by
    rw [List.lookup_cons] at h
    cases q : v == p.1 with
    | true => rw [q] at h; cases h
    | false =>
      rw [q] at h
      have := lookup_none h
      have h2 : v ≠ p.1 := by rw [← beq_eq_false_iff_ne]; exact q
      simp only [List.map_cons, List.mem_cons]
      exact fun z => z.elim h2 this
theorem NetAt.mono {P : Params} {ND LA c' x : Addr} {v : List Bool} {a b : List (Addr × Obj)} (h : NetAt P ND LA c' v x a) (i : ∀ p ∈ a, p ∈ b) : NetAt P ND LA c' v x b := by
  obtain ⟨d, q, pm, ctv, a1, a2, a3, o1, o2, o3, t, h1, h2, e2, e3, h3, ⟨h4, g4⟩, ⟨h5, g5⟩, h6, g6⟩ := h
  exact ⟨d, q, pm, ctv, a1, a2, a3, o1, o2, o3, t, i _ h1, i _ h2, e2, e3, i _ h3, ⟨i _ h4, g4⟩, ⟨i _ h5, g5⟩, i _ h6, g6⟩
theorem LamCode.mono {c' : Addr} {a b : List (Addr × Obj)} (h : LamCode c' a) (i : ∀ p ∈ a, p ∈ b) : LamCode c' b := by
  obtain ⟨oc, vs, t, h1, h2⟩ := h
  exact ⟨oc, vs, t, i _ h1, h2⟩
noncomputable abbrev lA (LA : Addr) (σ : WS) : Addr × Obj := (LA, W.listOf σ.av.toArray σ.za)
noncomputable abbrev wled (ND LA : Addr) (σ : WS) (rest : List (Addr × Obj)) : List (Addr × Obj) := (ND, σ.oN) :: (580, σ.tab) :: (σ.G ++ lA LA σ :: rest)
theorem WOk.add {w : World} {ND LA x c' : Addr} {σ : WS} {v : List Bool} {oN' : Obj} {G' : List (Addr × Obj)} (O : WOk w ND LA σ) (hn : σ.ks.lookup v = none) (hv : v.length ≤ 12) (hd : oN'.IsDictOf (PySem.strKind P7 w) (kvsOf (σ.ks ++ [(v, x)])))
    (hc : (c' = σ.c0 ∧ LamCode σ.c0 σ.G) ∨ (σ.ks = [] ∧ LamCode c' G')) (hx : NetAt w.params ND LA c' v x G') (hG : ∀ p ∈ G', @LT.lt Nat _ ND p.1 ∧ @LT.lt Nat _ LA p.1 ∧ ∀ q ∈ σ.G, @LT.lt Nat _ q.1 p.1) :
    WOk w ND LA ⟨σ.ks ++ [(v, x)], oN', c', tab1 c', G' ++ σ.G, σ.av, σ.za⟩ := by
  have inl : ∀ p ∈ G', p ∈ G' ++ σ.G := fun p hp => List.mem_append_left _ hp
  have inr : ∀ p ∈ σ.G, p ∈ G' ++ σ.G := fun p hp => List.mem_append_right _ hp
  refine ⟨hd, .inr ⟨rfl, ?_⟩, fun p hp => ?_, ?_, ?_, fun p hp => ?_, fun p hp => ?_, O.low⟩
  · rcases hc with ⟨rfl, h⟩ | ⟨-, h⟩
    · exact h.mono inr
    · exact h.mono inl
  · have hp0 : p ∈ σ.ks ++ [(v, x)] := hp
    rcases List.mem_append.mp hp0 with hq | hq
    · rcases hc with ⟨rfl, h⟩ | ⟨e, -⟩
      · exact ⟨(O.net p hq).1, (O.net p hq).2.mono inr⟩
      · rw [e] at hq; cases hq
    · rw [List.mem_singleton.mp hq]; exact ⟨hv, hx.mono inl⟩
  · rw [List.map_append]
    refine List.nodup_append.mpr ⟨O.words, by simp, fun a ha b hb => ?_⟩
    rw [List.mem_singleton.mp hb]
    intro e
    have e' : a = v := e
    rw [e'] at ha
    exact lookup_none hn ha
  · rw [List.map_append]
    refine List.nodup_append.mpr ⟨O.adds, by simp, fun a ha b hb => ?_⟩
    rw [List.mem_singleton.mp hb]
    obtain ⟨p, hp, rfl⟩ := List.mem_map.mp ha
    obtain ⟨-, d, q, pm, ctv, a1, a2, a3, o1, o2, o3, t, i1, -⟩ := O.net p hp
    obtain ⟨d', q', pm', ctv', a1', a2', a3', o1', o2', o3', t', j1, -⟩ := hx
    exact Nat.ne_of_lt ((hG _ j1).2.2 _ i1)
  · rcases List.mem_append.mp hp with hp | hp
    · exact (hG p hp).1
    · exact O.gt p hp
  · rcases List.mem_append.mp hp with hp | hp
    · exact (hG p hp).2.1
    · exact O.gtA p hp
theorem kvs_snoc {ks : List (List Bool × Addr)} {v : List Bool} {x : Addr} (h : ks.lookup v = none) : stored (kvsOf ks) (wordStr v) (.ref x) = kvsOf (ks ++ [(v, x)]) := by
  rw [stored_new (by rw [kvs_look, h]; rfl), kvsOf, kvsOf, List.map_append]; rfl
theorem look_snoc {ks : List (List Bool × Addr)} {v : List Bool} {x : Addr} (h : ks.lookup v = none) : (ks ++ [(v, x)]).lookup v = some x := by
  induction ks with
  | nil => simp
  | cons p r ih =>
    rw [List.cons_append, List.lookup_cons]
    rw [List.lookup_cons] at h
    cases q : v == p.1 with
    | true => rw [q] at h; cases h
    | false => rw [q] at h; exact ih h
theorem led_w {a b : Addr × Obj} {G' G r : List (Addr × Obj)} : ∀ q ∈ (a :: b :: ((G' ++ G) ++ r)), q ∈ (G' ++ a :: b :: (G ++ r)) := by
  intro q hq; simp only [List.mem_cons, List.mem_append] at hq ⊢; grind
theorem net07 (w : World) {mean : ExcName → Option Value} {mg mb : Str → Option Value} {v : List Bool} {ND LA : Addr} {σ : WS} {t : Tok} {dp un : Nat} {gd : Option (List Code)} {env : Env} {outer : List Env} {A₀ : Around} {base h₀ : Heap} {L : Addr} {m : Str → Option Value}
    {rest : List (Addr × Obj)} {s : Shared} {Q E : Value → Shared → Prop} {loose : List Str} {pgm : Program}
    (B : Below A₀ base outer h₀) (F : Fr h₀ L s.heap m) (X : (hd.heap_1 w.params).In h₀) (N : News h₀ L s.heap (wled ND LA σ rest)) (O : WOk w ND LA σ) (hlo : (ND == sysModules) = false) (hv : v.length ≤ 12) (hkl : σ.ks.length ≤ 1000)
    (T : Top pgm loose mean mg mb h₀) (hfX : env.frame = some L) (hk : env.scope.kind = .function) (C : CodeHd h₀ 584 580) (hoff : ∀ p ∈ rest, p.1 ≠ 580 ∧ p.1 ≠ ND) (hlt : @LT.lt Nat _ 580 ND)
    (hdp : dp + 10 < recursionLimit) (hu : un + 400 < cLine)
    (rS : ∀ h' tk' τ x, Fr h₀ L h' m → News h₀ L h' (wled ND LA τ rest) → WOk w ND LA τ → Ext σ τ → τ.av = σ.av → τ.za = σ.za → τ.ks.lookup v = some x → τ.ks.length ≤ σ.ks.length + 1 → (∀ p ∈ τ.G, p ∈ σ.G ∨ ∀ q ∈ lA LA σ :: rest, @LT.lt Nat _ q.1 p.1) → Q (.ref x) { s with heap := h', toks := tk' }) :
    wpAny (model P7 w) (atN dp un gd env outer) (call (.ref 585) [.ref ND, .str (wordStr v) t, .ref LA]) Q E s := by
  obtain ⟨ks, oN, c0, tab, G, av, za⟩ := σ
  dsimp only at *
  have low : @LT.lt Nat _ ND LA := O.low
  have hoff1 : ∀ p ∈ (LA, W.listOf av.toArray za) :: rest, p.1 ≠ 580 ∧ p.1 ≠ ND := fun p hp => by
    rcases List.mem_cons.mp hp with rfl | hp
    · exact ⟨Nat.ne_of_gt (Nat.lt_trans hlt low), Nat.ne_of_gt low⟩
    · exact hoff p hp
  have hoff2 : ∀ p ∈ G ++ (LA, W.listOf av.toArray za) :: rest, p.1 ≠ 580 ∧ p.1 ≠ ND := fun p hp => by
    rcases List.mem_append.mp hp with hp | hp
    · have := O.gt p hp
      exact ⟨Nat.ne_of_gt (Nat.lt_trans hlt this), Nat.ne_of_gt this⟩
    · exact hoff1 p hp
  cases hl : ks.lookup v with
  | some x =>
    exact net_known w B F X N O.dict hlo (by rw [kvs_look, hl]; rfl) T hfX hk hdp hu fun h' tk' F' N' => rS h' tk' ⟨ks, oN, c0, tab, G, av, za⟩ x F' N' O (Ext.refl _) rfl rfl hl (Nat.le_succ _) fun p hp => .inl hp
  | none =>
    have fin : ∀ (h' : Heap) (tk' : Nat) (x c' : Addr) (oN' : Obj) (G' : List (Addr × Obj)), Fr h₀ L h' m → News h₀ L h' (G' ++ (ND, oN') :: (580, tab1 c') :: (G ++ (LA, W.listOf av.toArray za) :: rest)) → oN'.IsDictOf (PySem.strKind P7 w) (stored (kvsOf ks) (wordStr v) (.ref x)) → NetAt w.params ND LA c' v x G' →
        ((c' = c0 ∧ LamCode c0 G) ∨ (ks = [] ∧ LamCode c' G')) → (∀ p ∈ G', @LT.lt Nat _ ND p.1 ∧ ∀ q ∈ G ++ (LA, W.listOf av.toArray za) :: rest, @LT.lt Nat _ q.1 p.1) → Q (.ref x) { s with heap := h', toks := tk' } := by
      intro h' tk' x c' oN' G' F' N' hd' hx hc hG
      rw [kvs_snoc hl] at hd'
      refine rS h' tk' ⟨ks ++ [(v, x)], oN', c', tab1 c', G' ++ G, av, za⟩ x F' (N'.perm led_w) (WOk.add O hl hv hd' hc hx fun p hp => ⟨(hG p hp).1, (hG p hp).2 (LA, _) (List.mem_append_right _ (.head _)), fun q hq => (hG p hp).2 q (List.mem_append_left _ hq)⟩) ⟨⟨_, rfl⟩, fun p hp => List.mem_append_right _ hp⟩ rfl rfl (look_snoc hl) (by simp) fun p hp => ?_
      rcases List.mem_append.mp hp with hp | hp
      · exact .inr fun q hq => (hG p hp).2 q (List.mem_append_right _ hq)
      · exact .inl hp
    have hk1 : valueAt (kvsOf ks) (wordStr v) = none := by rw [kvs_look, hl]; rfl
    rcases O.tabs with ⟨e1, e2⟩ | ⟨e1, e2⟩
    · dsimp only at e1 e2
      subst e2
      exact net_new w B F X N O.dict hlo hk1 hv (by simpa using hkl) T hfX hk C hoff2 hlt hdp hu fun h' tk' x c' oN' G' F' N' hd' hx hcd hG => fin h' tk' x c' oN' G' F' N' hd' hx (.inr ⟨e1, hcd⟩) hG
    · dsimp only at e1 e2
      subst e1
      exact net_hit w B F X N O.dict hlo hk1 hv (by simpa using hkl) T hfX hk C hoff2 hlt hdp hu fun h' tk' x oN' G' F' N' hd' hx hG => fin h' tk' x c0 oN' G' F' N' hd' hx (.inl ⟨rfl, e2⟩) hG
end Mine
end
section
open PySem PySem.W PyProof.Rows
local macro_rules | `(tactic| walk_at "leaving ref") => `(tactic| kwk_ne)
local macro_rules | `(tactic| walk_at "convS ref") => `(tactic| (k_here; (with_reducible show wpAny _ _ (PySem.convS (Value.ref _)) _ _ _); (show wpAny _ _ (PySem.pyStrObj (Value.ref _)) _ _ _); k_dflt (refine' PySem.W.kfo_str ?u ?X ?I ?s ?f ?_; (case u => ktr_units); (case X => k_in); (case I => k_inst); (case s => k_is); (case f => k_is); k_whole)))
local macro_rules | `(tactic| walk_at "call ref") => `(tactic| ((with_reducible show wpAny _ _ (call (Value.ref 312) _) _ _ _); kwk_ne))
namespace Mine
theorem fin_msg {prog : Program} {w : World} {A : Around} {E : Value → Shared → Prop} {s : Shared} {x : Str} {n : Nat} {Q : Value → Shared → Prop} (hx : x.length ≤ n) (h : ∀ msg t k, msg.length ≤ n → Q (.str msg t) { s with toks := k }) (hn : n ≤ 10000 := by decide) :
    wpAny (model prog w) A (joinParts x []) Q E s := by
  show wpAny _ _ (mkStr x) _ _ _
  exact wpAny_mkStr (h _ _ _ hx) (by rw [sizeLine_eq]; exact Mine.r291 hx hn)
set_option maxRecDepth 100000 in
set_option maxHeartbeats 8000000 in
theorem lt_spec (w : World) {mean : ExcName → Option Value} {mg mb : Str → Option Value} {q q' : Net} {x d y e : Addr} {dp un : Nat} {gd : Option (List Code)} {env : Env} {outer : List Env} {A₀ : Around} {base h₀ : Heap} {L : Addr} {m : Str → Option Value}
    {rest : List (Addr × Obj)} {s : Shared} {E : Value → Shared → Prop} {loose : List Str} {pgm : Program}
    (B : Below A₀ base outer h₀) (F : Fr h₀ L s.heap m) (X : (hd.heap_1 w.params).In h₀) (N : News h₀ L s.heap ((x, instObj 556 d) :: (d, netD w.params q) :: (y, instObj 556 e) :: (e, netD w.params q') :: rest))
    (T : Top pgm loose mean mg mb h₀) (hfX : env.frame = some L) (hk : env.scope.kind = .function) (h0 : 0 ≤ q.n) (h1 : q.n < 16384) (h2 : 0 ≤ q'.n) (h3 : q'.n < 16384) (b4 : 0 ≤ q.pl) (b5 : q.pl < 16384) (b6 : 0 ≤ q'.pl) (b7 : q'.pl < 16384) (hne : q.n ≠ q'.n)
    (hdp : dp + 40 < recursionLimit) (hu : un + 2000 < cLine)
    (rE : ∀ ex h' tk', RaisedAt base h₀ L m (env :: outer) ex (.type "TypeError") ((x, instObj 556 d) :: (d, netD w.params q) :: (y, instObj 556 e) :: (e, netD w.params q') :: rest) h' → E (.ref ex) { s with heap := h', toks := tk' }) :
    wpAny (model P7 w) (atN dp un gd env outer) (call (.ref 340) [.ref x, .ref y]) (fun _ _ => False) E s := by
  have hq : PySem.Challenge.rw_km0038_07 = PySem.Challenge.rw_km0038_07 ∧ hd.heap_1 = hd.heap_1 := ⟨rfl, rfl⟩
  revert hq
  k_fill
  intro hq
  w_on
  refine wpAny_call ?_
  k_dflt (refine' PySem.W.code_def ?k1 ?k2 ?k3 ?k4 ?k5 ?kA ?kF ?kK ?k6 ?k7 ?k8 ?k9 ?kB ?_ ?c2 ?c3 ?c4 ?c5; (case kA => exact rfl); (case kF => exact hfX); (case kK => exact hk); (case k1 => k_asm); (case k2 => k_asm); (case k3 => k_asm); (case k4 => k_asm); (case k5 => k_asm); (case k6 => k_is); (case k7 => k_is); (case k8 => k_room); (case k9 => first | exact BindsTo.of_eq rfl | exact binds_K (by k_in) rfl (by k_is) rfl rfl rfl); (case c5 => decide); (case kB => exact locs rfl); (case c2 => exact rfl); (case c3 => exact rfl); (case c4 => exact rfl); k_whole; intro g' L' h' FG' F' N' B' X' T'; (try dsimp only); (try k_lift B'); (try k_fold))
  w_strict k_steps
  unfold Stop
  rename Fr _ _ _ _ => F2
  rename News _ _ _ _ => N2
  rename Below _ _ _ _ => B2
  rename PySem.W.Frag.In _ _ => X2
  rename Top _ _ _ _ _ _ => T2
  refine str_spec w B2 F2 X2 N2 T2 (by rfl) (by rfl) h0 h1 b4 b5 ?dp ?un ?rS
  (case dp => k_room)
  (case un => k_units)
  intro h6 tk6 y6 t6 F6 N6 hl6
  clear F2 N2
  dsimp only [StrBack]
  w_strict k_steps
  unfold Stop
  have N7 : News _ _ h6 ((y, instObj 556 e) :: (e, netD w.params q') :: (x, instObj 556 d) :: (d, netD w.params q) :: rest) := fun p hp => N6 p (by simp only [List.mem_cons] at hp ⊢; grind)
  refine str_spec w B2 F6 X2 N7 T2 (by rfl) (by rfl) h2 h3 b6 b7 ?dp2 ?un2 ?rS2
  (case dp2 => k_room)
  (case un2 => k_units)
  intro h8 tk8 y8 t8 F8 N8 hl8
  have N9 : News _ _ h8 ((x, instObj 556 d) :: (d, netD w.params q) :: (y, instObj 556 e) :: (e, netD w.params q') :: rest) := fun p hp => N8 p (by simp only [List.mem_cons] at hp ⊢; grind)
  clear F6 N6 N7 N8
  dsimp only [StrBack]
  iterate 5 walk1
  refine fin_msg (n := 5000) ?_ ?_
  · rw [Str.length_append, Str.length_append, Str.length_append, Str.length_append]
    have a1 : Str.empty.length = 0 := by decide +kernel
    have a2 : (Str.ofString " and ").length = 5 := by decide +kernel
    have a3 : (Str.ofString " are not of the same version").length = 28 := by decide +kernel
    exact Mine.r516 a1 a3 a2 hl6 hl8
  intro msg tm km hmsg
  dsimp only
  w_strict k_steps
  unfold Stop
  rename PySem.Heap.NewExc _ _ _ _ => hx
  refine leave_newS (h := h8) B2 hx F8 N9 fun h9 R9 _ U9 => ?_
  refine rE _ _ _ ⟨_, FG', R9, U9, fun b hb => ?_⟩
  obtain ⟨_, o, ho, _⟩ := B2.frames.mem hb
  exact ⟨o, ho⟩
end Mine
end
section
open PySem PySem.W PyProof.Rows
local macro_rules | `(tactic| walk_at "eval Name") => `(tactic| (k_here; k_dflt (refine' nameX_F ?N ?c ?m ?d ?_ ?a ?b; (case a => rfl); (case b => rfl); (case N => k_asm); (case c => rfl); (case m => k_mem); (case d => k_asm); k_whole)))
local macro_rules | `(tactic| walk_at "call ref") => `(tactic| ((with_reducible show wpAny _ _ (call (Value.ref 585) _) _ _ _); kwk_ne))
local macro_rules | `(tactic| walk_at "call ref") => `(tactic| ((with_reducible show wpAny _ _ (call (Value.ref 592) _) _ _ _); kwk_ne))
local macro_rules | `(tactic| walk_at "call builtin:list.append") => `(tactic| kwk_ne)
namespace Mine
theorem WOk.av' {w : World} {ND LA : Addr} {σ : WS} {av : List Value} {za : Nat} (O : WOk w ND LA σ) : WOk w ND LA ⟨σ.ks, σ.oN, σ.c0, σ.tab, σ.G, av, za⟩ := ⟨O.dict, O.tabs, O.net, O.words, O.adds, O.gt, O.gtA, O.low⟩
theorem led_la {a b A : Addr × Obj} {G r : List (Addr × Obj)} : ∀ q ∈ A :: (a :: b :: (G ++ r)), q ∈ a :: b :: (G ++ A :: r) := by
  intro q hq; simp only [List.mem_cons, List.mem_append] at hq ⊢; grind
theorem led_la2 {a b A : Addr × Obj} {G r : List (Addr × Obj)} : ∀ q ∈ a :: b :: (G ++ A :: r), q ∈ A :: (a :: b :: (G ++ r)) := by
  intro q hq; simp only [List.mem_cons, List.mem_append] at hq ⊢; grind
set_option maxRecDepth 100000 in
set_option maxHeartbeats 2000000 in
theorem asked07 (w : World) {mean : ExcName → Option Value} {mg mb : Str → Option Value} {v : List Bool} {ND LA : Addr} {σ : WS} {t : Tok} {dp un : Nat} {gd : Option (List Code)} {env : Env} {outer : List Env} {A₀ : Around} {base h₀ : Heap} {L : Addr} {m : Str → Option Value}
    {rest : List (Addr × Obj)} {s : Shared} {Q E : Value → Shared → Prop} {loose : List Str} {pgm : Program}
    (B : Below A₀ base outer h₀) (F : Fr h₀ L s.heap m) (X : (hd.heap_1 w.params).In h₀) (N : News h₀ L s.heap (wled ND LA σ rest)) (O : WOk w ND LA σ) (hlo : (ND == sysModules) = false) (hv : v.length ≤ 12) (hkl : σ.ks.length ≤ 1000) (hal : σ.av.length ≤ 1000)
    (T : Top pgm loose mean mg mb h₀) (hfX : env.frame = some L) (hk : env.scope.kind = .function) (C : CodeHd h₀ 584 580) (hoff : ∀ p ∈ rest, p.1 ≠ 580 ∧ p.1 ≠ ND ∧ p.1 ≠ LA) (hlt : @LT.lt Nat _ 580 ND)
    (hdp : dp + 20 < recursionLimit) (hu : un + 700 < cLine)
    (rS : ∀ h' tk' τ x, Fr h₀ L h' m → News h₀ L h' (wled ND LA τ rest) → WOk w ND LA τ → Ext σ τ → τ.av = σ.av ++ [Value.str (wordStr v) t] → τ.ks.lookup v.dropLast = some x → τ.ks.length ≤ σ.ks.length + 1 → (∀ p ∈ τ.G, p ∈ σ.G ∨ ∀ q ∈ rest, @LT.lt Nat _ q.1 p.1) → Q (.ref x) { s with heap := h', toks := tk' }) :
    wpAny (model P7 w) (atN dp un gd env outer) (call (.ref 592) [.ref ND, .str (wordStr v) t, .ref LA]) Q E s := by
  replace N := N.perm led_la
  have hq : PySem.Challenge.rw_km0038_07 = PySem.Challenge.rw_km0038_07 ∧ hd.heap_1 = hd.heap_1 := ⟨rfl, rfl⟩
  revert hq
  k_fill
  intro hq
  w_on
  refine wpAny_call ?_
  k_dflt (refine' PySem.W.code_def ?k1 ?k2 ?k3 ?k4 ?k5 ?kA ?kF ?kK ?k6 ?k7 ?k8 ?k9 ?kB ?_ ?c2 ?c3 ?c4 ?c5; (case kA => exact rfl); (case kF => exact hfX); (case kK => exact hk); (case k1 => k_asm); (case k2 => k_asm); (case k3 => k_asm); (case k4 => k_asm); (case k5 => k_asm); (case k6 => k_is); (case k7 => k_is); (case k8 => k_room); (case k9 => first | exact BindsTo.of_eq rfl | exact binds_K (by k_in) rfl (by k_is) rfl rfl rfl); (case c5 => decide); (case kB => exact locs rfl); (case c2 => exact rfl); (case c3 => exact rfl); (case c4 => exact rfl); k_whole; intro g' L' h' FG' F' N' B' X' T'; (try dsimp only); (try k_lift B'); (try k_fold))
  w_strict k_steps
  unfold Stop
  rename Fr g' L' _ _ => F2
  rename News g' L' _ _ => N2
  have oLA : ∀ p ∈ (ND, σ.oN) :: (580, σ.tab) :: (σ.G ++ rest), p.1 ≠ LA := by
    intro p hp
    rcases List.mem_cons.mp hp with rfl | hp
    · exact Nat.ne_of_lt O.low
    rcases List.mem_cons.mp hp with rfl | hp
    · exact Nat.ne_of_lt (Nat.lt_trans hlt O.low)
    rcases List.mem_append.mp hp with hp | hp
    · exact Nat.ne_of_gt (O.gtA p hp)
    · exact (hoff p hp).2.2
  k_dflt (refine' append_K F2 N2 (.head oLA) (fun h3 F3 N3 => ?_) ?Ux)
  case Ux => rw [List.size_toArray, sizeLine_eq]; exact Mine.r0 hal
  rw [List.push_toArray] at N3
  clear F2 N2
  w_strict k_steps
  refine slice_strN_ns (s := ⟨_, _, _, _, _⟩) (by assumption) (by assumption) ?_ (hsz := by rw [wordStr_len, sizeLine_eq]; exact Mine.r180 hv)
  intro h5 t5 k5 F5 N5
  rw [slice_last]
  w_strict k_steps
  unfold Stop
  rename Fr g' L' _ _ => F6
  rename News g' L' _ _ => N6
  refine net07 (σ := ⟨σ.ks, σ.oN, σ.c0, σ.tab, σ.G, σ.av ++ [Value.str (wordStr v) t], σ.za + 1⟩) w B' F6 X' (N6.perm led_la2) O.av' hlo (by rw [List.length_dropLast]; exact Mine.r220 hv) hkl T' (by rfl) (by rfl) (CodeHd.keeps C (Fr.keep FG')) (fun p hp => ⟨(hoff p hp).1, (hoff p hp).2.1⟩) hlt ?dp ?un ?rS
  (case dp => k_room)
  (case un => k_units)
  intro h7 tk7 τ x F7 N7 O7 e7 av7 za7 l7 k7 g7
  clear F6 N6
  (try dsimp only)
  w_strict k_steps
  rename News h₀ L _ _ => N9
  rename Fr h₀ L _ _ => F9
  exact rS _ _ τ x F9 N9 O7 ⟨e7.ks, e7.G⟩ av7 l7 k7 fun p hp => (g7 p hp).imp id fun z q hq => z q (.tail _ hq)
set_option maxRecDepth 100000 in
set_option maxHeartbeats 2000000 in
theorem sup07 (w : World) {mean : ExcName → Option Value} {mg mb : Str → Option Value} {v : List Bool} {ND LA : Addr} {σ : WS} {dp un : Nat} {gd : Option (List Code)} {env : Env} {outer : List Env} {A₀ : Around} {base h₀ : Heap} {L : Addr} {m : Str → Option Value}
    {rest : List (Addr × Obj)} {s : Shared} {Q E : Value → Shared → Prop} {loose : List Str} {pgm : Program} {f a1 a2 a3 : Addr} {pm ctv : Value} {o1 o2 o3 : Obj} {t : Tok}
    (B : Below A₀ base outer h₀) (F : Fr h₀ L s.heap m) (X : (hd.heap_1 w.params).In h₀) (N : News h₀ L s.heap (wled ND LA σ rest)) (O : WOk w ND LA σ) (hlo : (ND == sysModules) = false) (hv : v.length ≤ 12) (hkl : σ.ks.length ≤ 1000) (hal : σ.av.length ≤ 1000)
    (CK : LamCode σ.c0 σ.G) (m3 : (f, lamO pm σ.c0 ctv a1 a2 a3) ∈ σ.G) (m4 : (a1, o1) ∈ σ.G) (m5 : (a2, o2) ∈ σ.G) (m6 : (a3, o3) ∈ σ.G) (g4 : o1.data = .cell (some (.ref ND))) (g5 : o2.data = .cell (some (.str (wordStr v) t))) (g6 : o3.data = .cell (some (.ref LA)))
    (T : Top pgm loose mean mg mb h₀) (hfX : env.frame = some L) (hk : env.scope.kind = .function) (C : CodeHd h₀ 584 580) (hoff : ∀ p ∈ rest, p.1 ≠ 580 ∧ p.1 ≠ ND ∧ p.1 ≠ LA) (hlt : @LT.lt Nat _ 580 ND)
    (hdp : dp + 40 < recursionLimit) (hu : un + 1500 < cLine)
    (rS : ∀ h' tk' τ x, Fr h₀ L h' m → News h₀ L h' (wled ND LA τ rest) → WOk w ND LA τ → Ext σ τ → τ.av = σ.av ++ [Value.str (wordStr v) t] → τ.ks.lookup v.dropLast = some x → τ.ks.length ≤ σ.ks.length + 1 → (∀ p ∈ τ.G, p ∈ σ.G ∨ ∀ q ∈ rest, @LT.lt Nat _ q.1 p.1) → Q (.ref x) { s with heap := h', toks := tk' }) :
    wpAny (model P7 w) (atN dp un gd env outer) (call (.ref f) []) Q E s := by
  obtain ⟨oc', vs', t', cK, cD, cV⟩ := CK
  have N2 : News h₀ L s.heap ((f, lamO pm σ.c0 ctv a1 a2 a3) :: (σ.c0, oc') :: (a1, o1) :: (a2, o2) :: (a3, o3) :: wled ND LA σ rest) := by
    have k : ∀ p ∈ σ.G, p ∈ wled ND LA σ rest := fun p hp => .tail _ (.tail _ (List.mem_append_left _ hp))
    refine N.perm fun p hp => ?_
    rcases List.mem_cons.mp hp with rfl | hp
    · exact k _ m3
    rcases List.mem_cons.mp hp with rfl | hp
    · exact k _ cK
    rcases List.mem_cons.mp hp with rfl | hp
    · exact k _ m4
    rcases List.mem_cons.mp hp with rfl | hp
    · exact k _ m5
    rcases List.mem_cons.mp hp with rfl | hp
    · exact k _ m6
    exact hp
  have hq : PySem.Challenge.rw_km0038_07 = PySem.Challenge.rw_km0038_07 ∧ hd.heap_1 = hd.heap_1 := ⟨rfl, rfl⟩
  revert hq
  k_fill
  intro hq
  w_on
  refine wpAny_call ?_
  k_dflt (refine' kla_code ?k1 ?k2 ?k3 ?k4 ?k5 ?kA ?kF ?kK ?k6 ?k7 ?k8 ?k9 ?kB ?_ ?c2 ?c3 ?c4 ?c5; (case kA => exact rfl); (case kF => exact hfX); (case kK => exact hk); (case k1 => k_asm); (case k2 => k_asm); (case k3 => k_asm); (case k4 => k_asm); (case k5 => k_asm); (case k6 => k_mem); (case k7 => exact codeRec_news (by k_asm) (by k_mem) (by assumption) (by assumption)); (case k8 => k_room); (case k9 => exact rfl); (case c5 => decide); (case kB => exact locs rfl); (case c2 => exact rfl); (case c3 => exact rfl); (case c4 => exact rfl); k_whole; intro g' L' h' FG' F' N' B' X' T'; (try dsimp only); (try k_lift B'); (try k_fold))
  w_strict k_steps
  unfold Stop
  rename Fr g' L' _ _ => F6
  rename News g' L' _ _ => N6
  refine asked07 w B' F6 X' (N6.perm fun p hp => .tail _ (.tail _ (.tail _ (.tail _ (.tail _ hp))))) O hlo hv hkl hal T' (by rfl) (by rfl) (CodeHd.keeps C (Fr.keep FG')) hoff hlt ?dp ?un ?rS
  (case dp => k_room)
  (case un => k_units)
  intro h7 tk7 τ x F7 N7 O7 e7 av7 l7 k7 g7
  clear F6 N6
  (try dsimp only)
  w_strict k_steps
  rename News h₀ L _ _ => N9
  rename Fr h₀ L _ _ => F9
  exact rS _ _ τ x F9 N9 O7 e7 av7 l7 k7 g7
end Mine
end
section
open PySem PySem.W PyProof.Rows
set_option maxRecDepth 100000
namespace Mine
noncomputable def WS.X (σ : WS) (v : Wd) : Addr := (σ.ks.lookup v).getD 0
noncomputable def WS.dom (σ : WS) (v : Wd) : Prop := ∃ x, σ.ks.lookup v = some x
noncomputable def WS.wordOf (σ : WS) (a : Addr) : Wd := ((σ.ks.find? fun p => p.2 == a).map (·.1)).getD []
noncomputable def WS.ha (σ : WS) (a : Addr) : Int := hp ((code (σ.wordOf a) : Nat) : Int) 0
theorem WS.dom_X {σ : WS} {v : Wd} (h : σ.dom v) : σ.ks.lookup v = some (σ.X v) := by
  obtain ⟨x, hx⟩ := h
  rw [WS.X, hx]; rfl
theorem WS.mem {σ : WS} {v : Wd} (h : σ.dom v) : (v, σ.X v) ∈ σ.ks := lookup_mem' (WS.dom_X h)
theorem Ext.dom {σ τ : WS} (x : Ext σ τ) {v : Wd} (h : σ.dom v) : τ.dom v := by
  obtain ⟨k, hk⟩ := h
  exact ⟨k, x.look hk⟩
theorem Ext.X {σ τ : WS} (x : Ext σ τ) {v : Wd} (h : σ.dom v) : τ.X v = σ.X v := by
  have := x.look (WS.dom_X h)
  rw [WS.X, this]; rfl
theorem nodup_map_inj {α β : Type} {f : α → β} {l : List α} (h : (l.map f).Nodup) {a b : α} (ha : a ∈ l) (hb : b ∈ l) (e : f a = f b) : a = b := by
  induction l with
  | nil => cases ha
  | cons c r ih =>
    have h' := List.nodup_cons.mp (show (f c :: r.map f).Nodup from h)
    rcases List.mem_cons.mp ha with ea | ha
    · rcases List.mem_cons.mp hb with eb | hb
      · rw [ea, eb]
      · rw [ea] at e; exact absurd (List.mem_map.mpr ⟨b, hb, e.symm⟩) h'.1
    · rcases List.mem_cons.mp hb with eb | hb
      · rw [eb] at e; exact absurd (List.mem_map.mpr ⟨a, ha, e⟩) h'.1
      · exact ih h'.2 ha hb
theorem WOk.inj {w : World} {ND LA : Addr} {σ : WS} (O : WOk w ND LA σ) : ∀ a b, σ.dom a → σ.dom b → σ.X a = σ.X b → a = b := fun a b ha hb e => by
  have := nodup_map_inj O.adds (WS.mem ha) (WS.mem hb) e
  exact (Prod.mk.inj this).1
theorem WOk.len {w : World} {ND LA : Addr} {σ : WS} (O : WOk w ND LA σ) {v : Wd} (h : σ.dom v) : v.length ≤ 12 := (O.net _ (WS.mem h)).1
theorem WOk.at' {w : World} {ND LA : Addr} {σ : WS} (O : WOk w ND LA σ) {v : Wd} (h : σ.dom v) : NetAt w.params ND LA σ.c0 v (σ.X v) σ.G := (O.net _ (WS.mem h)).2
theorem WOk.code' {w : World} {ND LA : Addr} {σ : WS} (O : WOk w ND LA σ) {v : Wd} (h : σ.dom v) : LamCode σ.c0 σ.G := by
  rcases O.tabs with ⟨e, -⟩ | ⟨-, e⟩
  · have := WS.mem h
    rw [e] at this; cases this
  · exact e
theorem WOk.ha_X {w : World} {ND LA : Addr} {σ : WS} (O : WOk w ND LA σ) {v : Wd} (h : σ.dom v) : σ.ha (σ.X v) = hp ((code v : Nat) : Int) 0 := by
  have hm := WS.mem h
  have : σ.wordOf (σ.X v) = v := by
    unfold WS.wordOf
    cases q : σ.ks.find? (fun p => p.2 == σ.X v) with
    | none =>
      have := List.find?_eq_none.mp q _ hm
      simp at this
    | some p =>
      have h1 := List.mem_of_find?_eq_some q
      have h2 := List.find?_some q
      have h3 : p.2 = σ.X v := beq_iff_eq.mp h2
      have := nodup_map_inj O.adds h1 hm h3
      rw [this]; rfl
  unfold WS.ha
  rw [this]
theorem ents_ext {w : World} {ND LA : Addr} {σ τ : WS} (x : Ext σ τ) (O : WOk w ND LA σ) (O' : WOk w ND LA τ) {sub : List (Wd × Wd)} (h : ∀ p ∈ sub, σ.dom p.1 ∧ σ.dom p.2) : ents σ.ha (pairs σ.X sub) = ents τ.ha (pairs τ.X sub) := by
  unfold ents pairs
  rw [List.map_map, List.map_map]
  refine List.map_congr_left fun p hp => ?_
  have h1 := (h p hp).1
  have h2 := (h p hp).2
  show (⟨σ.ha (σ.X p.1), .ref (σ.X p.1), .ref (σ.X p.2)⟩ : DictEntry) = ⟨τ.ha (τ.X p.1), .ref (τ.X p.1), .ref (τ.X p.2)⟩
  rw [O.ha_X h1, O'.ha_X (x.dom h1), x.X h1, x.X h2]
noncomputable abbrev refs (X : Wd → Addr) (l : List Wd) : List Value := l.map fun v => .ref (X v)
theorem refs_ext {σ τ : WS} (x : Ext σ τ) {l : List Wd} (h : ∀ v ∈ l, σ.dom v) : refs σ.X l = refs τ.X l :=
  List.map_congr_left fun v hv => by rw [x.X (h v hv)]
end Mine
end
section
open PySem PySem.W PyProof.Rows PySem.Spec PySem.Calls
set_option maxRecDepth 100000
namespace Mine
noncomputable def DictHas (h : Heap) (d : Addr) (es : Array DictEntry) (ep : Nat) : Prop := ∃ o, h.get? d = some o ∧ o.cls = .type "dict" ∧ o.data = .dict es ep
theorem DictHas.at {h h' : Heap} {d : Addr} {es : Array DictEntry} {ep : Nat} (x : DictHas h d es ep) (k : ∀ o, h.get? d = some o → h'.get? d = some o) : DictHas h' d es ep := let ⟨o, a, r⟩ := x; ⟨o, k o a, r⟩
theorem DictHas.lt {h : Heap} {d : Addr} {es : Array DictEntry} {ep : Nat} (x : DictHas h d es ep) : d < h.objs.size := let ⟨_, a, _⟩ := x; Heap.lt_size a
theorem DictHas.typeIs {s : Shared} {d : Addr} {es : Array DictEntry} {ep : Nat} (x : DictHas s.heap d es ep) : s.TypeIs (.ref d) "dict" := let ⟨o, a, b, _⟩ := x; ⟨o, a, b⟩
section
variable {prog : Program} {w : World} {A : Around} {E : Value → Shared → Prop} {s : Shared} {it d v : Addr} {es : Array DictEntry} {ep i : Nat}
theorem values_view {Q : Value → Shared → Prop} (hm : DictHas s.heap d es ep) (hsm : (d == sysModules) = false) (hq : Q (.ref s.heap.objs.size) { s with heap := s.heap.push { cls := .type "dict_values", data := .fields #[.ref d] } }) :
    wpAny (model prog w) A (call (.builtin "dict.values") [.ref d]) Q E s := by
  refine wpAny_call_entry PySem.F.slot_dict_values hm.typeIs PySem.F.entry_dict_values ?_ (PySem.F.args_dict_values_1 _)
  refine wpAny_bind ?_
  unfold Builtin.Dict.noArgs
  refine wpAny_bind (wpAny_notOrdered_dict hm.typeIs ?_)
  show wpAny _ _ (pure d) _ _ s
  refine wpAny_pure ?_
  show wpAny _ _ (Builtin.Dict.showsAll d >>= _) _ _ s
  unfold Builtin.Dict.showsAll
  rw [if_neg (by rw [hsm]; exact Bool.false_ne_true)]
  refine wpAny_bind (wpAny_pure ?_)
  exact wpAny_bind (wpAny_newObj_type (wpAny_pure ⟨_, rfl, hq⟩))
theorem values_iter {Q : Value → Shared → Prop} (hv : s.heap.IsValuesView v d) (hm : DictHas s.heap d es ep)
    (hQ : Q (.ref s.heap.objs.size) { s with heap := s.heap.push { cls := .type "dict_valueiterator", data := .fields #[.ref d, .int 0 0, .int es.size 0, .int ep 0] } }) :
    wpAny (model prog w) A (pyIter (.ref v)) Q E s := by
  obtain ⟨ov, hov, hcv, hdv⟩ := id hv
  obtain ⟨o, ho, hc, hdat⟩ := id hm
  refine wpAny_pyIter_slot hv.typeIs PySem.F.slot_dict_values_iter (wpAny_call_entry PySem.F.slot_dict_values_iter hv.typeIs PySem.F.entry_dict_values_iter ?_ (PySem.F.args_dict_values_iter_1 _))
  unfold Builtin.«dict_values.__iter__»
  refine wpAny_bind (wpAny_pure (wpAny_bind ?_))
  unfold Builtin.Dict_items.dictOf
  refine wpAny_bind (wpAny_field hov hdv (x := .ref d) rfl (wpAny_pure (wpAny_bind ?_)))
  unfold Builtin.Dict_items.newIterator
  refine wpAny_bind (wpAny_dictEntries ho hdat (wpAny_bind (wpAny_dictEpoch ho hdat ?_)))
  simp only [show Builtin.Dict_items.ownsTuple "dict_valueiterator" = false by decide, Bool.false_eq_true, if_false]
  refine wpAny_newObj_type (wpAny_pure ⟨_, rfl, "dict_valueiterator", _, ⟨_, Heap.get?_push_size _ rfl, rfl⟩, PySem.F.slot_dict_valueiterator_next.lookup, ?_⟩)
  simpa [rawInt] using hQ
theorem values_next {Q : Option Value → Shared → Prop} (hit : s.heap.IsValIter it d i es.size ep) (hm : DictHas s.heap d es ep)
    (h1 : ∀ hi : i < es.size, ∀ h', h'.IsValIter it d (i + 1) es.size ep → Heap.SameBut it s.heap h' → Q (some es[i].val) { s with heap := h' })
    (hh : A.handled = none) (h2 : es.size ≤ i → ∀ h', Heap.ExtBut it s.heap h' → Q none { s with heap := h' }) : wpAny (model prog w) A (pyNext (.ref it)) Q E s := by
  obtain ⟨o, ho, hc, hd⟩ := id hit
  obtain ⟨od, hod, hcd, hdd⟩ := id hm
  unfold pyNext
  refine wpAny_bind (wpAny_attempt (wpAny_callSpecial?_slot (name := Str.ofString "__next__") hit.typeIs PySem.F.slot_dict_valueiterator_next
    (wpAny_call_entry PySem.F.slot_dict_valueiterator_next hit.typeIs PySem.F.entry_dict_valueiterator_next ?_ (PySem.F.args_dict_valueiterator_next_1 _))))
  refine wpAny_bind (wpAny_pure (wpAny_bind (wpAny_bind ?_)))
  first | refine wpAny_bind (wpAny_typeNameOfWhole_valiter hit.typeIs (wpAny_pure ?_)) | refine wpAny_bind (wpAny_typeNameOf_valiter hit.typeIs (wpAny_pure ?_))
  refine wpAny_bind (wpAny_fieldsOf ho hd ?_)
  simp only [show Builtin.Dict_items.ownsTuple "dict_valueiterator" = false by decide, Bool.false_eq_true, if_false]
  show wpAny _ _ (if (Value.ref d == Value.none) = true then _ else _) _ _ s
  rw [if_neg (show ¬ ((Value.ref d == Value.none) = true) from Bool.false_ne_true)]
  refine wpAny_bind (wpAny_pure (wpAny_bind (wpAny_dictEntries hod hdd ?_)))
  rw [if_neg (by simp)]
  refine wpAny_bind (wpAny_pure (wpAny_bind (wpAny_dictEpoch hod hdd ?_)))
  rw [if_neg (by simp)]
  refine wpAny_pure ?_
  by_cases hi : i < es.size
  · simp only [show ¬ ((i : Int) < 0) from by exact Mine.r8, if_false, Int.toNat_natCast, Array.getElem?_eq_getElem hi]
    refine wpAny_bind ?_
    first | refine wpAny_bind (wpAny_typeNameOfWhole_valiter hit.typeIs (wpAny_pure ?_)) | refine wpAny_bind (wpAny_typeNameOf_valiter hit.typeIs (wpAny_pure ?_))
    refine wpAny_bind (wpAny_isOneOf_valiter hit.typeIs ?_)
    show wpAny _ _ (setField (.ref it) 1 (rawInt ((i : Int) + 1)) >>= _) _ _ s
    refine wpAny_bind (wpAny_setField ho hd (by simp) ?_)
    have hit' : (s.heap.update it (Obj.mapFields (·.setIfInBounds 1 (rawInt ((i : Int) + 1))))).IsValIter it d (i + 1) es.size ep :=
      ⟨_, Heap.get?_update_self _ ho (Obj.isFreed_of_fields (Obj.data_mapFields hd _)), (Obj.cls_mapFields ..).trans hc, by rw [Obj.data_mapFields hd]; simp [rawInt]⟩
    refine wpAny_bind (wpAny_holding ?_)
    refine wpAny_bind (wpAny_isOneOf_valiter (s := { s with heap := s.heap.update it (Obj.mapFields (·.setIfInBounds 1 (rawInt ((i : Int) + 1)))) }) hit'.typeIs ?_)
    refine wpAny_bind (wpAny_isOneOf_valiter (s := { s with heap := s.heap.update it (Obj.mapFields (·.setIfInBounds 1 (rawInt ((i : Int) + 1)))) }) hit'.typeIs ?_)
    show wpAny _ _ (pure es[i].val) _ _ _
    exact wpAny_pure (wpAny_pure ⟨_, rfl, wpAny_pure (h1 hi _ hit' (Heap.SameBut.update ..))⟩)
  · have hge : es.size ≤ i := by exact Mine.r1 hi
    simp only [show ¬ ((i : Int) < 0) from by exact Mine.r8, if_false, Int.toNat_natCast, Array.getElem?_eq_none hge]
    refine wpAny_bind ?_
    first | refine wpAny_bind (wpAny_typeNameOfWhole_valiter hit.typeIs (wpAny_pure ?_)) | refine wpAny_bind (wpAny_typeNameOf_valiter hit.typeIs (wpAny_pure ?_))
    show wpAny _ _ (setField (.ref it) 0 .none >>= _) _ _ s
    refine wpAny_bind (wpAny_setField ho hd (by simp) ?_)
    show wpAny _ _ (newExc (.type "StopIteration") [] >>= _) _ _ _
    refine wpAny_bind ?_
    simp only [newExc, newTuple]
    refine wpAny_bind (wpAny_newObj_type ?_ (by size_fits))
    refine wpAny_bind (m := firstArgMember _ _) (wpAny_of_eq (a := Value.none) (by first | rfl | (simp only [firstArgMember]; rfl)) ?_)
    refine wpAny_newObj_type ?_ (by size_fits)
    simp only [raiseNew]
    refine wpAny_bind (wpAny_handled ?_)
    rw [show A.in1.handled = none from hh]
    refine wpAny_bind (wpAny_pure (wpAny_throw ?_))
    refine wpAny_bind (wpAny_isInstance (T := "StopIteration") (b := true) ⟨_, Heap.get?_push_size _ rfl, rfl⟩ isSubtype_stop ?_)
    exact wpAny_pure (h2 hge _ (((Heap.SameBut.update ..).extBut.push _).push _))
theorem walks_values (hh : A.handled = none) (I d : Addr) (hne : d ≠ I) (es : Array DictEntry) (ep : Nat) :
    Walks prog w A I [I, d] [I] es.size (fun i v => ∃ e, es[i]? = some e ∧ v = e.val) (fun i h => h.IsValIter I d i es.size ep ∧ DictHas h d es ep) where
  sub := fun b hb => by simp at hb; simp [hb]
  frame := fun _ _ _ st hk => ⟨st.1.at fun o e => hk I (by simp) o e, st.2.at fun o e => hk d (by simp) o e⟩
  item := fun i s Q E hi st hQ => values_next st.1 st.2 (fun hi' h' hit' hs' => hQ es[i].val h' s.toks ⟨es[i], Array.getElem?_eq_getElem hi', rfl⟩ ⟨hit', st.2.at fun o e => (hs'.2 _ hne).trans e⟩ fun b o hb e => hs'.extBut b o (fun h => hb (by simp [h])) e) hh fun h _ _ => absurd hi (by exact Mine.r126 h)
  done := fun s Q E st hQ => values_next st.1 st.2 (fun hi' _ _ _ => absurd hi' (Nat.lt_irrefl _)) hh fun _ h' he' => hQ h' s.toks fun b o hb e => he' b o (fun h => hb (by simp [h])) e
  self := fun _ _ _ _ st hQ => wpAny_pyIter_valiter st.1 hQ
theorem src_values : KdlSrc prog w "dict_values" v d es.size (fun i u => ∃ e, es[i]? = some e ∧ u = e.val) (fun h => h.IsValuesView v d ∧ DictHas h d es ep) where
  type := fun _ hm => hm.1.typeIs
  there := fun _ hm => ⟨let ⟨_, ho, _⟩ := hm.1; Heap.lt_size ho, hm.2.lt⟩
  keep := fun _ _ hm hk => ⟨let ⟨o, ho, x⟩ := hm.1; ⟨o, hk v (.inl rfl) o ho, x⟩, hm.2.at fun o e => hk d (.inr rfl) o e⟩
  notList := by decide
  notTuple := by decide
  hint := fun _ _ _ _ hm hq => kdl_hint_values hm.1.typeIs hq
  iter := fun _ _ hh hm => ⟨_, _, (fun _ _ hq => values_iter hm.1 hm.2 hq), walks_values hh _ d (Nat.ne_of_lt hm.2.lt) es ep, ⟨⟨_, Heap.get?_push_size _ rfl, rfl, rfl⟩, hm.2.at fun o e => Heap.get?_push_of_some _ e⟩⟩
end
end Mine
end
section
open PySem PySem.W PyProof.Rows PySem.Spec PySem.Calls
set_option maxRecDepth 100000
namespace Mine
section
variable {prog : Program} {w : World} {A₀ A : Around} {s : Shared} {base h₀ : Heap} {outer : List Env} {env : Env} {L a : Addr} {m : Str → Option Value} {news : List (Addr × Obj)} {K : Frag} {p : Program} {loose : List Str} {mean : ExcName → Option Value} {mg mb : Str → Option Value}
  {R : Result → Shared → Prop} {name qual : Str} {params : Arguments} {body : List Stmt} {scope : Scope} {dV kV doc pm cdv ct oc : Value} {an od : Option Addr} {osl : Array (Option Value)} {f : Addr} {args : Args} {binds : List (Str × Value)}
noncomputable abbrev genO (gi : Nat) (name qual : Str) (t1 t2 : Tok) : Obj := { cls := .type "generator", data := .fields #[.int gi 0, .str name t1, .str qual t2] }
theorem gen_def (B : Below A₀ base outer h₀) (F : Fr h₀ L s.heap m) (X₀ : K.In h₀) (N : News h₀ L s.heap news) (T : Top p loose mean mg mb h₀) (hA : A.frames = some (env :: outer)) (hf : env.frame = some L) (hke : env.scope.kind = .function)
    (ho : K.lookup f = some ⟨oc, od, .func (fnOf name qual params body scope dV kV doc pm an cdv ct), osl⟩) (hcd : codeIn K cdv qual = true) (hroom : A.depth < recursionLimit)
    (hbind : BindsTo s (fnOf name qual params body scope dV kV doc pm an cdv ct) args binds) (hloc : ∀ y ∈ binds, scope.names.lookup y.1 = some .local)
    (h : ∀ g L' h₁ t1 t2 tk, Fr h₀ L g m → Fr g L' h₁ (fun y => binds.reverse.lookup y) → News g L' h₁ news → Below A base (env :: outer) g → K.In g → Top p loose mean mg mb g → (∀ b o, s.heap.get? b = some o → h₁.get? b = some o) → s.heap.objs.size = L' →
      R (.ok (.ret (.ref h₁.objs.size))) { s with gens := s.gens.push (.fresh (.func body (envOf qual scope L' f cdv))), heap := h₁.push (genO s.gens.size name qual t1 t2), toks := tk })
    (hco : scope.isCoroutine = false) (hgen : scope.isGenerator = true) (hk : scope.kind = .function)
    (hcell : ∀ x ∈ scope.names, x.2 ≠ .cell) : codeAny (model prog w) A (.call (.ref f) args) R s := by
  have X := X₀.keeps F.keep
  obtain ⟨FG, BG, st, lv⟩ := groundX (R := R) B F N hA hf hke
  refine codeAny_call_generator (fd := fnOf name qual params body scope dV kV doc pm an cdv ct) (body := body) hroom (X _ _ ho) rfl hco hgen rfl (codeRec_of X hcd) (hbind _ _ _ _ ?_)
  refine wpAny_newFunctionEnv hcell hloc (fun h₁ hns hsb => ⟨((T.nolimit).keeps F.keep).fresh _ hsb, ?_⟩) hk
  have hk₁ : ∀ b o, s.heap.get? b = some o → h₁.get? b = some o := fun b o e => hsb.extBut b o (Nat.ne_of_lt (Heap.lt_size e)) (Heap.get?_push_of_some _ e)
  exact h _ s.heap.objs.size h₁ _ _ _ FG ⟨hns, fun b o e => hk₁ b o (of_hideAll _ e), Nat.le_of_eq (hideAll_size _ _)⟩
    (fun p hp => ⟨hk₁ _ _ (N p hp).1, Nat.ne_of_lt (Heap.lt_size (N p hp).1), hideAll_none _ (List.mem_map_of_mem hp)⟩) BG (X₀.keeps st) (T.keeps st) hk₁ rfl
end
section
variable {prog : Program} {w : World} {A : Around} {E : Value → Shared → Prop} {s : Shared} {R : Result → Shared → Prop} {S I : Addr} {res : Value} {gi : Nat}
theorem loop_turn (h : wpAny (model prog w) A.in1 (pyNext (.ref I)) (fun ov s' => match ov with
      | none => R (.ok (.ret res)) s'
      | some v => ∃ acc c, s'.heap.get? S = some (W.listOf acc c) ∧ acc.size ≤ 1000 ∧
          (∀ h', h'.get? S = some (W.listOf (acc.push v) (c + 1)) → (∀ b o, b ≠ S → s'.heap.get? b = some o → h'.get? b = some o) → h'.objs.size = s'.heap.objs.size → codeAny (model prog w) A (.builtin "list.extend.loop" ⟨[.ref S, .ref I, res], []⟩) R { s' with heap := h' })) (fun e s' => R (.error e) s') s) :
    codeAny (model prog w) A (.builtin "list.extend.loop" ⟨[.ref S, .ref I, res], []⟩) R s := by
  refine codeAny_builtin F.entry_extend_loop ?_
  rw [Around.under_plainId F.plain_extend_loop _]
  show wpAny _ A.in1 (pyNext (.ref I) >>= _) _ _ s
  refine wpAny_bind (wpAny_mono h (fun ov s' hv => ?_) fun _ _ x => x)
  cases ov with
  | none => exact wpAny_pure hv
  | some v =>
    obtain ⟨acc, c, hS, hz, hk⟩ := hv
    show wpAny _ A.in1 (updateSeq S (·.push v) >>= _) _ _ _
    refine wpAny_bind ?_
    refine wpAny_updateSeq hS rfl (wpAny_pure ⟨plainId_quiet F.plain_extend_loop _, hk _ (by rw [Heap.get?_update_self _ hS (by rw [mapSeq_push]; rfl), mapSeq_push]) (fun b o hb e => (Heap.get?_update_other _ _ (Ne.symm hb)).trans e) ?_⟩) ?_ ?_
    · simp
    · rw [sizeLine_eq]; exact Mine.r0 hz
    · show (acc.push v).size ≤ sizeLine + 1; rw [Array.size_push, sizeLine_eq]; exact Mine.r345 hz
theorem list_gen {Q : Value → Shared → Prop} (hg : s.heap.IsGen I gi)
    (h : ∀ h' c, (∀ b o, s.heap.get? b = some o → h'.get? b = some o) → h'.get? s.heap.objs.size = some (W.listOf #[] c) → h'.objs.size = s.heap.objs.size + 1 →
      codeAny (model prog w) A.in1 (.builtin "list.extend.loop" ⟨[.ref s.heap.objs.size, .ref I, .none], []⟩) (wants (fun r s₂ => r = .none ∧ Q (.ref s.heap.objs.size) s₂) E) { s with heap := h' }) :
    wpAny (model prog w) A (call (.type "list") [.ref I]) Q E s := by
  have hIs : I < s.heap.objs.size := let ⟨o, _, _, ho, _⟩ := hg; Heap.lt_size ho
  refine callType_codes (Q₁ := fun obj s₁ => obj = .ref s.heap.objs.size ∧ s₁ = { s with heap := s.heap.push { cls := .type "list", data := .seq #[] } }) F.called_list (F.typeCall_list_1 _) F.entry_list_init
    (code_list_new _ ⟨rfl, rfl⟩) fun obj s₁ h₁ => ?_
  obtain ⟨rfl, rfl⟩ := h₁
  have hS : (s.heap.push { cls := .type "list", data := .seq #[] }).get? s.heap.objs.size = some { cls := .type "list", data := .seq #[] } := Heap.get?_push_size _ rfl
  refine ⟨⟨_, hS, rfl⟩, F.args_list_init_2 _ _, ?_⟩
  have hk0 : ∀ b o, s.heap.get? b = some o → (s.heap.push { cls := .type "list", data := .seq #[] }).get? b = some o := fun b o e => Heap.get?_push_of_some _ e
  have hz0 : (s.heap.push { cls := .type "list", data := .seq #[] }).objs.size = s.heap.objs.size + 1 := by simp [Heap.push]
  revert h hS hk0 hz0
  generalize (s.heap.push { cls := .type "list", data := .seq #[] }) = h1
  have hIS : s.heap.objs.size ≠ I := fun e => Nat.lt_irrefl _ (e ▸ hIs)
  have hlt : ∀ b o, s.heap.get? b = some o → b ≠ s.heap.objs.size := fun b o e => Nat.ne_of_lt (Heap.lt_size e)
  revert hIS hlt
  generalize s.heap.objs.size = S
  intro hIS hlt h hS hk0 hz0
  show wpAny _ A.in1.in1 (do let old ← Builtin.List.listItems (.ref S); Builtin.List.listUpdate (.ref S) (fun _ => #[]); letGo old.toList.reverse; Builtin.List.listExtendWith (.ref S) (.ref I) .none) _ _ _
  refine wpAny_bind ?_
  unfold Builtin.List.listItems
  refine wpAny_bind (wpAny_seqItems hS rfl (wpAny_pure ?_))
  show wpAny _ A.in1.in1 (updateSeq S (fun _ => #[]) >>= fun _ => letGo (#[] : Array Value).toList.reverse >>= fun _ => Builtin.List.listExtendWith (.ref S) (.ref I) .none) _ _ _
  refine wpAny_bind (wpAny_updateSeq hS rfl ?_)
  have hS₂ := Heap.get?_update_self (Obj.mapSeq (fun _ => (#[] : Array Value))) hS rfl
  have oth : ∀ b o, b ≠ S → h1.get? b = some o → (h1.update S (Obj.mapSeq (fun _ => (#[] : Array Value)))).get? b = some o :=
    fun b o hb e => (Heap.get?_update_other _ _ (Ne.symm hb)).trans e
  have hz2 : (h1.update S (Obj.mapSeq (fun _ => (#[] : Array Value)))).objs.size = S + 1 := by simp [hz0]
  refine wpAny_bind (wpAny_letGo ?_)
  revert hS₂ oth hz2
  show _ → _ → _ → wpAny _ _ _ _ _ { s with heap := h1.update S (Obj.mapSeq (fun _ => (#[] : Array Value))) }
  generalize (h1.update S (Obj.mapSeq (fun _ => (#[] : Array Value)))) = h2
  intro hS₂ oth hz2
  have hg2 : h2.IsGen I gi := hg.keeps fun b o e => oth b o (hlt b o e) (hk0 b o e)
  unfold Builtin.List.listExtendWith
  refine wpAny_bind (wpAny_typeOf (Heap.IsGen.typeIs (s := { s with heap := h2 }) hg2) ?_)
  have e1 : Builtin.List.listSameRef (.ref S) (.ref I) = false := by simp [Builtin.List.listSameRef, hIS]
  have e2 : (Value.type "generator" == Value.type "list") = false := by decide
  have e3 : (Value.type "generator" == Value.type "tuple") = false := by decide
  simp only [e1, e2, e3, Bool.or_false, Bool.false_eq_true, if_false]
  refine wpAny_bind (wpAny_pyIter_gen hg2 ?_)
  refine wpAny_bind (wpAny_holding ?_)
  unfold Builtin.List.listLengthHint
  refine wpAny_bind (wpAny_specialOf (Heap.IsGen.typeIs (s := { s with heap := h2 }) hg2) F.gen_no_len ?_)
  show wpAny _ A.in1.in1 (specialOf (Value.ref I) (Str.ofString "__length_hint__") >>= _) _ _ _
  refine wpAny_bind (wpAny_specialOf (Heap.IsGen.typeIs (s := { s with heap := h2 }) hg2) F.gen_no_hint ?_)
  refine wpAny_pure ?_
  show wpAny _ A.in1.in1 (rule "list.extend.makes-room" >>= fun _ => Builtin.List.listTouch (.ref S) >>= fun _ =>
    again (.builtin "list.extend.loop" ⟨[.ref S, .ref I, .none], []⟩)) _ _ _
  refine wpAny_bind (wpAny_rule ?_)
  refine wpAny_bind ?_
  show wpAny _ A.in1.in1 (updateSeq S (·.push .none) >>= fun _ => updateSeq S (·.pop)) _ _ _
  refine wpAny_bind (wpAny_updateSeq hS₂ rfl ?_)
  have hS₃ := Heap.get?_update_self (Obj.mapSeq (·.push Value.none)) hS₂ rfl
  refine wpAny_updateSeq (hz := by seq_fits) hS₃ rfl ?_
  have hS₄ := Heap.get?_update_self (Obj.mapSeq (·.pop)) hS₃ rfl
  refine wpAny_pure ⟨plainId_quiet F.plain_extend_loop _, h _ _ (fun b o e => (Heap.get?_update_other _ _ (Ne.symm (hlt b o e))).trans ((Heap.get?_update_other _ _ (Ne.symm (hlt b o e))).trans (oth b o (hlt b o e) (hk0 b o e)))) (hS₄.trans rfl) ?_⟩
  simp [hz2]
end
end Mine
end
section
open PySem PySem.W PyProof.Rows PySem.Spec PySem.Calls
set_option maxRecDepth 100000
namespace Mine
section
variable {prog : Program} {w : World} {A : Around} {E : Value → Shared → Prop} {s : Shared}
theorem next_gen {a : Addr} {g n : Nat} {gs : GenState} {R : GenEnd} {Y : Protocol} {Q : Option Value → Shared → Prop} (hh : A.handled = none)
    (hl : s.heap.NoLimit) (hroom : A.depth < recursionLimit)
    (hg : s.heap.IsGen a g) (hgs : s.gens[g]? = some gs)
    (hgo : gs.Goes (model prog w) A.in1 R Y n (.send .none) (s.setGen g .running))
    (hY : ∀ v s₁ gs', Y (n - 1) (s.setGen g .running) v s₁ (fun r' s'' => match n with
        | 0 => False
        | m + 1 => gs'.Goes (model prog w) A.in1 R Y m r' s'') → Q (some v) (s₁.setGen g gs'))
    (hR : ∀ r s₁, R n (s.setGen g .running) r s₁ → match r with
        | .ok (.ret .none) => ∀ h', (∀ b o, s₁.heap.get? b = some o → h'.get? b = some o) → Q none { s₁.setGen g .finished with heap := h' }
        | .error e => s₁.heap.IsGen a g ∧ (∃ T, s₁.TypeIs e T ∧ isSubtype (.type T) (.type "StopIteration") = pure false) ∧ E e (s₁.setGen g .finished)
        | _ => False) :
    wpAny (model prog w) A (pyNext (.ref a)) Q E s := by
  unfold pyNext
  refine wpAny_bind (wpAny_attempt (wpAny_callSpecial?_slot (name := Str.ofString "__next__") hg.typeIs slot_gen_next
    (wpAny_call_entry slot_gen_next hg.typeIs entry_gen_next ?_ (args_gen_next _))))
  show wpAny _ _ (Builtin.Generator.genWake (.ref a) (.send .none)) _ _ s
  unfold Builtin.Generator.genWake
  refine wpAny_bind (wpAny_holding (wpAny_genNumber hg (wpAny_bind (wpAny_genState hgs ?_))))
  cases gs with
  | running => exact hgo.elim
  | finished => exact hgo.elim
  | _ =>
    refine wpAny_bind (wpAny_roomToWake hl hroom ?_)
    show wpAny _ _ (.resume g (.send .none) [] _) _ _ s
    refine wpAny_resume hgs hgo (fun x s₁ hx => ?_) (fun v s₁ gs' hv => ?_)
    · have hx := hR x s₁ hx
      match x, hx with
      | .ok (.ret .none), hp =>
        show wpAny _ _ (newExc (.type "StopIteration") [] >>= _) _ _ _
        refine wpAny_bind ?_
        simp only [newExc, newTuple]
        refine wpAny_bind (wpAny_newObj_type ?_ (by size_fits))
        refine wpAny_bind (m := firstArgMember _ _) (wpAny_of_eq (a := Value.none) (by first | rfl | (simp only [firstArgMember]; rfl)) ?_)
        refine wpAny_newObj_type ?_ (by size_fits)
        simp only [raiseNew]
        refine wpAny_bind (wpAny_bind (wpAny_handled ?_))
        rw [show A.in1.handled = none from hh]
        refine wpAny_throw ?_
        refine wpAny_bind (wpAny_isInstance (T := "StopIteration") (b := true) ⟨_, Heap.get?_push_size _ rfl, rfl⟩ isSubtype_stop ?_)
        exact wpAny_pure (hp _ fun b o hb => Heap.get?_push_of_some _ (Heap.get?_push_of_some _ hb))
      | .error e, hp =>
        obtain ⟨hgen, ⟨T, hT, hs⟩, hE⟩ := hp
        obtain ⟨o, nm, qn, hog, hcg, hdg, _⟩ := hgen
        have hT' : (s₁.setGen g .finished).TypeIs e T := hT
        show wpAny _ _ (Builtin.Generator.genLeft (.ref a) e) _ _ _
        unfold Builtin.Generator.genLeft Builtin.Generator.madeByALambda
        refine wpAny_bind (wpAny_bind (wpAny_load hog (wpAny_pure ?_)))
        refine wpAny_bind (wpAny_isInstance hT' hs ?_)
        simp only [Bool.and_false, Bool.false_eq_true, if_false]
        unfold Builtin.Generator.genEscaped
        refine wpAny_bind (wpAny_isInstance hT' hs ?_)
        simp only [Bool.not_false, if_true]
        refine wpAny_throw ?_
        refine wpAny_bind (wpAny_isInstance hT' hs ?_)
        simp only [Bool.false_eq_true, if_false]
        exact wpAny_throw hE
    · exact wpAny_pure ⟨v, rfl, wpAny_pure (hY v s₁ gs' hv)⟩
end
end Mine
end
section
open PySem PySem.W PyProof.Rows PySem.Spec PySem.Calls
set_option maxRecDepth 100000
namespace Mine
section
variable {prog : Program} {w : World} {A : Around} {R : GenEnd} {Y : Protocol} {n : Nat} {s₀ : Shared} {c : Code} {fs : List Frame} {s : Shared} {env : Env}
  {K : Flow → Sem Fin} {H : Value → Sem Fin} {gd : Bool → Bool} {lv : List Value → List Value} {M : Model}
noncomputable abbrev backF (env : Env) (K : Flow → Sem Fin) (H : Value → Sem Fin) (gd : Bool → Bool) (lv : List Value → List Value) (r : Result) : Sem Fin :=
  ((match r with | .ok f => (.pure f : Sem Flow) | .error e => .raise e).onRaise fun (x : Value) => do
        if (← field x 1) == Value.none then unsupported "frame.own-activation:exception-without-traceback"
        setFlight x env.frame).wrap K H gd lv
theorem seg_For {target iter : Expr} {body orelse : List Stmt} {pos : Pos}
    (h : wpAny M (A.over c fs) (eval iter env) (fun x s₁ => wpAny M (A.over c fs) (pyIter x) (fun it s₂ =>
      ∀ p, Seg M A R Y n s₀ (.forLoop target it body orelse env) (M.den (.forLoop target it body orelse env)) (.ret (backF env K H gd lv) none (gd false) (lv []) c p [] :: fs) s₂)
      (fun x s' => Seg M A R Y n s₀ c (H x) fs s') s₁) (fun x s' => Seg M A R Y n s₀ c (H x) fs s') s)
    (hs : ∀ x, foldedSetIterable iter env x = pure x := by intro _; rfl) :
    Seg M A R Y n s₀ c ((exec (.For target iter body orelse pos) env).wrap K H gd lv) fs s := by
  rw [exec_For]
  refine seg_at ?_
  show Seg M A R Y n s₀ c (((eval iter env) >>= fun x => (foldedSetIterable iter env x >>= fun x => (standAt iter.pos >>= fun _ => (holding [x] (pyIter x) >>= fun it => runOwn (.forLoop target it body orelse env) env)))).wrap K H gd lv) fs s
  rw [Sem.bind_eq_wrap', Sem.wrap_wrap]
  refine seg_wrap (wpAny_mono h (fun x s₁ h₁ => ?_) fun _ _ x => x)
  rw [hs x]
  show Seg M A R Y n s₀ c ((standAt iter.pos >>= fun _ => (holding [x] (pyIter x) >>= fun it => runOwn (.forLoop target it body orelse env) env)).wrap K H gd lv) fs s₁
  refine seg_at ?_
  show Seg M A R Y n s₀ c ((holding [x] (pyIter x) >>= fun it => runOwn (.forLoop target it body orelse env) env).wrap K H gd lv) fs s₁
  rw [Sem.bind_eq_wrap', Sem.wrap_wrap]
  refine seg_wrap (wpAny_holding (wpAny_mono h₁ (fun it s₂ h₂ => ?_) fun _ _ x => x))
  exact seg_call h₂
end
section
variable {prog : Program} {w : World} {A : Around} {R : GenEnd} {Y : Protocol} {n : Nat} {s₀ : Shared} {fs : List Frame} {s : Shared} {env : Env}
noncomputable abbrev noteF (env : Env) (e : Value) : Sem Fin := (do noteFrame e env; theTreesLotGoes e : Sem Unit).wrap (fun _ => .raise e) .raise id id
theorem seg_turn {target : Expr} {it : Value} {body orelse : List Stmt}
    (h : wpAny (model prog w) (A.over (.forLoop target it body orelse env) fs) (pyNext it) (fun ov s₁ => match ov with
      | none => Seg (model prog w) A R Y n s₀ (.block orelse env) ((model prog w).den (.block orelse env)) fs s₁
      | some v => wpAny (model prog w) (A.over (.forLoop target it body orelse env) fs) (assign target env v) (fun _ s₂ =>
          Seg (model prog w) A R Y n s₀ (.forLoop target it body orelse env) ((execs body env).wrap (fun f => match f with
            | .next | .cont => .pure (.again (.forLoop target it body orelse env))
            | .brk => .pure (.done .next)
            | .ret v => .pure (.done (.ret v))) (noteF env) id id) fs s₂) (fun _ _ => False) s₁) (fun _ _ => False) s)
    (ht : ∀ v, letOwnedTupleGo target it v = pure () := by intro _; rfl) :
    Seg (model prog w) A R Y n s₀ (.forLoop target it body orelse env) ((model prog w).den (.forLoop target it body orelse env)) fs s := by
  show Seg _ A R Y n s₀ _ ((forTurn target it body orelse env).onRaise (fun x => do noteFrame x env; theTreesLotGoes x)) fs s
  rw [Sem.onRaise_eq_wrap]
  unfold forTurn
  show Seg _ A R Y n s₀ _ ((standAt target.pos >>= fun _ => (((pyNext it).onRaise fun _ => standAt { target.pos with line := 0 }) >>= fun ov => match ov with
    | none => again (.block orelse env)
    | some v => letOwnedTupleGo target it v >>= fun _ => assign target env v >>= fun _ => execs body env >>= fun f => match f with
      | .next | .cont => again (.forLoop target it body orelse env)
      | .brk => pure (.done .next)
      | .ret v => pure (.done (.ret v)))).wrap _ _ _ _) fs s
  refine seg_at ?_
  show Seg _ A R Y n s₀ _ ((((pyNext it).onRaise fun _ => standAt { target.pos with line := 0 }) >>= fun ov => match ov with
    | none => again (.block orelse env)
    | some v => letOwnedTupleGo target it v >>= fun _ => assign target env v >>= fun _ => execs body env >>= fun f => match f with
      | .next | .cont => again (.forLoop target it body orelse env)
      | .brk => pure (.done .next)
      | .ret v => pure (.done (.ret v))).wrap _ _ _ _) fs s
  rw [Sem.onRaise_eq_wrap, Sem.bind_eq_wrap', Sem.wrap_wrap, Sem.wrap_wrap]
  refine seg_wrap (wpAny_mono h (fun ov s₁ h₁ => ?_) fun _ _ x => x.elim)
  cases ov with
  | none => exact seg_again (by rfl) h₁
  | some v =>
    show Seg _ A R Y n s₀ _ ((letOwnedTupleGo target it v >>= fun _ => assign target env v >>= fun _ => execs body env >>= fun f => match f with
      | .next | .cont => again (.forLoop target it body orelse env)
      | .brk => pure (.done .next)
      | .ret v => pure (.done (.ret v))).wrap _ _ _ _) fs s₁
    rw [ht v]
    show Seg _ A R Y n s₀ _ ((assign target env v >>= fun _ => execs body env >>= fun f => match f with
      | .next | .cont => again (.forLoop target it body orelse env)
      | .brk => pure (.done .next)
      | .ret v => pure (.done (.ret v))).wrap _ _ _ _) fs s₁
    rw [Sem.bind_eq_wrap', Sem.wrap_wrap]
    refine seg_wrap (wpAny_mono h₁ (fun _ s₂ h₂ => ?_) fun _ _ x => x.elim)
    rw [Sem.bind_eq_wrap', Sem.wrap_wrap]
    rw [Sem.wrap_congr (execs body env) _ _ (K' := fun f => match f with
            | .next | .cont => .pure (.again (.forLoop target it body orelse env))
            | .brk => .pure (.done .next)
            | .ret v => .pure (.done (.ret v))) (H' := noteF env)
        (fun f => by cases f <;> rfl)
        (fun e => by first | exact Sem.bind_eq_wrap _ _ | (show (do noteFrame e env; theTreesLotGoes e : Sem Unit).bind (fun _ => .raise e) = _; rw [Sem.bind_eq_wrap]))]
    exact h₂
end
end Mine
end
section
open PySem PySem.W PyProof.Rows PySem.Spec PySem.Calls
set_option maxRecDepth 100000
namespace Mine
section
variable {prog : Program} {w : World} {A : Around} {R : GenEnd} {Y : Protocol} {n : Nat} {s₀ : Shared} {c : Code} {fs : List Frame} {s : Shared} {env : Env}
  {K : Flow → Sem Fin} {H : Value → Sem Fin} {gd : Bool → Bool} {lv : List Value → List Value}
theorem seg_block_end {g : Bool} {l : List Value} {p : Pos} (h : Seg (model prog w) A R Y n s₀ c (K .next) fs s) :
    Seg (model prog w) A R Y n s₀ (.block [] env) ((model prog w).den (.block [] env)) (.ret (backF env K H gd lv) none g l c p [] :: fs) s := by
  show Seg _ A R Y n s₀ _ _ _ s
  exact seg_leaf (.ok .next) h
noncomputable abbrev funcK (f : Flow) : Sem Fin := .pure (.done (.ret (match f with | .ret v => v | _ => .none)))
noncomputable abbrev funcH (env : Env) (e : Value) : Sem Fin := (leaving env e).wrap (fun _ => .raise e) .raise id id
theorem seg_func' {body : List Stmt} (h : Seg (model prog w) A R Y n s₀ (.func body env) ((execs body env).wrap funcK (funcH env) id id) fs s) :
    Seg (model prog w) A R Y n s₀ (.func body env) ((model prog w).den (.func body env)) fs s := seg_func h
theorem seg_returns (h : R n s₀ (.ok (.ret .none)) s) : Seg (model prog w) A R Y n s₀ c (funcK .next) [] s := seg_end (.ok (.ret .none)) h
theorem seg_raises {e : Value} (h : wpAny (model prog w) (A.over c []) (leaving env e) (fun _ s' => R n s₀ (.error e) s') (fun e' s' => R n s₀ (.error e') s') s) : Seg (model prog w) A R Y n s₀ c (funcH env e) [] s :=
  seg_wrap (wpAny_mono h (fun _ _ hr => seg_end (.error e) hr) fun _ _ hr => seg_end (.error _) hr)
theorem seg_stmt {st : Stmt} {rest : List Stmt}
    (h : wpAny (model prog w) (A.over c fs) (exec st env) (fun f s' => f = .next ∧ Seg (model prog w) A R Y n s₀ c ((execs rest env).wrap K H gd lv) fs s') (fun e s' => Seg (model prog w) A R Y n s₀ c (H e) fs s') s) :
    Seg (model prog w) A R Y n s₀ c ((execs (st :: rest) env).wrap K H gd lv) fs s := by
  refine seg_execs_cons (seg_wrap (wpAny_mono h (fun f s' hf => ?_) fun _ _ x => x))
  obtain ⟨rfl, hf⟩ := hf
  exact hf
end
end Mine
end
section
open PySem PySem.W PyProof.Rows PySem.Spec PySem.Calls
set_option maxRecDepth 100000
namespace Mine
theorem ne_bind (self : Value) : bindSpecial (.builtin "object.__ne__") self = pure (.builtin "object.__ne__", [self]) := F.cmp_object.ne.bind self
section
variable {prog : Program} {w : World} {A : Around} {E : Value → Shared → Prop} {s : Shared} {K : Frag} {x C L f : Addr} {h₀ : Heap} {m : Str → Option Value} {ox : Obj} {od : Option Obj} {b : Value}
theorem ne_ref {Q : Value → Shared → Prop} (hu : A.in1.units < cLine) (F : Fr h₀ L s.heap m) (X₀ : K.In h₀) (I : InstAt s.heap x ox C od) (hb : Looks (model prog w) s.heap (typeOf b) (.ref C))
    (hn : findIn K (.ref C) "__ne__" = some (some (.builtin "object.__ne__"))) (hsub : subIn K (.ref C) (.type "object") = some true)
    (hs : findIn K (.ref C) "__eq__" = some (some (.ref f))) (hf : isFn K (.ref f) = true)
    (h : wpAny (model prog w) A.in1 (call (.ref f) [.ref x, b]) (fun v s' => ∃ r, v = .bool r ∧ Q (.bool (!r)) s') E s) : wpAny (model prog w) A (richCompare .NotEq (.ref x) b) Q E s := by
  have X := X₀.keeps F.keep
  have hu0 : A.units < cLine := Nat.lt_of_le_of_lt (Nat.le_succ _) hu
  have entry : wpAny (model prog w) A.in1 (Builtin.«object.__ne__» ⟨[.ref x, b], []⟩) (fun fin s' => ∃ v, fin = .done (.ret v) ∧ ∃ r, v = .bool r ∧ Q (.bool r) s') E s := by
    show wpAny _ _ (cRoomFor "comparison" [.ref x, b] >>= fun _ => callSpecialIfBound? (.ref x) "__eq__" [b] >>= fun r => _) _ _ _
    refine wpAny_bind (wpAny_cRoomFor hu (wpAny_bind (ifBound_K X I hs hf (wpAny_mono h (fun v s' hv => ?_) fun _ _ e => e))))
    obtain ⟨r, rfl, hq⟩ := hv
    cases r
    · exact wpAny_bind (wpAny_pure (wpAny_pure ⟨_, rfl, _, rfl, hq⟩))
    · exact wpAny_bind (wpAny_pure (wpAny_pure ⟨_, rfl, _, rfl, hq⟩))
  have called : wpAny (model prog w) A (call (.builtin "object.__ne__") [.ref x, b]) (fun v s' => ∃ r, v = .bool r ∧ Q (.bool r) s') E s := by
    refine wpAny_call (codeAny_call_builtin PySem.F.cmp_object.ne.plain PySem.F.cmpEntry_ne (@check_slot (model prog w) _ _ _ "object.__ne__" "object" "__ne__" (.ref x) [b] [] _ PySem.F.cmpKind_ne PySem.F.cmpSplit_ne (I.type.andThen (looks_subIn X hsub)) (PySem.F.cmpArgs_ne _ _) ?_))
    refine wpAny_mono entry (fun fin s' hv => ?_) fun _ _ e => e
    obtain ⟨v, rfl, hq⟩ := hv
    exact hq
  have one : wpAny (model prog w) A (tryCompare (.ref x) "__ne__" b) (fun r s' => ∃ v, r = some v ∧ Q v s') E s := by
    unfold tryCompare
    refine wpAny_bind ?_
    simp only [callSpecialIfBound?, bindSpecialIfBound?]
    refine wpAny_holding (wpAny_bind (wpAny_bind (wpAny_bind (I.type.here ((looks_findIn X hn).here ?_)))))
    refine wpAny_bind (wpAny_askSetting (wpAny_ite ?_))
    have fin : wpAny (model prog w) A (call (.builtin "object.__ne__") ([.ref x] ++ [b]) >>= fun v => pure (some v)) (fun r s' => wpAny (model prog w) A (match r with | some .notImplemented | none => pure none | some v => pure (some v)) (fun r s' => ∃ v, r = some v ∧ Q v s') E s') E s := by
      refine wpAny_bind (wpAny_mono called (fun v s' hv => ?_) fun _ _ e => e)
      obtain ⟨r, rfl, hq⟩ := hv
      exact wpAny_pure (wpAny_pure ⟨_, rfl, hq⟩)
    simp only [ne_bind]
    split
    · exact wpAny_bind (wpAny_pure (wpAny_pure fin))
    · exact wpAny_tryCatch (wpAny_bind (wpAny_pure (wpAny_pure fin)))
  unfold richCompare
  simp only [oneThing_ref]
  refine wpAny_holding (wpAny_bind (wpAny_cRoomFor hu0 ?_))
  refine wpAny_bind (I.type.here (wpAny_bind (hb.here ?_)))
  simp only [bne_self_eq_false, Bool.false_eq_true, if_false]
  refine wpAny_bind (wpAny_pure ?_)
  simp only [Bool.false_eq_true, if_false]
  refine wpAny_bind (wpAny_mono one (fun r s' z => ?_) fun _ _ e => e)
  obtain ⟨v, rfl, hq⟩ := z
  exact wpAny_pure hq
end
end Mine
end
section
open PySem PySem.W PyProof.Rows PySem.Spec PySem.Calls
set_option maxRecDepth 100000
namespace Mine
section
variable {prog : Program} {w : World} {A : Around} {E : Value → Shared → Prop} {s : Shared} {h₀ : Heap} {L D : Addr} {m : Str → Option Value} {news rest : List (Addr × Obj)} {n : Nat} {p : Program} {loose : List Str} {mean : ExcName → Option Value} {mg mb : Str → Option Value}
theorem dict_new {env : Env} {pos : Pos} {Q : Value → Shared → Prop} (F : Fr h₀ L s.heap m) (N : News h₀ L s.heap news) (T : Top p loose mean mg mb h₀)
    (h : ∀ d h', Fr h₀ L h' m → News h₀ L h' ((d, dictOf [] 0) :: news) → (∀ q ∈ news, q.1 < d) → (d == sysModules) = false → Q (.ref d) { s with heap := h' }) :
    wpAny (model prog w) A (eval (.Dict [] [] pos) env) Q E s :=
  wpAny_Dict_empty (h _ _ (F.push _) (News.push F N _) (fun q hq => Heap.lt_size (N q hq).1) (F.notModules (modules_low T.nolimit)))
theorem pop_at {p : List Value} {y : Value} {Q : Value → Shared → Prop} (F : Fr h₀ L s.heap m) (N : News h₀ L s.heap news) (U : Upd D (listOf (p ++ [y]).toArray n) (listOf p.toArray (n + 1)) news rest) (hz : p.length ≤ 1000)
    (h : ∀ h', Fr h₀ L h' m → News h₀ L h' rest → Q y { s with heap := h' }) : wpAny (model prog w) A (call (.builtin "list.pop") [.ref D]) Q E s :=
  kl_pop F N (p := p) (y := y) (by simpa using kpa_last y p) U (by rw [sizeLine_eq]; simp; exact Mine.r191 hz) h
theorem truthy_at {l : Addr} {items : Array Value} {Q : Bool → Shared → Prop} (N : News h₀ L s.heap news) (hm : (l, listOf items n) ∈ news) (hz : items.size ≤ 1000)
    (h : ∀ tk, Q (!items.isEmpty) { s with toks := tk }) : wpAny (model prog w) A (truthy (.ref l)) Q E s :=
  wpAny_truthy_list (News.isList N hm) (by omega) (h _)
end
end Mine
end
section
open PySem PySem.W PyProof.Rows PySem.Spec PySem.Calls
set_option maxRecDepth 100000
namespace Mine
section
variable {prog : Program} {w : World} {A : Around} {E : Value → Shared → Prop} {s : Shared} {K : Frag} {x C L f : Addr} {h₀ : Heap} {m : Str → Option Value} {ox : Obj} {od : Option Obj} {name : Str} {es : List DictEntry} {n : Nat} {v : Value}
theorem findObj_shadow {a g : Value} {o : Obj} (hh : hasDictIn K C = true) (ha : findIn K (.ref C) name = some (some a)) (hg : specialIn K a "__get__" = some (some g)) (ht : takesIn K a = some false) (hl : lookIn name o = some (some v)) :
    findObj K C (some o) name = some (.value v) := by
  obtain ⟨cd, hc, hd⟩ := any_some hh
  unfold findObj
  have ho : PySem.W.ownOf cd (some o) name = some (some v) := by unfold PySem.W.ownOf; rw [if_pos hd]; exact hl
  rw [hc, Option.bind_some, ha, Option.bind_some]
  simp [hg, ht, ho]
theorem method_shadow {pl : Sem Bool} {Q : Value × List Value → Shared → Prop} {f : Addr} {g : Value} (F : Fr h₀ L s.heap m) (X₀ : K.In h₀) (I : InstAt s.heap x ox C (some (dictOf es n))) (hg : plainGet K C name = true) (hh : hasDictIn K C = true)
    (hf : findIn K (.ref C) name = some (some (.ref f))) (ht : isFn K (.ref f) = true) (hgt : specialIn K (.ref f) "__get__" = some (some g)) (htk : takesIn K (.ref f) = some false) (hl : getL name es = some (some v)) (hv : handedIn v = true) (h : Q (v, []) { s with toks := s.toks + 1 }) :
    wpAny (model prog w) A (getMethod (.ref x) name pl) Q E s := by
  have X := X₀.keeps F.keep
  have hlk : lookIn name (dictOf es n) = some (some v) := by rw [lookIn_dict, hl]
  have hcan := PySem.F.canon_object_ga
  have u : wpAny (model prog w) A (do return (← getAttr (.ref x) name, ([] : List Value))) Q E s :=
    wpAny_bind (get_value X I (plainGet_of hg).1 (findObj_shadow hh hf hgt htk hlk) hv (wpAny_pure h))
  unfold getMethod specialOf
  refine wpAny_bind (wpAny_bind (I.type.here ((looks_findIn X (plainGet_of hg).1).here ?_)))
  dsimp only
  rw [hcan, if_neg (by decide)]
  refine wpAny_bind (wpAny_bind (I.type.here ((looks_findIn X (plainGet_of hg).2).here ?_)))
  refine wpAny_bind (wpAny_bind (I.type.here ((looks_findIn X hf).here (wpAny_bind ((looks_typeIn X (beq_iff_eq.mp ht)).here ?_)))))
  rw [if_neg (by decide +kernel)]
  refine wpAny_bind (wpAny_loadPart I.at_ ?_)
  have hd := I.dict
  cases e : ox.dict with
  | none => rw [e] at hd; exact hd.elim
  | some dx =>
    rw [e] at hd
    refine wpAny_bind (wpAny_bind (wpAny_loadPart hd ?_))
    rw [nsLook_of hlk]
    refine wpAny_pure ?_
    exact u
end
end Mine
end
section
open PySem PySem.W PyProof.Rows
local macro_rules | `(tactic| walk_at "mine pad") => `(tactic| k_all)
local macro_rules | `(tactic| walk_at $s) => if ("|exec While Name cons nil|exec While|call builtin:list.append|call builtin:dict.values|call builtin:sorted|truthy ref|call builtin:list.pop|call builtin:dict.get|call ref|setItem ref ref|delItem ref ref|compareOp NotEq ref ref|WPost|".splitOn ("|" ++ s.getString ++ "|")).length == 1 then Lean.Macro.throwUnsupported else `(tactic| kwk_ne)
local macro_rules | `(tactic| walk_at "getMethod ref") => `(tactic| (k_here; (with_reducible show wpAny _ _ (getMethod (Value.ref _) (PySem.Str.ofString "supernet") _) _ _ _); k_dflt (refine' Mine.method_shadow ?k1 ?k2 ?k3 ?k4 ?k5 ?k6 ?k7 ?k8 ?k9 ?ka ?kb ?_; (case k1 => k_asm); (case k2 => k_asm); (case k3 => k_inst); (case k4 => k_is); (case k5 => k_is); (case k6 => k_is); (case k7 => k_is); (case k8 => k_is); (case k9 => k_is); (case ka => k_get); (case kb => k_handed); k_whole)))
local macro_rules | `(tactic| walk_at "getMethod ref") => `(tactic| (k_here; (with_reducible show wpAny _ _ (getMethod (Value.ref _) (PySem.Str.ofString "get") _) _ _ _); kwk_ne))
local macro_rules | `(tactic| walk_at "callWith") => `(tactic| ((with_reducible show wpAny _ _ (callWith _ (Value.ref _, []).fst _ _ _) _ _ _); kwk_ne))
local macro_rules | `(tactic| walk_at "getMethod ref") => `(tactic| (k_here; (with_reducible show wpAny _ _ (getMethod (Value.ref _) (PySem.Str.ofString "values") _) _ _ _); kwk_ne))
local macro_rules | `(tactic| walk_at "eval Dict nil nil") => `(tactic| (k_here; k_dflt (refine' Mine.dict_new ?F ?N ?T ?_; (case F => k_asm); (case N => k_asm); (case T => k_asm); k_whole); intro d' h' F' N' l1 e1; (try k_lt l1); (try k_sweep)))
namespace Mine
theorem two_names {h₀ h : Heap} {L a b : Addr} {o1 o2 : Obj} {LED : List (Addr × Obj)} (_ : News h₀ L h ((a, o1) :: (b, o2) :: LED)) : ∃ a' b', a' = a ∧ b' = b := ⟨_, _, rfl, rfl⟩
theorem add_two {h₀ h : Heap} {L : Addr} {a b : Addr × Obj} {LED : List (Addr × Obj)} (N : News h₀ L h LED) (ha : a ∈ LED) (hb : b ∈ LED) : News h₀ L h (a :: b :: LED) := fun p hp => by
  rcases List.mem_cons.mp hp with rfl | hp
  · exact N _ ha
  rcases List.mem_cons.mp hp with rfl | hp
  · exact N _ hb
  exact N _ hp
theorem drop_two {h₀ h : Heap} {L : Addr} {a b : Addr × Obj} {LED : List (Addr × Obj)} (N : News h₀ L h (a :: b :: LED)) : News h₀ L h LED := fun p hp => N p (.tail _ (.tail _ hp))
theorem raised_mono {base h₀ h : Heap} {L : Addr} {m : Str → Option Value} {l : List Env} {e : Addr} {cls : Value} {a b : List (Addr × Obj)} (R : RaisedAt base h₀ L m l e cls a h) (i : ∀ p ∈ b, p ∈ a) : RaisedAt base h₀ L m l e cls b h := by
  obtain ⟨G, FG, ⟨B, a0, hB, hBG, hl, hfl⟩, hu, hf⟩ := R
  exact ⟨G, FG, ⟨B, a0, hB, hBG, fun q hq => hl q (i q hq), hfl⟩, hu, hf⟩
theorem vals_eq {C : Addr → Int} {X : Wd → Addr} {sub : List (Wd × Wd)} {vs : List Value} (hl : vs.length = (ents C (pairs X sub)).toArray.size) (hv : ∀ (j : Nat) (v : Value), vs[j]? = some v → ∃ e, (ents C (pairs X sub)).toArray[j]? = some e ∧ v = e.val) :
    vs = sub.map fun p => Value.ref (X p.2) := by
  apply List.ext_getElem?
  intro j
  rw [List.getElem?_map]
  have hl' : vs.length = sub.length := by rw [hl, ents_size, List.length_map]
  cases q : vs[j]? with
  | none =>
    have : sub.length ≤ j := by rw [← hl']; exact List.getElem?_eq_none_iff.mp q
    rw [List.getElem?_eq_none this]; rfl
  | some v =>
    obtain ⟨e, he, rfl⟩ := hv j v q
    rw [ents_at, List.getElem?_map] at he
    cases z : sub[j]? with
    | none => rw [z] at he; simp at he
    | some p => rw [z] at he; simp at he; rw [← he]; rfl
theorem tail_name {h₀ h : Heap} {L : Addr} {a : Addr × Obj} {LED : List (Addr × Obj)} (N : News h₀ L h (a :: LED)) : ∃ LED', LED' = LED ∧ News h₀ L h (a :: LED') := ⟨_, rfl, N⟩
theorem fr_but {g h h' : Heap} {L S : Addr} {m : Str → Option Value} (F : Fr g L h m) (h1 : S ≠ L) (h2 : g.get? S = none) (he : ∀ b o, b ≠ S → h.get? b = some o → h'.get? b = some o) : Fr g L h' m :=
  ⟨F.ns.at' fun o e => he _ _ (fun z => h1 z.symm) e, fun b o e => he _ _ (fun z => by rw [z, h2] at e; cases e) (F.keep b o e), F.above⟩
theorem news_but {g h h' : Heap} {L S : Addr} {oS oS2 : Obj} {LED : List (Addr × Obj)} (N : News g L h ((S, oS) :: LED)) (off : ∀ p ∈ LED, p.1 ≠ S) (hS : h'.get? S = some oS2) (he : ∀ b o, b ≠ S → h.get? b = some o → h'.get? b = some o) : News g L h' ((S, oS2) :: LED) := fun p hp => by
  rcases List.mem_cons.mp hp with rfl | hp
  · exact ⟨hS, (N _ (.head _)).2⟩
  · exact ⟨he _ _ (off p hp) (N p (.tail _ hp)).1, (N p (.tail _ hp)).2⟩
noncomputable abbrev mf (m1 : Str → Option Value) (TM SN : Addr) (on os oe : Option Value) : Str → Option Value := fun y =>
  if y = Str.ofString "existing" then oe else if y = Str.ofString "supernet" then os else if y = Str.ofString "net" then on else if y = Str.ofString "subnets" then some (.ref SN) else if y = Str.ofString "to_merge" then some (.ref TM) else m1 y
theorem mf_start {m1 : Str → Option Value} {TM SN : Addr} (e1 : m1 (Str.ofString "existing") = none) (e2 : m1 (Str.ofString "supernet") = none) (e3 : m1 (Str.ofString "net") = none) :
    (fun y => if y = Str.ofString "subnets" then some (Value.ref SN) else if y = Str.ofString "to_merge" then some (Value.ref TM) else m1 y) = mf m1 TM SN none none none := by
  have d1 : Str.ofString "existing" ≠ Str.ofString "subnets" := by decide +kernel
  have d2 : Str.ofString "existing" ≠ Str.ofString "to_merge" := by decide +kernel
  have d3 : Str.ofString "supernet" ≠ Str.ofString "subnets" := by decide +kernel
  have d4 : Str.ofString "supernet" ≠ Str.ofString "to_merge" := by decide +kernel
  have d5 : Str.ofString "net" ≠ Str.ofString "subnets" := by decide +kernel
  have d6 : Str.ofString "net" ≠ Str.ofString "to_merge" := by decide +kernel
  funext y
  show _ = if y = Str.ofString "existing" then none else _
  by_cases q1 : y = Str.ofString "existing"
  · subst q1; simp only [d1, d2, if_false, if_true, e1]
  by_cases q2 : y = Str.ofString "supernet"
  · subst q2; simp only [d3, d4, q1, if_false, if_true, e2]
  by_cases q3 : y = Str.ofString "net"
  · subst q3; simp only [d5, d6, q1, q2, if_false, if_true, e3]
  simp only [q1, q2, q3, if_false]
theorem mf_turn {m1 : Str → Option Value} {TM SN : Addr} {on os oe : Option Value} {vn vs ve : Value} :
    (fun y => if y = Str.ofString "existing" then some ve else if y = Str.ofString "supernet" then some vs else if y = Str.ofString "net" then some vn else mf m1 TM SN on os oe y) = mf m1 TM SN (some vn) (some vs) (some ve) := by
  funext y
  show (if y = Str.ofString "existing" then some ve else if y = Str.ofString "supernet" then some vs else if y = Str.ofString "net" then some vn else
    if y = Str.ofString "existing" then oe else if y = Str.ofString "supernet" then os else if y = Str.ofString "net" then on else if y = Str.ofString "subnets" then some (.ref SN) else if y = Str.ofString "to_merge" then some (.ref TM) else m1 y) =
    (if y = Str.ofString "existing" then some ve else if y = Str.ofString "supernet" then some vs else if y = Str.ofString "net" then some vn else if y = Str.ofString "subnets" then some (.ref SN) else if y = Str.ofString "to_merge" then some (.ref TM) else m1 y)
  by_cases q1 : y = Str.ofString "existing"
  · rw [if_pos q1, if_pos q1]
  by_cases q2 : y = Str.ofString "supernet"
  · simp only [if_neg q1, if_pos q2]
  by_cases q3 : y = Str.ofString "net"
  · simp only [if_neg q1, if_neg q2, if_pos q3]
  simp only [if_neg q1, if_neg q2, if_neg q3]
structure WNew (w : World) (ND LA : Addr) (σ τ : WS) (rest : List (Addr × Obj)) : Prop where
  ok : WOk w ND LA τ
  ext : Ext σ τ
  new : ∀ p ∈ τ.G, p ∈ σ.G ∨ ∀ q ∈ rest, @LT.lt Nat _ q.1 p.1
inductive Loop (w : World) (ND LA : Addr) (g : Heap) (L' : Addr) (m1 : Str → Option Value) (TM SN D : Addr) (row : List Wd) (zr : Nat) (rest : List (Addr × Obj)) (σ0 : WS) (st0 : CSt) (s : Shared) (n : Nat) (s' : Shared) : Prop
  | mk (st : CSt) (σ : WS) (h : Heap) (tk : Tok) (on os oe : Option Value) (zt zs : Nat) (e1 : n = csize st) (e2 : s' = { s with heap := h, toks := tk }) (e3 : cfin List.dropLast st = cfin List.dropLast st0) (F : Fr g L' h (mf m1 TM SN on os oe))
    (N : News g L' h ((SN, dictOf (ents σ.ha (pairs σ.X st.sub)) zs) :: (TM, W.listOf (refs σ.X st.todo).toArray zt) :: (D, W.listOf (refs σ.X row).toArray zr) :: wled ND LA σ rest))
    (W : WNew w ND LA σ0 σ rest) (h1 : ∀ v ∈ st.todo, σ.dom v) (h2 : ∀ p ∈ st.sub, σ.dom p.1 ∧ σ.dom p.2) (h3 : (st.sub.map (·.1)).Nodup) (h4 : σ.ks.length + csize st ≤ 900) (h5 : ∀ p ∈ st.sub, p.2.dropLast = p.1) (h6 : ∀ p ∈ σ.G, p.1 ≠ SN ∧ p.1 ≠ TM ∧ p.1 ≠ D) (h7 : StrsAre σ.av (st.asked.map wordStr)) (h8 : st.asked.length + csize st ≤ 900)
inductive RGi (w : World) (ND LA : Addr) (base h₀ g : Heap) (L L' : Addr) (m : Str → Option Value) (l : List Env) (st : CSt) (S : Addr) (oS : Obj) (rest : List (Addr × Obj)) (σ0 : WS) (n : Nat) (s₀ s₁ : Shared) : Result → Prop
  | err (ex : Addr) (σ : WS) (h1 : n = 1) (h2 : 2 ≤ st.sub.length) (hW : WNew w ND LA σ0 σ rest ∧ StrsAre σ.av (st.asked.map wordStr)) (R : RaisedAt base h₀ L m l ex (.type "TypeError") (wled ND LA σ ((S, oS) :: rest)) s₁.heap) : RGi w ND LA base h₀ g L L' m l st S oS rest σ0 n s₀ s₁ (.error (.ref ex))
  | nil (σ : WS) (m' : Str → Option Value) (h1 : n = 1) (h2 : st.sub = []) (hW : WNew w ND LA σ0 σ rest ∧ StrsAre σ.av (st.asked.map wordStr)) (F : Fr g L' s₁.heap m') (N : News g L' s₁.heap (wled ND LA σ ((S, oS) :: rest))) : RGi w ND LA base h₀ g L L' m l st S oS rest σ0 n s₀ s₁ (.ok (.ret .none))
  | one (σ : WS) (m' : Str → Option Value) (oS2 : Obj) (h0 : n = 0) (e1 : s₀.heap.get? S = some oS2) (e2 : s₀.heap.get? ND = some σ.oN) (hW : WNew w ND LA σ0 σ rest ∧ StrsAre σ.av (st.asked.map wordStr)) (hd : ∀ p ∈ st.sub, σ.dom p.2) (F : Fr g L' s₁.heap m') (N : News g L' s₁.heap (wled ND LA σ ((S, oS2) :: rest))) : RGi w ND LA base h₀ g L L' m l st S oS rest σ0 n s₀ s₁ (.ok (.ret .none))
noncomputable def RG (w : World) (ND LA : Addr) (base h₀ g : Heap) (L L' : Addr) (m : Str → Option Value) (l : List Env) (st : CSt) (S : Addr) (oS : Obj) (rest : List (Addr × Obj)) (σ0 : WS) : GenEnd := fun n s₀ r s₁ =>
  s₁ = { s₀ with heap := s₁.heap, toks := s₁.toks } ∧ RGi w ND LA base h₀ g L L' m l st S oS rest σ0 n s₀ s₁ r
inductive YGi (w : World) (ND LA : Addr) (g : Heap) (L' : Addr) (st : CSt) (S : Addr) (oS : Obj) (rest : List (Addr × Obj)) (σ0 : WS) (n : Nat) (s₀ : Shared) (v : Value) (s₁ : Shared) (kap : Resume → Shared → Prop) : Prop
  | mk (e0 : n = 0) (e1 : s₁ = { s₀ with heap := s₁.heap, toks := s₁.toks }) (k y : Wd) (σ : WS) (m' : Str → Option Value) (e2 : st.sub = [(k, y)]) (e3 : v = .ref (σ.X y)) (hy : σ.dom y) (hW : WNew w ND LA σ0 σ rest ∧ StrsAre σ.av (st.asked.map wordStr)) (F : Fr g L' s₁.heap m') (N : News g L' s₁.heap (wled ND LA σ ((S, oS) :: rest)))
    (go : ∀ s₂ oS2, s₂.heap.get? S = some oS2 → (∀ b o, b ≠ S → s₁.heap.get? b = some o → s₂.heap.get? b = some o) → kap (.send .none) s₂)
noncomputable def YG (w : World) (ND LA : Addr) (g : Heap) (L' : Addr) (st : CSt) (S : Addr) (oS : Obj) (rest : List (Addr × Obj)) (σ0 : WS) : Protocol := YGi w ND LA g L' st S oS rest σ0
noncomputable def GenSeg (w : World) (ND LA : Addr) (base h₀ g : Heap) (L L' : Addr) (m m0 : Str → Option Value) (env : Env) (outer : List Env) (D : Addr) (row : List Wd) (zr : Nat) (code : Code) : Prop :=
  ∀ (dp un : Nat) (gd : Option (List PySem.Code)) (s₀ : Shared) (S : Addr) (oS : Obj) (rest : List (Addr × Obj)) (σ : WS),
    un + 3000 < cLine → dp + 80 < recursionLimit → Fr g L' s₀.heap m0 → News g L' s₀.heap ((D, W.listOf (refs σ.X row).toArray zr) :: wled ND LA σ ((S, oS) :: rest)) → WOk w ND LA σ → (∀ v ∈ row, σ.dom v) → σ.ks.length ≤ 700 → σ.av = [] →
    (∀ p ∈ (S, oS) :: rest, p.1 ≠ 580 ∧ p.1 ≠ ND ∧ p.1 ≠ LA) → (D ≠ 580 ∧ D ≠ ND ∧ D ≠ LA) → (∀ p ∈ σ.G, p.1 ≠ S ∧ p.1 ≠ D) → (∀ p ∈ rest, p.1 ≠ S) → D ≠ S →
    Seg (model P7 w) (atN dp un gd env outer) (RG w ND LA base h₀ g L L' m (env :: outer) (cfin List.dropLast ⟨row, [], []⟩) S oS rest σ) (YG w ND LA g L' (cfin List.dropLast ⟨row, [], []⟩) S oS rest σ) 1 s₀ code ((model P7 w).den code) [] s₀
theorem WNew.weak {w : World} {ND LA : Addr} {σ τ : WS} {a b : List (Addr × Obj)} (h : WNew w ND LA σ τ a) (i : ∀ q ∈ b, q ∈ a) : WNew w ND LA σ τ b :=
  ⟨h.ok, h.ext, fun p hp => (h.new p hp).imp id fun k q hq => k q (i q hq)⟩
theorem wled_in {ND LA : Addr} {σ : WS} {x : Addr × Obj} {rest : List (Addr × Obj)} : ∀ q ∈ wled ND LA σ rest, q ∈ wled ND LA σ (x :: rest) := by
  intro q hq; simp only [List.mem_cons, List.mem_append] at hq ⊢; grind
theorem wled_mid {ND LA : Addr} {σ : WS} {x : Addr × Obj} {rest : List (Addr × Obj)} : ∀ q ∈ wled ND LA σ (x :: rest), q = x ∨ q ∈ wled ND LA σ rest := by
  intro q hq; simp only [List.mem_cons, List.mem_append] at hq ⊢; grind
theorem led_in0 {S T D a b x y z A : Addr × Obj} {G r : List (Addr × Obj)} : ∀ q ∈ (a :: b :: (G ++ A :: (S :: T :: D :: r))), q ∈ (x :: y :: z :: S :: T :: D :: a :: b :: (G ++ A :: r)) := by
  intro q hq; simp only [List.mem_cons, List.mem_append] at hq ⊢; grind
theorem led_out0 {S T D a b A : Addr × Obj} {G r : List (Addr × Obj)} : ∀ q ∈ (S :: T :: D :: a :: b :: (G ++ A :: r)), q ∈ (a :: b :: (G ++ A :: (S :: T :: D :: r))) := by
  intro q hq; simp only [List.mem_cons, List.mem_append] at hq ⊢; grind
set_option maxRecDepth 100000 in
set_option maxHeartbeats 8000000 in
theorem gen_spec (w : World) {ND LA : Addr} {mean : ExcName → Option Value} {mg mb : Str → Option Value} {D : Addr} {dp un : Nat} {gd : Option (List Code)} {env : Env} {outer : List Env} {A₀ : Around} {base h₀ : Heap} {L : Addr} {m : Str → Option Value}
    {row : List Wd} {rowv : List Value} {zr : Nat} {rest : List (Addr × Obj)} {s : Shared} {Q E : Value → Shared → Prop} {loose : List Str} {pgm : Program}
    (B : Below A₀ base outer h₀) (F : Fr h₀ L s.heap m) (XK : (hd.heap_1 w.params).In h₀) (N : News h₀ L s.heap ((D, W.listOf rowv.toArray zr) :: rest))
    (T : Top pgm loose mean mg mb h₀) (hfX : env.frame = some L) (hk : env.scope.kind = .function) (hlen : row.length ≤ 60) (CH : CodeHd h₀ 584 580) (hlo : (ND == sysModules) = false) (hlt : @LT.lt Nat _ 580 ND)
    (hdp : dp + 100 < recursionLimit) (hu : un + 4000 < cLine)
    (rS : ∀ g L' h1 t1 t2 tk1 m0 code, Fr h₀ L g m → Fr g L' h1 m0 → News g L' h1 ((D, W.listOf rowv.toArray zr) :: rest) → (∀ b o, s.heap.get? b = some o → h1.get? b = some o) → GenSeg w ND LA base h₀ g L L' m m0 env outer D row zr code →
      Q (.ref h1.objs.size) { s with gens := s.gens.push (.fresh code), heap := h1.push (genO s.gens.size (Str.ofString "_collapse_addresses_internal") (Str.ofString "_collapse_addresses_internal") t1 t2), toks := tk1 }) :
    wpAny (model P7 w) (atN dp un gd env outer) (call (.ref 28) [.ref D]) Q E s := by
  have hq : PySem.Challenge.rw_km0038_07 = PySem.Challenge.rw_km0038_07 ∧ hd.heap_1 = hd.heap_1 := ⟨rfl, rfl⟩
  revert hq
  k_fill
  intro hq
  w_on
  refine wpAny_call ?_
  k_dflt (refine' Mine.gen_def ?k1 ?k2 ?k3 ?k4 ?k5 ?kA ?kF ?kK ?k6 ?k7 ?k8 ?k9 ?kB ?_ ?c2 ?c3 ?c4 ?c5; (case kA => exact rfl); (case kF => exact hfX); (case kK => exact hk); (case k1 => k_asm); (case k2 => k_asm); (case k3 => k_asm); (case k4 => k_asm); (case k5 => k_asm); (case k6 => k_is); (case k7 => k_is); (case k8 => k_room); (case k9 => first | exact BindsTo.of_eq rfl | exact binds_K (by k_in) rfl (by k_is) rfl rfl rfl); (case c5 => decide); (case kB => exact locs rfl); (case c2 => exact rfl); (case c3 => exact rfl); (case c4 => exact rfl); k_whole; intro g' L' h1 t1 t2 tk1 FG' F1 N1 B' X' T' hkp hL'; (try dsimp only); (try k_lift B'); (try k_fold))
  refine rS g' L' h1 t1 t2 tk1 _ _ FG' F1 N1 hkp ?_
  clear hkp F1 N1 rS F N
  intro dp un gd s₀ S oS rest3 σ0 hun hdp2 F0 N0 O0 hrow hks hav0 hoff hDA hGS hoffS hDS
  obtain ⟨RR, hRR⟩ : ∃ RR, RR = RG w ND LA base h₀ g' L L' m (env :: outer) (cfin List.dropLast ⟨row, [], []⟩) S oS rest3 σ0 := ⟨_, rfl⟩
  obtain ⟨YY, hYY⟩ : ∃ YY, YY = YG w ND LA g' L' (cfin List.dropLast ⟨row, [], []⟩) S oS rest3 σ0 := ⟨_, rfl⟩
  rw [← hRR, ← hYY]
  have hrest : ∃ rest2, rest2 = (S, oS) :: rest3 := ⟨_, rfl⟩
  obtain ⟨rest2, hR2⟩ := hrest
  rw [← hR2] at N0 hoff
  have hoffSx : ∀ σ, WNew w ND LA σ0 σ rest2 → ∀ p ∈ wled ND LA σ rest3, p.1 ≠ S := by
    intro σ W
    have z1 : ND ≠ S := fun z => (hoff (S, oS) (by rw [hR2]; exact .head _)).2.1 z.symm
    have z3 : LA ≠ S := fun z => (hoff (S, oS) (by rw [hR2]; exact .head _)).2.2 z.symm
    have z2 : 580 ≠ S := fun z => (hoff (S, oS) (by rw [hR2]; exact .head _)).1 z.symm
    simp only [List.forall_mem_cons, List.forall_mem_append]
    refine ⟨z1, z2, fun p hp => ?_, z3, hoffS⟩
    rcases W.new p hp with h | h
    · exact (hGS p h).1
    · exact (Nat.ne_of_lt (h (S, oS) (by rw [hR2]; exact .head _))).symm
  refine seg_func' ?_
  refine seg_stmt (wpAny_mono (E := fun _ _ => False) (?_ : wpAny _ (atN (dp + 1) (un + 3) gd (envOf (Str.ofString "_collapse_addresses_internal") _ L' 28 (Value.ref 27)) (env :: outer)) _ (fun f s' => _) _ _) (fun f s' h' => h') fun _ _ h' => h'.elim)
  w_strict k_steps
  rename And _ _ => lT
  refine seg_stmt (wpAny_mono (E := fun _ _ => False) (?_ : wpAny _ (atN (dp + 1) (un + 3) gd (envOf (Str.ofString "_collapse_addresses_internal") _ L' 28 (Value.ref 27)) (env :: outer)) _ (fun f s' => _) _ _) (fun f s' h' => h') fun _ _ h' => h'.elim)
  w_strict k_steps
  refine seg_stmt (wpAny_mono (E := fun _ _ => False) (?_ : wpAny _ (atN (dp + 1) (un + 3) gd (envOf (Str.ofString "_collapse_addresses_internal") _ L' 28 (Value.ref 27)) (env :: outer)) _ (fun f s' => _) _ _) (fun f s' h' => h') fun _ _ h' => h'.elim)
  rename Fr g' L' _ _ => F2
  rename News g' L' _ _ => N2
  rw [mf_start (by rfl) (by rfl) (by rfl)] at F2
  have F3 : ∃ m1, Fr g' L' _ (mf m1 _ _ none none none) := ⟨_, F2⟩
  clear F2
  obtain ⟨m1, F2⟩ := F3
  rename And _ _ => l1
  obtain ⟨SN, TM, eS, eT⟩ := two_names N2
  subst eS
  subst eT
  have rS1 : ∀ p ∈ rest2, @LT.lt Nat _ p.1 SN := fun p hp1 => allLt_get l1.2.2.2.2 p (List.mem_append_right _ (.tail _ hp1))
  have rT1 : ∀ p ∈ rest2, @LT.lt Nat _ p.1 TM := fun p hp1 => allLt_get lT.2.2.2 p (List.mem_append_right _ (.tail _ hp1))
  have lSA : @LT.lt Nat _ LA SN := allLt_get l1.2.2.2.2 (lA LA σ0) (List.mem_append_right _ (.head _))
  have lTA : @LT.lt Nat _ LA TM := allLt_get lT.2.2.2 (lA LA σ0) (List.mem_append_right _ (.head _))
  have off1 : ∀ (oT : Obj) (σ : WS), (∀ p ∈ σ.G, p.1 ≠ SN ∧ p.1 ≠ TM ∧ p.1 ≠ D) → ∀ p ∈ (TM, oT) :: (D, W.listOf (refs σ.X row).toArray zr) :: wled ND LA σ rest2, p.1 ≠ SN := by
    intro oT σ hG
    have z1 := Nat.ne_of_lt l1.1
    have z2 := Nat.ne_of_lt l1.2.1
    have z3 := Nat.ne_of_lt l1.2.2.1
    have z4 := Nat.ne_of_lt l1.2.2.2.1
    simp only [List.forall_mem_cons, List.forall_mem_append]
    exact ⟨z1, z2, z3, z4, fun p hp => (hG p hp).1, Nat.ne_of_lt lSA, fun p hp => Nat.ne_of_lt (rS1 p hp)⟩
  have off2 : ∀ (σ : WS), (∀ p ∈ σ.G, p.1 ≠ SN ∧ p.1 ≠ TM ∧ p.1 ≠ D) → ∀ p ∈ (D, W.listOf (refs σ.X row).toArray zr) :: wled ND LA σ rest2, p.1 ≠ TM := by
    intro σ hG
    have z2 := Nat.ne_of_lt lT.1
    have z3 := Nat.ne_of_lt lT.2.1
    have z4 := Nat.ne_of_lt lT.2.2.1
    simp only [List.forall_mem_cons, List.forall_mem_append]
    exact ⟨z2, z3, z4, fun p hp => (hG p hp).2.1, Nat.ne_of_lt lTA, fun p hp => Nat.ne_of_lt (rT1 p hp)⟩
  have hG0 : ∀ p ∈ σ0.G, p.1 ≠ SN ∧ p.1 ≠ TM ∧ p.1 ≠ D := fun p hp1 => ⟨Nat.ne_of_lt (allLt_get l1.2.2.2.2 p (List.mem_append_left _ hp1)), Nat.ne_of_lt (allLt_get lT.2.2.2 p (List.mem_append_left _ hp1)), (hGS p hp1).2⟩
  have hS5 : SN ≠ 580 ∧ SN ≠ ND ∧ SN ≠ LA := ⟨Nat.ne_of_gt l1.2.2.2.1, Nat.ne_of_gt l1.2.2.1, Nat.ne_of_gt lSA⟩
  have hT5 : TM ≠ 580 ∧ TM ≠ ND ∧ TM ≠ LA := ⟨Nat.ne_of_gt lT.2.2.1, Nat.ne_of_gt lT.2.1, Nat.ne_of_gt lTA⟩
  have hTS : @LT.lt Nat _ TM SN := l1.1
  clear l1 lT
  obtain ⟨LP, hLP⟩ : ∃ LP, LP = Loop w ND LA g' L' m1 TM SN D row zr rest2 σ0 ⟨row, [], []⟩ s₀ := ⟨_, rfl⟩
  refine while_ind PassesOwn.never LP ?turn (csize ⟨row, [], []⟩) ?start
  case start =>
    rw [hLP]
    exact ⟨_, σ0, _, _, _, _, _, _, _, rfl, rfl, rfl, F2, N2, ⟨O0, Ext.refl _, fun p hp => .inl hp⟩, hrow, fun p hp => (nomatch hp), .nil, by simp only [csize, List.length_nil]; exact Mine.r430 hlen hks, fun p hp => (nomatch hp), hG0, by rw [hav0]; exact .nil, by simp only [csize, List.length_nil]; exact Mine.r364 hlen⟩
  case turn =>
    clear F2 N2
    intro n s' hI
    rw [hLP] at hI
    obtain ⟨st, σ, h4, tk4, on, os, oe, zt4, zs4, rfl, rfl, hfin, F4, N4, W4, htd, hsb, hnd, hl4, hkv, hGo, hAS, hAL⟩ := hI
    have O4 := W4.ok
    obtain ⟨todo, sub, asked4⟩ := st
    dsimp only at hfin N4 htd hsb hnd hl4 hkv hAS hAL
    have W3 : WNew w ND LA σ0 σ rest3 := W4.weak (by rw [hR2]; exact fun q hq => .tail _ hq)
    have hoffS2 : ∀ p ∈ wled ND LA σ rest3, p.1 ≠ S := hoffSx σ W4
    have hz1 : 2 * todo.length + sub.length + σ.ks.length ≤ 900 := by simp only [csize] at hl4; exact Mine.r443 hl4
    w_strict k_steps
    unfold Stop
    refine truthy_at N4 (.tail _ (.head _)) (by rw [List.size_toArray, List.length_map]; exact Mine.r340 hz1) fun tk5 => ?_
    rcases List.eq_nil_or_concat todo with rfl | ⟨p, v, rfl⟩
    · have hb : (!(refs σ.X ([] : List Wd)).toArray.isEmpty) = false := by simp
      rw [hb]
      dsimp only [WhlIf]
      w_strict k_steps
      rw [← hfin, cfin_done (by rfl)] at hRR hYY
      clear hLP
      refine seg_stmt (wpAny_mono (E := fun _ _ => False) (?_ : wpAny _ (atN (dp + 1) (un + 3) gd (envOf (Str.ofString "_collapse_addresses_internal") _ L' 28 (Value.ref 27)) (env :: outer)) _ (fun f s' => _) _ _) (fun f s' h' => h') fun _ _ h' => h'.elim)
      w_strict k_steps
      refine seg_execs_cons (seg_For ?_)
      show wpAny _ (atN (dp + 1) (un + 3) gd (envOf (Str.ofString "_collapse_addresses_internal") _ L' 28 (Value.ref 27)) (env :: outer)) _ _ _ _
      w_strict k_steps
      unfold Stop
      rename Fr g' L' _ _ => F30
      rename News g' L' _ _ => N30
      refine getMethod_builtin ⟨_, (N30 _ (.head _)).1, rfl⟩ PySem.F.plainAttrs_dict PySem.F.slot_dict_values PySem.F.type_dict_values (fun a e => by cases e; exact ⟨_, (N30 _ (.head _)).1, rfl⟩) ?_
      w_strict k_steps
      unfold Stop
      have hD30 : DictHas _ SN (ents σ.ha (pairs σ.X sub)).toArray zs4 := ⟨_, (N30 _ (.head _)).1, rfl, rfl⟩
      refine values_view hD30 (by assumption) ?_
      have N31 := News.push F30 N30 { cls := .type "dict_values", data := .fields #[.ref SN] } rfl
      have F31 := F30.push { cls := .type "dict_values", data := .fields #[.ref SN] }
      have hlt31 : ∀ q ∈ (SN, dictOf (ents σ.ha (pairs σ.X sub)) zs4) :: (TM, W.listOf (refs σ.X []).toArray zt4) :: (D, W.listOf (refs σ.X row).toArray zr) :: wled ND LA σ rest2, @LT.lt Nat _ q.1 _ := fun q hq => Heap.lt_size (N30 q hq).1
      clear F30 hD30
      dsimp only at F31 N31 hlt31 ⊢
      w_strict k_steps
      unfold Stop
      refine kdu_sorted (src_values (es := (ents σ.ha (pairs σ.X sub)).toArray) (ep := zs4) (d := SN)) (by rfl) F31 N31 ⟨⟨_, (N31 _ (.head _)).1, rfl, rfl⟩, ⟨_, (N31 _ (.tail _ (.head _))).1, rfl, rfl⟩⟩ (by rw [ents_size, List.length_map, sizeLine_eq]; exact Mine.r358 hz1) fun B h32 tk32 vs F32 N32 l32 hl32 hv32 => ?_
      have evs := vals_eq hl32 hv32
      subst evs
      clear hl32 hv32 F31 N31 N30
      have off32 := fun p hp => Nat.ne_of_lt (l32 p hp)
      obtain ⟨LED, hLED, N33⟩ := tail_name N32
      rw [← hLED] at off32
      have k7 : ∀ q ∈ σ.G, q ∈ LED := by rw [hLED]; exact fun q hq => .tail _ (.tail _ (.tail _ (.tail _ (.tail _ (.tail _ (List.mem_append_left _ hq))))))
      have k8 : ∀ q ∈ wled ND LA σ rest2, q ∈ LED := by rw [hLED]; exact fun q hq => .tail _ (.tail _ (.tail _ (.tail _ hq)))
      clear N32
      rcases sub with _ | ⟨p1, _ | ⟨p2, more⟩⟩
      · simp only [List.map_nil] at N33
        refine sort_small F32 N33 off32 (by simp) fun h34 n34 F34 N34 => ?_
        refine wpAny_pyIter_list (News.isList N34 (.head _)) ?_
        obtain ⟨N35, off35⟩ := iter_new (l := B) F34 N34
        have F35 := F34.push { cls := .type "list_iterator", data := .fields #[.ref B, .int 0 0] }
        intro pz
        refine seg_turn ?_
        refine wpAny_pyNext_list_end rfl (iter_at N35 rfl rfl) (News.isList N35 (.tail _ (.head _))) (by simp) fun h44 he44 => ?_
        obtain ⟨F45, N45⟩ := iter_end F35 N35 off35 he44
        dsimp only
        refine seg_block_end ?_
        dsimp only
        refine seg_execs_nil ?_
        refine seg_returns ?_
        rw [hRR]
        exact ⟨rfl, .nil σ _ rfl rfl ⟨W3, hAS⟩ F45 fun q hq => N45 q (.tail _ (k8 q (by rw [hR2]; exact hq)))⟩
      · simp only [List.map_cons, List.map_nil] at N33
        refine sort_small F32 N33 off32 (by simp) fun h34 n34 F34 N34 => ?_
        refine wpAny_pyIter_list (News.isList N34 (.head _)) ?_
        obtain ⟨N35, off35⟩ := iter_new (l := B) F34 N34
        have F35 := F34.push { cls := .type "list_iterator", data := .fields #[.ref B, .int 0 0] }
        intro pz
        refine seg_turn ?_
        refine wpAny_pyNext_list_item (iter_at N35 rfl rfl) (News.isList N35 (.tail _ (.head _))) (x := .ref (σ.X p1.2)) (by simp) fun h36 hit36 hs36 => ?_
        obtain ⟨oI, oI1, oI2, F36, N36⟩ := iter_step F35 N35 off35 hit36 hs36
        clear F34 N34 F35 N35 hit36 hs36
        dsimp only
        show wpAny _ (atN (dp + 1) (un + 3) gd (envOf (Str.ofString "_collapse_addresses_internal") _ L' 28 (Value.ref 27)) (env :: outer)) _ _ _ _
        w_strict k_steps
        refine seg_stmt (wpAny_mono (E := fun _ _ => False) (?_ : wpAny _ (atN (dp + 1) (un + 3) gd (envOf (Str.ofString "_collapse_addresses_internal") _ L' 28 (Value.ref 27)) (env :: outer)) _ (fun f s' => _) _ _) (fun f s' h' => h') fun _ _ h' => h'.elim)
        w_strict k_steps
        refine seg_execs_cons (seg_Expr_Yield (by rfl) (by rfl) (by rfl) ?_)
        show wpAny _ (atN (dp + 1) (un + 3) gd (envOf (Str.ofString "_collapse_addresses_internal") _ L' 28 (Value.ref 27)) (env :: outer)) _ _ _ _
        w_strict k_steps
        rename_i kap hkap
        rename Fr g' L' _ _ => F38
        rename News g' L' _ _ => N38
        have k9 : ∀ q ∈ wled ND LA σ ((S, oS) :: rest3), q ∈ LED := by rw [← hR2]; exact k8
        have hSm : (S, oS) ∈ LED := k9 _ (.tail _ (.tail _ (List.mem_append_right _ (.tail _ (.head _)))))
        have hSB : S ≠ B := off32 _ hSm
        have hSI := off35 _ (.tail _ hSm)
        have N39 := N38.perm (fun q hq => .tail _ (.tail _ (k9 q hq)))
        rw [hYY]
        refine ⟨rfl, rfl, p1.1, p1.2, σ, _, rfl, rfl, (hsb p1 (.head _)).2, ⟨W3, hAS⟩, F38, N39, fun s₂ oS2 hS2 hk2 => hkap .none s₂ ?_⟩
        dsimp only at hk2 N39 F38
        have F40 := fr_but F38 (N38 _ (.tail _ (.tail _ hSm))).2.1 (N38 _ (.tail _ (.tail _ hSm))).2.2 hk2
        have N40a := N38.perm (news' := (S, oS) :: (_, oI) :: (B, W.listOf [Value.ref (σ.X p1.2)].toArray n34) :: wled ND LA σ rest3) (fun q hq => by
          rcases List.mem_cons.mp hq with rfl | hq
          · exact .tail _ (.tail _ hSm)
          rcases List.mem_cons.mp hq with rfl | hq
          · exact .head _
          rcases List.mem_cons.mp hq with rfl | hq
          · exact .tail _ (.head _)
          exact .tail _ (.tail _ (k9 _ (wled_in q hq))))
        have N40 := news_but N40a (by
          intro p hp
          rcases List.mem_cons.mp hp with rfl | hp
          · exact fun z => hSI z.symm
          rcases List.mem_cons.mp hp with rfl | hp
          · exact fun z => hSB z.symm
          exact hoffS2 p hp) hS2 hk2
        have hND : s₂.heap.get? ND = some σ.oN := (N40 _ (.tail _ (.tail _ (.tail _ (.head _))))).1
        clear N40a N39 N38 F38
        dsimp only
        refine seg_stmt (wpAny_mono (E := fun _ _ => False) (?_ : wpAny _ (atN (dp + 1) (un + 3) gd (envOf (Str.ofString "_collapse_addresses_internal") _ L' 28 (Value.ref 27)) (env :: outer)) _ (fun f s' => _) _ _) (fun f s' h' => h') fun _ _ h' => h'.elim)
        w_strict k_steps
        rename Fr g' L' _ _ => F42
        rename News g' L' _ _ => N42
        have N43 := N42.perm (news' := (_, oI) :: (B, W.listOf [Value.ref (σ.X p1.2)].toArray n34) :: wled ND LA σ ((S, oS2) :: rest3)) (fun q hq => by
          rcases List.mem_cons.mp hq with rfl | hq
          · exact .tail _ (.head _)
          rcases List.mem_cons.mp hq with rfl | hq
          · exact .tail _ (.tail _ (.head _))
          rcases wled_mid q hq with rfl | hq
          · exact .head _
          exact .tail _ (.tail _ (.tail _ hq)))
        refine seg_execs_nil ?_
        refine seg_again (by rfl) ?_
        refine seg_turn ?_
        refine wpAny_pyNext_list_end rfl (iter_at N43 oI1 oI2) (News.isList N43 (.tail _ (.head _))) (by simp) fun h44 he44 => ?_
        obtain ⟨F45, N45⟩ := iter_end F42 N43 (by
          intro q hq
          rcases List.mem_cons.mp hq with rfl | hq
          · exact off35 _ (.head _)
          rcases wled_mid q hq with rfl | hq
          · exact hSI
          exact off35 _ (.tail _ (k9 _ (wled_in q hq)))) he44
        dsimp only
        refine seg_block_end ?_
        dsimp only
        refine seg_execs_nil ?_
        refine seg_returns ?_
        rw [hRR]
        exact ⟨rfl, .one σ _ oS2 rfl hS2 hND ⟨W3, hAS⟩ (fun p hp => (hsb p hp).2) F45 fun q hq => N45 q (.tail _ hq)⟩
      · simp only [List.map_cons] at N33
        have hp1 := (hsb p1 (.head _)).2
        have hp2 := (hsb p2 (.tail _ (.head _))).2
        have hne : p2.2 ≠ p1.2 := by
          intro z
          have z1 := hkv p1 (.head _)
          have z2 := hkv p2 (.tail _ (.head _))
          rw [z, z1] at z2
          simp [z2] at hnd
        have hc7 : ∀ v, σ.dom v → ∃ d, (σ.X v, instObj 556 d) ∈ LED := fun v hv => by
          obtain ⟨d, _, _, _, _, _, _, _, _, _, _, y1, -⟩ := O4.at' hv
          exact ⟨d, k7 _ y1⟩
        have hl1 := code_lt (O4.len hp1)
        have hl2 := code_lt (O4.len hp2)
        have hw1 := O4.len hp1
        have hw2 := O4.len hp2
        have hcn : code p2.2 ≠ code p1.2 := fun z => hne (code_inj z)
        obtain ⟨dx, qx, pm, ctv, a1, a2, a3, o1, o2, o3, tv, x1, x2, ex2, ex3, x3, -⟩ := O4.at' hp2
        obtain ⟨dy, qy, pm', ctv', a1', a2', a3', o1', o2', o3', tv', y1, y2, ey2, ey3, y3, -⟩ := O4.at' hp1
        have hml : more.length ≤ 900 := by simp only [List.length_cons] at hz1; exact Mine.r435 hz1
        refine' sort_raise (K := hd.heap_1 w.params) (C := 556) (flt := 340) (a := σ.X p2.2) (base := base) (cls := .type "TypeError") (oa := instObj 556 dx) (od := some (netD w.params qx)) ?ru F32 N33 off32 ?rz X' ?rc ?rI ?rs ?rf ?rl ?re
        case ru => k_units
        case rs => k_is
        case rf => k_is
        case rz => rw [List.length_map]; exact Mine.r161 hml
        case rc =>
          intro v hv
          have hh : ∃ q ∈ p1 :: p2 :: more, v = Value.ref (σ.X q.2) := by
            have : v ∈ (p1 :: p2 :: more).map (fun p => Value.ref (σ.X p.2)) := hv
            obtain ⟨q, hq, e⟩ := List.mem_map.mp this
            exact ⟨q, hq, e.symm⟩
          obtain ⟨q, hq, rfl⟩ := hh
          obtain ⟨d, hd⟩ := hc7 q.2 (hsb q hq).2
          exact ⟨_, _, rfl, hd, rfl⟩
        case rI => exact fun h hh => ⟨hh _ (k7 _ x1), rfl, rfl, hh _ (k7 _ x2)⟩
        case rl =>
          intro e1 s E F N k
          exact lt_spec w B' F X' (add_two (add_two N (.tail _ (k7 _ y1)) (.tail _ (k7 _ y2))) (.tail _ (.tail _ (.tail _ (k7 _ x1)))) (.tail _ (.tail _ (.tail _ (k7 _ x2))))) T' (by rfl) (by rfl) (by exact Mine.r14 ex2) (by exact Mine.r101 hl2 ex2) (by exact Mine.r14 ey2) (by exact Mine.r101 hl1 ey2) (by exact Mine.r14 ex3) (by exact Mine.r98 ex3 hw2) (by exact Mine.r14 ey3) (by exact Mine.r98 ey3 hw1) (by exact Mine.r423 ex2 ey2 hcn) (by k_room) (by k_units) fun ex h' tk' R => k ex h' tk' (raised_mono R fun q hq => .tail _ (.tail _ (.tail _ (.tail _ hq))))
        case re =>
          intro ex h' tk' R
          obtain ⟨G, FG, RS, hU, _⟩ := R
          refine seg_raises ?_
          refine leave_onSN (A := atN dp un gd env outer) (g := g') ⟨rfl, B'.stays, B'.frames⟩ FG RS hU fun h9 R9 _ U9 => ?_
          rw [hRR]
          refine ⟨rfl, .err ex σ rfl (by simp) ⟨W3, hAS⟩ (raised_mono ⟨g', FG', R9, U9, fun b hb => ?_⟩ (by rw [← hR2]; exact k8))⟩
          obtain ⟨_, o, ho, _⟩ := B'.frames.mem hb
          exact ⟨o, ho⟩
    · clear hRR hYY
      have hb : (!(refs σ.X (p ++ [v])).toArray.isEmpty) = true := by simp
      simp only [List.concat_eq_append] at *
      rw [hb]
      dsimp only [WhlIf]
      w_strict k_steps
      unfold Stop
      have er : refs σ.X (p ++ [v]) = refs σ.X p ++ [Value.ref (σ.X v)] := by simp [refs]
      rw [er] at N4
      have hv : σ.dom v := htd v (by simp)
      have hp12 : ∀ u ∈ p, σ.dom u := fun u hu => htd u (by simp [hu])
      have hpl : p.length + 1 ≤ 450 := by simp at hz1; exact Mine.r436 hz1
      refine pop_at (p := refs σ.X p) (y := .ref (σ.X v)) F4 N4 (.tail (Nat.ne_of_gt hTS) (.head (off2 _ hGo))) (by rw [List.length_map]; exact Mine.r240 hpl) fun h6 F6 N6 => ?_
      clear F4 N4
      obtain ⟨d, q, pm, ctv, a1, a2, a3, o1, o2, o3, tv, i1, i2, e2, e3, i3, ⟨i4, g4⟩, ⟨i5, g5⟩, i6, g6⟩ := O4.at' hv
      have hvl := O4.len hv
      have hcl := code_lt hvl
      have N7 : News g' L' h6 ((q.f, lamO pm σ.c0 ctv a1 a2 a3) :: (σ.X v, instObj 556 d) :: (d, netD w.params q) :: (SN, dictOf (ents σ.ha (pairs σ.X sub)) zs4) :: (TM, W.listOf (refs σ.X p).toArray (zt4 + 1)) :: (D, W.listOf (refs σ.X row).toArray zr) :: wled ND LA σ rest2) := by
        refine N6.perm fun q hq => ?_
        have k : ∀ q ∈ σ.G, q ∈ (SN, dictOf (ents σ.ha (pairs σ.X sub)) zs4) :: (TM, W.listOf (refs σ.X p).toArray (zt4 + 1)) :: (D, W.listOf (refs σ.X row).toArray zr) :: wled ND LA σ rest2 := fun q hq => .tail _ (.tail _ (.tail _ (.tail _ (.tail _ (List.mem_append_left _ hq)))))
        rcases List.mem_cons.mp hq with rfl | hq
        · exact k _ i3
        rcases List.mem_cons.mp hq with rfl | hq
        · exact k _ i1
        rcases List.mem_cons.mp hq with rfl | hq
        · exact k _ i2
        exact hq
      clear N6
      w_strict k_steps
      unfold Stop
      rename Fr g' L' _ _ => F7
      rename News g' L' _ _ => N8
      (try dsimp only [List.nil_append])
      have N9 : News g' L' _ (wled ND LA σ ((SN, dictOf (ents σ.ha (pairs σ.X sub)) zs4) :: (TM, W.listOf (refs σ.X p).toArray (zt4 + 1)) :: (D, W.listOf (refs σ.X row).toArray zr) :: rest2)) := N8.perm led_in0
      clear N8
      have hoff5 : ∀ p_1 ∈ (SN, dictOf (ents σ.ha (pairs σ.X sub)) zs4) :: (TM, W.listOf (refs σ.X p).toArray (zt4 + 1)) :: (D, W.listOf (refs σ.X row).toArray zr) :: rest2, p_1.1 ≠ 580 ∧ p_1.1 ≠ ND ∧ p_1.1 ≠ LA := by
        simp only [List.forall_mem_cons]
        exact ⟨hS5, hT5, hDA, hoff⟩
      refine sup07 w B' F7 X' N9 O4 hlo hvl (by exact Mine.r341 hz1) (by rw [hAS.length, List.length_map]; omega) (O4.code' hv) i3 i4 i5 i6 g4 g5 g6 T' (by rfl) (by rfl) (CodeHd.keeps CH (Fr.keep FG')) hoff5 hlt ?dp ?un ?rS
      case dp => k_room
      case un => k_units
      intro h10 tk10 τ xu F10 N10 O10 E10 hav hlu hkl gn10
      clear F7 N9 hoff5
      dsimp only

      w_strict k_steps
      unfold Stop
      rename Fr g' L' _ _ => F11
      rename News g' L' _ _ => N11
      have hA' : StrsAre τ.av ((asked4 ++ [v]).map wordStr) := by rw [hav, List.map_append]; exact hAS.append' (.cons _ _ .nil)
      have hB : ∀ n', n' < csize ⟨p ++ [v], sub, asked4⟩ → (asked4 ++ [v]).length + n' ≤ 900 := fun n' hn' => by rw [List.length_append, List.length_singleton]; exact Mine.r390 hn' hAL
      clear hav
      generalize hu9 : List.dropLast v = u at *
      have hux : τ.X u = xu := by rw [WS.X, hlu]; rfl
      have hud : τ.dom u := ⟨xu, hlu⟩
      subst hux
      have hGo' : ∀ p ∈ τ.G, p.1 ≠ SN ∧ p.1 ≠ TM ∧ p.1 ≠ D := by
        intro p hp1
        rcases gn10 p hp1 with h | h
        · exact hGo p h
        · exact ⟨(Nat.ne_of_lt (h _ (.head _))).symm, (Nat.ne_of_lt (h _ (.tail _ (.head _)))).symm, (Nat.ne_of_lt (h _ (.tail _ (.tail _ (.head _))))).symm⟩
      have W10 : WNew w ND LA σ0 τ rest2 := ⟨O10, W4.ext.trans E10, fun p hp1 => by
        rcases gn10 p hp1 with h | h
        · exact W4.new p h
        · exact .inr fun q hq => h q (.tail _ (.tail _ (.tail _ hq)))⟩
      have Hσ := W4.ext
      clear gn10 hGo W4
      replace hp12 : ∀ u ∈ p, τ.dom u := fun u hu => E10.dom (hp12 u hu)
      have hrow' : ∀ v ∈ row, τ.dom v := fun v hv => W10.ext.dom (hrow v hv)
      have hrwx : refs σ.X row = refs τ.X row := refs_ext E10 fun v hv => Hσ.dom (hrow v hv)
      have hpx : refs σ.X p = refs τ.X p := refs_ext E10 fun v hv => htd v (by simp [hv])
      have hex := ents_ext E10 O4 O10 hsb
      have hvx := E10.X hv
      have hvd := E10.dom hv
      replace hsb : ∀ p ∈ sub, τ.dom p.1 ∧ τ.dom p.2 := fun p hp1 => ⟨E10.dom (hsb p hp1).1, E10.dom (hsb p hp1).2⟩
      obtain ⟨d', q', pm', ctv', a1', a2', a3', o1', o2', o3', tv', i1', i2', e2', e3', i3', -⟩ := O10.at' hud
      have hul := O10.len hud
      have hcu := code_lt hul
      have j1 := E10.G _ i1
      have j2 := E10.G _ i2
      have N12 := N11.perm (led_out0 (r := rest2))
      clear N11
      rw [← hvx] at F11 j1
      rw [hex, hpx, hrwx] at N12
      refine getMethod_builtin ⟨_, (N12 _ (.head _)).1, rfl⟩ PySem.F.plainAttrs_dict PySem.F.slot_dict_get PySem.F.type_dict_get (fun a e => by cases e; exact ⟨_, (N12 _ (.head _)).1, rfl⟩) ?_
      w_strict k_steps
      unfold Stop
      dsimp only [List.cons_append, List.nil_append]
      have k6 : ∀ q ∈ τ.G, q ∈ (SN, dictOf (ents τ.ha (pairs τ.X sub)) zs4) :: (TM, W.listOf (refs τ.X p).toArray (zt4 + 1)) :: (D, W.listOf (refs τ.X row).toArray zr) :: wled ND LA τ rest2 := fun q hq => .tail _ (.tail _ (.tail _ (.tail _ (.tail _ (List.mem_append_left _ hq)))))
      have N13 := add_two N12 (k6 _ i1') (k6 _ i2')
      clear N12
      have hH : ∀ q ∈ pairs τ.X sub, τ.ha q.1 = τ.ha (τ.X u) → q.1 = τ.X u := by
        intro q hq e
        obtain ⟨z, hz, rfl⟩ := List.mem_map.mp hq
        have hz1 := (hsb z hz).1
        have e' : hp ((code z.1 : Nat) : Int) 0 = hp ((code u : Nat) : Int) 0 := by rw [← O10.ha_X hz1, ← O10.ha_X hud]; exact e
        show τ.X z.1 = τ.X u
        rw [code_inj (hp_inj8 (code_lt (O10.len hz1)) hcu e')]
      have hr : -2 ^ 63 ≤ τ.ha (τ.X u) ∧ τ.ha (τ.X u) < 2 ^ 63 ∧ τ.ha (τ.X u) ≠ -1 := by rw [O10.ha_X hud]; exact hp_ok8 hcu
      have hnp := pairs_nodup O10.inj hsb hnd
      refine get_ref (H := τ.ha) (K := hd.heap_1 w.params) (C := 556) (f := 354) (k := τ.X u) ?hu F11 N13 X' (InstAt.of_news N13 (.head _) (.tail _ (.head _))) ?hs ?hf hr ?hc (.tail _ (.tail _ (.head _))) (by assumption) hnp hH ?hk
      case hu => k_units
      case hs => k_is
      case hf => k_is
      case hc =>
        intro s Q E F N k
        rw [O10.ha_X hud, ← e2'] at k
        exact hash_spec w B' F X' N T' (by rfl) (by rfl) (by k_room) (by k_units) (fun h' tk' t' F' N' => k h' tk' t' F' N')
      intro h14 tk14 F14 N14
      clear F11 N13
      rw [pairs_lookup O10.inj hud hsb]
      dsimp only
      cases hsl : sub.lookup u with
      | none =>
        simp only [Option.map_none, Option.getD_none]
        w_strict k_steps
        unfold Stop
        rename Fr g' L' _ _ => F15
        rename News g' L' _ _ => N15
        refine set_ref (H := τ.ha) (K := hd.heap_1 w.params) (C := 556) (f := 354) (k := τ.X u) ?shu F15 (drop_two N15) (off1 _ _ hGo') X' (InstAt.of_news N15 (.head _) (.tail _ (.head _))) ?shs ?shf hr ?shc hnp hH ?shz (pairs_notin O10.inj hud hsb hsl) ?shk
        case shu => k_units
        case shs => k_is
        case shf => k_is
        case shz => rw [List.length_map]; exact Mine.r100 hz1
        case shc =>
          intro s Q E F N k
          rw [O10.ha_X hud, ← e2'] at k
          exact hash_spec w B' F X' (add_two N (k6 _ i1') (k6 _ i2')) T' (by rfl) (by rfl) (by k_room) (by k_units) (fun h' tk' t' F' N' => k h' tk' t' F' (drop_two N'))
        intro h16 tk16 F16 N16
        clear F15 N15
        rw [show pairs τ.X sub ++ [(τ.X u, Value.ref (τ.X v))] = pairs τ.X (sub ++ [(u, v)]) by simp [pairs]] at N16
        w_strict k_steps
        unfold Stop
        rename Fr g' L' _ _ => F17
        rw [mf_turn] at F17
        have hst := cstep_none (p := p) (a := asked4) hu9 hsl
        have hnil : (CSt.mk (p ++ [v]) sub asked4).todo ≠ [] := by simp
        have hless := cstep_less (hs := List.dropLast) hnil
        rw [hst] at hless
        rw [hLP]
        refine ⟨_, hless, ⟨p, sub ++ [(u, v)], asked4 ++ [v]⟩, τ, _, _, _, _, _, _, _, rfl, rfl, ?_, F17, N16, W10, hp12, ?_, ?_, ?_, ?_, hGo', hA', hB _ hless⟩
        · rw [← hst, cfin_step hnil]; exact hfin
        · intro q hq
          rcases List.mem_append.mp hq with hq | hq
          · exact hsb q hq
          · rw [List.mem_singleton.mp hq]; exact ⟨hud, hvd⟩
        · simp only [List.map_append, List.map_cons, List.map_nil]
          refine List.nodup_append.mpr ⟨hnd, by simp, ?_⟩
          intro x hx y hy
          rw [List.mem_singleton.mp hy]
          rintro rfl
          obtain ⟨q, hq, hq1⟩ := List.mem_map.mp hx
          have := List.lookup_eq_none_iff.mp hsl q hq
          simp [hq1] at this
        · simp only [csize, List.length_append, List.length_singleton] at hl4 ⊢; exact Mine.r515 hkl hl4
        · intro q hq
          rcases List.mem_append.mp hq with hq | hq
          · exact hkv q hq
          · rw [List.mem_singleton.mp hq]; exact hu9
      | some e =>
        simp only [Option.map_some, Option.getD_some]
        have he : τ.dom e := (hsb _ (lookup_mem hsl)).2
        w_strict k_steps
        unfold Stop
        rename Fr g' L' _ _ => F18
        rename News g' L' _ _ => N18
        obtain ⟨de, qe, pe, ce, b1, b2, b3, q1, q2, q3, te, y1, y2, ye2, ye3, y3, -⟩ := O10.at' he
        have N19 := add_two (add_two (drop_two N18) (k6 _ j1) (k6 _ j2)) (.tail _ (.tail _ (k6 _ y1))) (.tail _ (.tail _ (k6 _ y2)))
        refine cmp_ofNotEq (ne_ref (K := hd.heap_1 w.params) (C := 556) (f := 347) ?eu F18 X' (InstAt.of_news N19 (.head _) (.tail _ (.head _))) (InstAt.type (InstAt.of_news N19 (.tail _ (.tail _ (.head _))) (.tail _ (.tail _ (.tail _ (.head _)))))) ?en ?es ?ee ?ef ?eq)
        case eu => k_units
        case en => k_is
        case es => k_is
        case ee => k_is
        case ef => k_is
        refine eq_spec w B' F18 X' N19 T' (by rfl) (by rfl) (by k_room) (by k_units) fun h20 tk20 F20 N20 => ⟨_, rfl, ?_⟩
        clear F18 N18 N19
        replace N20 := drop_two (drop_two N20)
        by_cases hev : e = v
        · rw [show (!decide (qe.n = q.n)) = false by rw [ye2, e2, hev]; simp]
          w_strict k_steps
          unfold Stop
          rename Fr g' L' _ _ => F17
          rw [mf_turn] at F17
          have hst := cstep_same (p := p) (a := asked4) hu9 (hev ▸ hsl)
          have hnil : (CSt.mk (p ++ [v]) sub asked4).todo ≠ [] := by simp
          have hless := cstep_less (hs := List.dropLast) hnil
          rw [hst] at hless
          rw [hLP]
          refine ⟨_, hless, ⟨p, sub, asked4 ++ [v]⟩, τ, _, _, _, _, _, _, _, rfl, rfl, ?_, F17, N20, W10, hp12, hsb, hnd, ?_, hkv, hGo', hA', hB _ hless⟩
          · rw [← hst, cfin_step hnil]; exact hfin
          · simp only [csize, List.length_append, List.length_singleton] at hl4 ⊢; exact Mine.r505 hkl hl4
        · rw [show (!decide (qe.n = q.n)) = true by rw [ye2, e2]; simp only [Bool.not_eq_true', decide_eq_false_iff_not]; exact fun z => hev (code_inj (Int.ofNat.inj z))]
          w_strict k_steps
          unfold Stop
          rename Fr g' L' _ _ => F21
          rename News g' L' _ _ => N21
          refine del_ref (H := τ.ha) (K := hd.heap_1 w.params) (C := 556) (f := 354) (k := τ.X u) (u := .ref (τ.X e)) ?du F21 N21 (off1 _ _ hGo') X' (InstAt.of_news (add_two N21 (k6 _ i1') (k6 _ i2')) (.head _) (.tail _ (.head _))) ?ds ?df hr ?dc hnp hH ?dz ?dl ?dk
          case du => k_units
          case ds => k_is
          case df => k_is
          case dz => rw [List.length_map]; exact Mine.r100 hz1
          case dl => rw [pairs_lookup O10.inj hud hsb, hsl]; rfl
          case dc =>
            intro s Q E F N k
            rw [O10.ha_X hud, ← e2'] at k
            exact hash_spec w B' F X' (add_two N (k6 _ i1') (k6 _ i2')) T' (by rfl) (by rfl) (by k_room) (by k_units) (fun h' tk' t' F' N' => k h' tk' t' F' (drop_two N'))
          intro h22 tk22 F22 N22
          clear F21 N21
          rw [pairs_filter O10.inj hud hsb] at N22
          w_strict k_steps
          unfold Stop
          dsimp only [List.cons_append, List.nil_append]
          refine append_K F22 N22 (.tail (Nat.ne_of_gt hTS) (.head (off2 _ hGo'))) ?ak ?az
          case az => rw [List.size_toArray, List.length_map, sizeLine_eq]; exact Mine.r276 hpl
          intro h24 F24 N24
          rw [show (refs τ.X p).toArray.push (Value.ref (τ.X u)) = (refs τ.X (p ++ [u])).toArray by simp [refs]] at N24
          w_strict k_steps
          unfold Stop
          rename Fr g' L' _ _ => F17
          rw [mf_turn] at F17
          have hst := cstep_other (p := p) (a := asked4) hu9 hsl hev
          have hnil : (CSt.mk (p ++ [v]) sub asked4).todo ≠ [] := by simp
          have hless := cstep_less (hs := List.dropLast) hnil
          rw [hst] at hless
          rw [hLP]
          refine ⟨_, hless, ⟨p ++ [u], sub.filter (fun q => q.1 != u), asked4 ++ [v]⟩, τ, _, _, _, _, _, _, _, rfl, rfl, ?_, F17, N24, W10, ?_, ?_, ?_, ?_, fun q hq => hkv q (List.mem_filter.mp hq).1, hGo', hA', hB _ hless⟩
          · rw [← hst, cfin_step hnil]; exact hfin
          · intro q hq
            rcases List.mem_append.mp hq with hq | hq
            · exact hp12 q hq
            · rw [List.mem_singleton.mp hq]; exact hud
          · exact fun q hq => hsb q (List.mem_filter.mp hq).1
          · exact hnd.sublist (List.Sublist.map _ List.filter_sublist)
          · have := lookup_len hsl
            simp only [csize, List.length_append, List.length_singleton] at hl4 ⊢; exact Mine.r520 this hkl hl4
end Mine
end
section
open PySem PySem.W PyProof.Rows
namespace Mine
theorem back_news {h₀ g h : Heap} {L L' : Addr} {m m' : Str → Option Value} {news : List (Addr × Obj)} (FG : Fr h₀ L g m) (F : Fr g L' h m') (N : News g L' h news) : Fr h₀ L h m ∧ News h₀ L h news := by
  obtain ⟨oL, es, ep, hL, r⟩ := FG.ns
  refine ⟨⟨⟨oL, es, ep, F.keep _ _ hL, r⟩, fun b o e => F.keep b o (FG.keep b o e), FG.above⟩, fun p hp => ⟨(N p hp).1, fun q => ?_, ?_⟩⟩
  · have := (N p hp).2.2; rw [q, hL] at this; cases this
  · cases q : h₀.get? p.1 with
    | none => rfl
    | some o => have := (N p hp).2.2; rw [FG.keep _ _ q] at this; cases this
theorem pairs_same {prog : Program} {w : World} {K : Type} [DecidableEq K] {knd : PySem.KeyKind prog w K} {es : List DictEntry} {k1 : List (K × Value)} (x : Pairs knd es k1) : ∀ {k2 : List (K × Value)}, Pairs knd es k2 → k1 = k2 := by
  induction x with
  | nil => intro k2 y; cases y; rfl
  | cons h1 e1 r1 ih =>
    intro k2 y
    cases y with
    | cons h2 e2 r2 =>
      rw [ih r2, Prod.ext (knd.inj _ _ _ h1 h2) (e1.symm.trans e2)]
theorem X_same {w : World} {ND LA : Addr} {σ τ : WS} (O : WOk w ND LA σ) (O' : WOk w ND LA τ) (e : σ.oN = τ.oN) {v : Wd} : σ.X v = τ.X v := by
  obtain ⟨es, ep, _, h1, _, h2, _⟩ := O.dict
  obtain ⟨es', ep', _, h1', _, h2', _⟩ := O'.dict
  rw [e, h1'] at h1
  cases h1
  have hk := pairs_same h2 h2'
  have a1 := kvs_look (ks := σ.ks) (v := v)
  have a2 := kvs_look (ks := τ.ks) (v := v)
  rw [hk, a2] at a1
  unfold WS.X
  cases q : σ.ks.lookup v <;> cases z : τ.ks.lookup v <;> rw [q, z] at a1 <;> simp at a1
  · rw [a1]
theorem led_gen {S D a b A : Addr × Obj} {G r : List (Addr × Obj)} : ∀ q ∈ (D :: a :: b :: (G ++ A :: (S :: r))), q ∈ (S :: D :: a :: b :: (G ++ A :: r)) := by
  intro q hq; simp only [List.mem_cons, List.mem_append] at hq ⊢; grind
theorem led_back {S a b g A : Addr × Obj} {G r : List (Addr × Obj)} : ∀ q ∈ (S :: a :: b :: (G ++ A :: r)), q ∈ (a :: b :: (G ++ A :: (S :: g :: r))) := by
  intro q hq; simp only [List.mem_cons, List.mem_append] at hq ⊢; grind
set_option maxRecDepth 100000 in
set_option maxHeartbeats 4000000 in
theorem list_spec (w : World) {ND LA : Addr} {σ : WS} {mean : ExcName → Option Value} {mg mb : Str → Option Value} {D ga : Addr} {gi : Nat} {dp un : Nat} {gd : Option (List Code)} {env : Env} {outer : List Env} {base h₀ g : Heap} {L L' : Addr} {m m0 : Str → Option Value}
    {row : List Wd} {zr : Nat} {rest : List (Addr × Obj)} {s : Shared} {Q E : Value → Shared → Prop} {loose : List Str} {pgm : Program} {code : Code} {t1 t2 : Tok} {nm qn : Str}
    (FG : Fr h₀ L g m) (F : Fr g L' s.heap m0) (T : Top pgm loose mean mg mb g) (N : News g L' s.heap ((D, W.listOf (refs σ.X row).toArray zr) :: wled ND LA σ ((ga, genO gi nm qn t1 t2) :: rest)))
    (G : GenSeg w ND LA base h₀ g L L' m m0 env outer D row zr code) (hgs : s.gens[gi]? = some (.fresh code)) (O : WOk w ND LA σ) (hrow : ∀ v ∈ row, σ.dom v) (hks : σ.ks.length ≤ 700) (hav : σ.av = [])
    (hoff : ∀ p ∈ (ga, genO gi nm qn t1 t2) :: rest, p.1 ≠ 580 ∧ p.1 ≠ ND ∧ p.1 ≠ LA) (hDA : D ≠ 580 ∧ D ≠ ND ∧ D ≠ LA) (hGD : ∀ p ∈ σ.G, p.1 ≠ D)
    (hdp : dp + 100 < recursionLimit) (hu : un + 4000 < cLine)
    (one : ∀ k y S h' tk' τ c, (cfin List.dropLast ⟨row, [], []⟩).sub = [(k, y)] → τ.dom y → WNew w ND LA σ τ rest → StrsAre τ.av ((cfin List.dropLast ⟨row, [], []⟩).asked.map wordStr) → Fr h₀ L h' m → News h₀ L h' ((S, W.listOf #[.ref (τ.X y)] c) :: wled ND LA τ rest) →
      Q (.ref S) { s.setGen gi .finished with heap := h', toks := tk' })
    (no : ∀ S h' tk' τ c, (cfin List.dropLast ⟨row, [], []⟩).sub = [] → WNew w ND LA σ τ rest → StrsAre τ.av ((cfin List.dropLast ⟨row, [], []⟩).asked.map wordStr) → Fr h₀ L h' m → News h₀ L h' ((S, W.listOf #[] c) :: wled ND LA τ rest) →
      Q (.ref S) { s.setGen gi .finished with heap := h', toks := tk' })
    (err : ∀ ex h' tk' τ, 2 ≤ (cfin List.dropLast ⟨row, [], []⟩).sub.length → WNew w ND LA σ τ rest → StrsAre τ.av ((cfin List.dropLast ⟨row, [], []⟩).asked.map wordStr) → RaisedAt base h₀ L m (env :: outer) ex (.type "TypeError") (wled ND LA τ rest) h' →
      E (.ref ex) { s.setGen gi .finished with heap := h', toks := tk' }) :
    wpAny (model P7 w) (atN dp un gd env outer) (call (.type "list") [.ref ga]) Q E s := by
  have hga := N (ga, genO gi nm qn t1 t2) (.tail _ (.tail _ (.tail _ (List.mem_append_right _ (.tail _ (.head _))))))
  have isg : ∀ h' : Heap, (h'.get? ga = some (genO gi nm qn t1 t2)) → h'.IsGen ga gi := fun h' e => ⟨_, _, _, e, rfl, rfl, rfl⟩
  refine list_gen (gi := gi) (isg _ hga.1) fun h1 c1 hk hS hz => ?_
  have hlt : ∀ q ∈ (D, W.listOf (refs σ.X row).toArray zr) :: wled ND LA σ ((ga, genO gi nm qn t1 t2) :: rest), q.1 ≠ s.heap.objs.size := fun q hq => Nat.ne_of_lt (Heap.lt_size (N q hq).1)
  have hnS := Nat.le_of_lt F.ns.lt
  generalize hSz : s.heap.objs.size = S at *
  have F1 : Fr g L' h1 m0 := F.keeps hk
  have hSn : g.get? S = none := Heap.get?_none_of_le (Nat.le_trans F.above (by rw [← hSz]; exact Nat.le_of_lt F.ns.lt))
  have hSL : S ≠ L' := by rw [← hSz]; exact Nat.ne_of_gt F.ns.lt
  have N1 : News g L' h1 ((S, W.listOf #[] c1) :: (D, W.listOf (refs σ.X row).toArray zr) :: wled ND LA σ ((ga, genO gi nm qn t1 t2) :: rest)) := fun p hp => by
    rcases List.mem_cons.mp hp with rfl | hp
    · exact ⟨hS, hSL, hSn⟩
    · exact ⟨hk _ _ (N p hp).1, (N p hp).2⟩
  have hGS : ∀ p ∈ σ.G, p.1 ≠ S ∧ p.1 ≠ D := fun p hp => ⟨hlt p (.tail _ (.tail _ (.tail _ (List.mem_append_left _ hp)))), hGD p hp⟩
  have hS5 : S ≠ 580 ∧ S ≠ ND ∧ S ≠ LA := ⟨fun z => hlt (580, σ.tab) (.tail _ (.tail _ (.head _))) z.symm, fun z => hlt (ND, σ.oN) (.tail _ (.head _)) z.symm, fun z => hlt (lA LA σ) (.tail _ (.tail _ (.tail _ (List.mem_append_right _ (.head _))))) z.symm⟩
  have hSr : ∀ p ∈ (ga, genO gi nm qn t1 t2) :: rest, p.1 ≠ S := fun p hp => hlt p (.tail _ (.tail _ (.tail _ (List.mem_append_right _ (.tail _ hp)))))
  obtain ⟨RR, hRR⟩ : ∃ RR, RR = RG w ND LA base h₀ g L L' m (env :: outer) (cfin List.dropLast ⟨row, [], []⟩) S (W.listOf #[] c1) ((ga, genO gi nm qn t1 t2) :: rest) σ := ⟨_, rfl⟩
  obtain ⟨YY, hYY⟩ : ∃ YY, YY = YG w ND LA g L' (cfin List.dropLast ⟨row, [], []⟩) S (W.listOf #[] c1) ((ga, genO gi nm qn t1 t2) :: rest) σ := ⟨_, rfl⟩
  refine loop_turn ?_
  refine next_gen (g := gi) (gs := .fresh code) (R := RR) (Y := YY) (n := 1) rfl (T.nolimit.keeps F1.keep) (by k_room) (isg _ (hk _ _ hga.1)) hgs ⟨rfl, ?seg⟩ ?hY ?hR
  case seg =>
    rw [hRR, hYY]
    refine G dp (un + 3) gd _ S _ _ σ (by exact Mine.r342 hu) (by exact Mine.r250 hdp) F1 (N1.perm led_gen) O hrow hks hav ?_ hDA hGS hSr (fun z => hlt (D, W.listOf (refs σ.X row).toArray zr) (.head _) z)
    intro q hq
    rcases List.mem_cons.mp hq with rfl | hq
    · exact hS5
    · exact hoff q hq
  case hY =>
    intro v s₁ gs' hy
    rw [hYY] at hy
    obtain ⟨_, es, k, y, τ, m', hsub, rfl, hyd, hW, F', N', hgo⟩ := hy
    rw [← hYY] at hgo
    have hgl : gi < s.gens.size := by
      rcases Nat.lt_or_ge gi s.gens.size with q | q
      · exact q
      · rw [Array.getElem?_eq_none q] at hgs; cases hgs
    have ge1 : s₁.gens = (s.setGen gi .running).gens := by rw [es]; rfl
    have hSm' := N' (S, W.listOf #[] c1) (.tail _ (.tail _ (List.mem_append_right _ (.tail _ (.head _)))))
    have hgm' := N' (ga, genO gi nm qn t1 t2) (.tail _ (.tail _ (List.mem_append_right _ (.tail _ (.tail _ (.head _))))))
    refine ⟨#[], c1, hSm'.1, by simp, fun h2 hS2 hk2 hz2 => ?_⟩
    have hgaS : ga ≠ S := hSr (ga, genO gi nm qn t1 t2) (.head _)
    have F2 : Fr g L' h2 m' := fr_but F' hSL hSn hk2
    refine loop_turn ?_
    refine next_gen (g := gi) (gs := gs') (R := RR) (Y := YY) (n := 0) rfl (T.nolimit.keeps F2.keep) (by k_room) (isg _ (hk2 _ _ hgaS hgm'.1)) ?gs (hgo _ _ hS2 hk2) ?hY2 ?hR2
    case gs =>
      show (s₁.setGen gi gs').gens[gi]? = some gs'
      simp [Shared.setGen, ge1, hgl]
    case hY2 =>
      intro v s₂ gs2 hy
      rw [hYY] at hy
      obtain ⟨_, _, _, _, _, _, _, _, _, _, _, N2, hno⟩ := hy
      exact (hno s₂ _ (N2 (S, W.listOf #[] c1) (.tail _ (.tail _ (List.mem_append_right _ (.tail _ (.head _)))))).1 fun _ _ _ e => e).elim
    case hR2 =>
      intro r s₂ hr
      rw [hRR] at hr
      obtain ⟨es2, hr⟩ := hr
      have eq2 : ∀ (x : GenState), s₂.setGen gi x = { s.setGen gi x with heap := s₂.heap, toks := s₂.toks } := fun x => by
        rw [es2]
        show Shared.mk _ _ _ _ _ = _
        rw [es]
        simp [Shared.setGen]
      cases hr with
      | err _ _ h1 => cases h1
      | nil _ _ h1 => cases h1
      | one τ2 m2 oS2 _ hSo hNo hW2 hds F3 N3 =>
        intro h' hk'
        have eS : oS2 = W.listOf #[Value.ref (τ.X y)] (c1 + 1) := Option.some.inj (hSo.symm.trans hS2)
        subst eS
        obtain ⟨F4, N4⟩ := back_news FG F3 N3
        have hNo2 : h2.get? ND = some τ2.oN := hNo
        have hNo3 : h2.get? ND = some τ.oN := hk2 _ _ (fun z => hS5.2.1 z.symm) (N' (ND, τ.oN) (.head _)).1
        have hx2 : τ2.X y = τ.X y := X_same hW2.1.ok hW.1.ok (Option.some.inj (hNo2.symm.trans hNo3))
        have N5 : News h₀ L h' ((S, W.listOf #[Value.ref (τ2.X y)] (c1 + 1)) :: wled ND LA τ2 rest) := fun q hq => by
          rw [hx2] at hq
          have z := led_back (g := (ga, genO gi nm qn t1 t2)) q hq
          exact ⟨hk' _ _ (N4 _ z).1, (N4 _ z).2⟩
        have key := one k y S h' s₂.toks τ2 (c1 + 1) hsub (hds _ (by rw [hsub]; exact .head _)) (hW2.1.weak fun q hq => .tail _ hq) hW2.2 (F4.keeps hk') N5
        rw [eq2]
        exact ⟨rfl, key⟩
  case hR =>
    intro r s₁ hr
    rw [hRR] at hr
    obtain ⟨es, hr⟩ := hr
    have eq1 : ∀ (x : GenState), s₁.setGen gi x = { s.setGen gi x with heap := s₁.heap, toks := s₁.toks } := fun x => by
      rw [es]
      simp [Shared.setGen]
    cases hr with
    | err ex τ _ h2 hW R =>
      have hR2 := R
      obtain ⟨Gh, FGh, ⟨Bh, a0, hB, hBG, hl, hfl⟩, hu2, hf2⟩ := R
      have f1 := hfl.1
      obtain ⟨oe, he, hc⟩ := hfl.there
      refine ⟨isg _ (f1 _ _ (hl (ga, genO gi nm qn t1 t2) (.tail _ (.tail _ (List.mem_append_right _ (.tail _ (.tail _ (.head _))))))).1), ⟨"TypeError", ⟨_, he, hc⟩, by rw [isSubtype_type]; kernel_rfl⟩, ?_⟩
      have key := err ex s₁.heap s₁.toks τ h2 (hW.1.weak fun q hq => .tail _ hq) hW.2 (raised_mono hR2 fun q hq => led_back (g := (ga, genO gi nm qn t1 t2)) (S := (S, W.listOf #[] c1)) q (.tail _ hq))
      rw [eq1]
      exact key
    | nil τ m' _ h0 hW F' N' =>
      intro h' hk'
      obtain ⟨F2, N2⟩ := back_news FG F' N'
      have N3 : News h₀ L h' ((S, W.listOf #[] c1) :: wled ND LA τ rest) := fun q hq => by
        have z := led_back (g := (ga, genO gi nm qn t1 t2)) q hq
        exact ⟨hk' _ _ (N2 _ z).1, (N2 _ z).2⟩
      have key := no S h' s₁.toks τ c1 h0 (hW.1.weak fun q hq => .tail _ hq) hW.2 (F2.keeps hk') N3
      rw [eq1]
      exact ⟨rfl, key⟩
    | one _ _ _ h1 => cases h1
end Mine
end
section
open PySem PySem.W PyProof.Rows PySem.Spec PySem.Calls
set_option maxRecDepth 100000
namespace Mine
theorem gens_fin {s : Shared} {st : GenState} : (s.gens.push st).set! s.gens.size .finished = s.gens.push .finished := by
  apply Array.toList_inj.mp
  simp [Array.set!]
theorem set_fin {s : Shared} {h h' : Heap} {tk tk' : Nat} {st : GenState} :
    ({ ({ s with heap := h, gens := s.gens.push st, toks := tk } : Shared).setGen s.gens.size .finished with heap := h', toks := tk' } : Shared) = { s with gens := s.gens.push .finished, heap := h', toks := tk' } := by
  have e := gens_fin (s := s) (st := st)
  simp only [Array.set!] at e
  simp only [Shared.setGen, Array.set!, e]
section
variable {prog : Program} {w : World} {A : Around} {E : Value → Shared → Prop} {s : Shared} {st : Stmt} {env : Env} {Q : Flow → Shared → Prop}
noncomputable def AfterTry (J : Shared → Prop) (f : Flow) (s : Shared) : Prop := f = .next ∧ J s
theorem mid (J : Shared → Prop) (h1 : wpAny (model prog w) A (exec st env) (AfterTry J) E s) (h2 : ∀ s', J s' → Q .next s') : wpAny (model prog w) A (exec st env) Q E s :=
  wpAny_mono h1 (fun f s' h => by obtain ⟨rfl, hj⟩ := h; exact h2 s' hj) fun _ _ e => e
end
section
variable {prog : Program} {w : World} {A₀ : Around} {E : Value → Shared → Prop} {s' : Shared} {base g : Heap} {outer : List Env} {L e : Addr} {m : Str → Option Value} {env : Env}
  {b₀ : Stmt} {suite : List Stmt} {pos np : Pos} {rest : List ExceptHandler} {Q : Flow → Shared → Prop} {news : List (Addr × Obj)} {KF : Frag}
  {p : Program} {loose : List Str} {mean : ExcName → Option Value} {mg mb : Str → Option Value} {x : Str} {X T' : String}
theorem caught_X (R : RaisedAt base g L m (env :: outer) e (.type X) news s'.heap) (hfr : env.frame = some L) (K : Below A₀ base outer g) (XB : KF.In base) (TB : Top p loose mean mg mb base)
    (hname : ∀ (A : Around) (E : Value → Shared → Prop) (Q : Value → Shared → Prop) (s : Shared) (g' : Heap), Fr g' L s.heap m → KF.In g' → TopRead p loose mg mb g' → Q (.type T') s → wpAny (model prog w) A (eval (.Name x np) env) Q E s)
    (hexc : isSubtype (.type T') (.type "BaseException") = pure true) (hnt : isSubtype (.type ((Manifest.find? T').elim "type" fun y => y.metatype)) (.type "tuple") = pure false) (hsub : isSubtype (.type X) (.type T') = pure true)
    (hE : PassesOwnAt (model prog w) ((A₀.deeper env).mark (some (.ref e))) (A₀.deeper env) env E)
    (k : ∀ h' g', KtsTurn (outer.filterMap (·.frame)) g g' → Fr g' L h' m → News g' L h' news → Below A₀ base outer g' → KF.In g' → Top p loose mean mg mb g' →
      wpAny (model prog w) ((A₀.deeper env).mark (some (.ref e))) (execs (b₀ :: suite) env) Q E { s' with heap := h' }) :
    wpAny (model prog w) (A₀.deeper env) (noteFrame (.ref e) env)
      (fun _ s₂ => wpAny (model prog w) (A₀.deeper env) (setFlight (.ref e) none) (fun _ s₃ =>
        wpAny (model prog w) (A₀.deeper env) (handleBy (.ref e) env (.ExceptHandler (some (.Name x np)) none (b₀ :: suite) pos :: rest)) Q E s₃) E s₂) E s' := by
  obtain ⟨G, F, ⟨B, a0, hB, hBG, hl, hfl⟩, hsm, -⟩ := R
  have efr : (env :: outer).filterMap (·.frame) = (envOf (Str.ofString "") env.scope L 0 .none :: outer).filterMap (·.frame) := by
    simp [List.filterMap_cons, hfr, envOf]
  rw [efr] at hBG
  have hL : B.get? L = none := by
    obtain ⟨_, ⟨L', _, hf, hn', _⟩, _⟩ := hfl.2.2.1
    obtain rfl : L = L' := Option.some.inj (hfr.symm.trans hf)
    exact hn'
  refine wpAny_looks_onW (Around.frames_deeper K.stack) hfr hfl fun h₄ hheld₄ hsm₄ => ?_
  refine wpAny_landsW hheld₄ fun h₅ hheld hsm₅' => ?_
  have hsm₅ := hsm₄.trans hsm₅'
  obtain ⟨g₅, T₅, F₅, K₅⟩ := kts_ground K F hBG hheld.1 (hsm.trans hsm₅)
  have X₅ : KF.In g₅ := XB.keeps K₅.stays
  have P₅ : TopRead p loose mg mb g₅ := topRead_of (TB.keeps K₅.stays)
  obtain ⟨ob, hob, hobc⟩ := hheld.there
  refine wpAny_handleBy_builtin (X := X) (T := T') (b := true) hexc hnt hsub (hname _ _ _ _ g₅ F₅ X₅ P₅ ⟨rfl, ⟨ob, hob, hobc⟩, ?_⟩)
  refine lands_againW hheld fun h₆ hfl₆ hsm₆ => ?_
  obtain ⟨g₆, T₆, F₆, K₆⟩ := kts_ground K F hBG hfl₆.1 ((hsm.trans hsm₅).trans hsm₆)
  have Nl : News g₆ L h₆ news := fun q hq => ⟨hfl₆.1 _ _ (hl q hq).1, (fun z => by have := (hl q hq).1; rw [z, hL] at this; cases this), T₆.none_ _ (kts_none F.keep (hl q hq).2.1)⟩
  exact wpAny_passesOwnAt hE (k h₆ g₆ T₆ F₆ Nl K₆ (XB.keeps K₆.stays) (TB.keeps K₆.stays))
end
end Mine
namespace Mine
noncomputable def Stand (p : Program) (loose : List Str) (mean : ExcName → Option Value) (mg mb : Str → Option Value) (KF : Frag) (A₀ : Around) (base g' : Heap) : Prop := KtsTurn [] base g' ∧ Below A₀ base [] g' ∧ KF.In g' ∧ Top p loose mean mg mb g'
theorem stand_name {p : Program} {loose : List Str} {mean : ExcName → Option Value} {mg mb : Str → Option Value} {KF : Frag} {A₀ : Around} {base g : Heap} (_ : Below A₀ base [] g) (_ : KF.In g) (_ : Top p loose mean mg mb g) : ∃ ST, ST = Stand p loose mean mg mb KF A₀ base := ⟨_, rfl⟩
theorem ne_of_data {g h : Heap} {L : Addr} {r : List (Addr × Obj)} (N : News g L h r) {a b : Addr} {o u : Obj} (ha : (a, o) ∈ r) (hb : (b, u) ∈ r) (hne : o.data ≠ u.data) : a ≠ b := fun e => by
  have h1 := (N _ ha).1
  have h2 := (N _ hb).1
  dsimp only at h1 h2
  rw [e, h2] at h1
  exact hne (congrArg Obj.data (Option.some.inj h1)).symm
end Mine
end
section
open PySem PySem.W PyProof.Rows PySem.Spec PySem.Calls
set_option maxRecDepth 100000
namespace Mine
section
open LCg
variable {prog : Program} {w : World} {A : Around} {E : Value → Shared → Prop} {s : Shared} {h₀ : Heap} {L : Addr} {m : Str → Option Value} {env : Env}
noncomputable abbrev comp2E (elt : Expr) (x : Str) (px : Pos) (i1 : Expr) (y : Str) (py : Pos) (i2 : Expr) (scope : Scope) (pos : Pos) : Expr := .ListComp elt [⟨.Name x px, i1, [], 0⟩, ⟨.Name y py, i2, [], 0⟩] scope pos
theorem turn2_1 (elt : Expr) (x : Str) (px : Pos) (i1 : Expr) (y : Str) (py : Pos) (i2 : Expr) (scope : Scope) (pos : Pos) (it acc : Value) (env : Env) :
    compTurn (comp2E elt x px i1 y py i2 scope pos) 1 it acc env = (standAt i2.pos >>= fun _ => pyNext it >>= fun r => match r with
      | none => pure (.done .next)
      | some v => letOwnedTupleGo (.Name y py) it v >>= fun _ => assign (.Name y py) env v >>= fun _ =>
        (eval elt env >>= fun z => call (.builtin "list.append") [acc, z] >>= fun _ => pure ()) >>= fun _ =>
          again (.compLoop (comp2E elt x px i1 y py i2 scope pos) 1 it acc env)) := by rfl
theorem turn2_0 (elt : Expr) (x : Str) (px : Pos) (i1 : Expr) (y : Str) (py : Pos) (i2 : Expr) (scope : Scope) (pos : Pos) (it acc : Value) (env : Env) :
    compTurn (comp2E elt x px i1 y py i2 scope pos) 0 it acc env = (standAt i1.pos >>= fun _ => pyNext it >>= fun r => match r with
      | none => pure (.done .next)
      | some v => letOwnedTupleGo (.Name x px) it v >>= fun _ => assign (.Name x px) env v >>= fun _ =>
        eval i2 env >>= fun z => standAt i2.pos >>= fun _ => foldedSetIterable i2 env z >>= fun z => holding [z] (pyIter z) >>= fun it2 => runOwn (.compStart (comp2E elt x px i1 y py i2 scope pos) 1 it2 acc env) env >>= fun _ =>
          again (.compLoop (comp2E elt x px i1 y py i2 scope pos) 0 it acc env)) := by rfl
variable {R : Result → Shared → Prop} {elt i1 i2 : Expr} {x y : Str} {px py : Pos} {scope : Scope} {pos : Pos} {it acc : Value}
theorem loop2_1 (I : Nat → Shared → Prop)
    (turn : ∀ n s, I n s → wpAny (model prog w) A (pyNext it) (fun r s₁ => match r with
      | none => R (.ok .next) s₁
      | some v => wpAny (model prog w) A (assign (.Name y py) env v) (fun _ s₂ => wpAny (model prog w) A (eval elt env) (fun z s₃ =>
          wpAny (model prog w) A (call (.builtin "list.append") [acc, z]) (fun _ s₄ => ∃ m, m < n ∧ I m s₄) (notedBy (model prog w) A env fun e s' => R (.error e) s') s₃)
          (notedBy (model prog w) A env fun e s' => R (.error e) s') s₂) (notedBy (model prog w) A env fun e s' => R (.error e) s') s₁) (notedBy (model prog w) A env fun e s' => R (.error e) s') s)
    (n : Nat) (h : I n s) : codeAny (model prog w) A (.compLoop (comp2E elt x px i1 y py i2 scope pos) 1 it acc env) R s := by
  refine codeAny_loop rfl I (fun n s hI => ?_) n h
  show wpAny _ _ ((compTurn (comp2E elt x px i1 y py i2 scope pos) 1 it acc env).onRaise (fun x => do noteFrame x env; theTreesLotGoes x)) _ _ s
  refine wpAny_noted ?_
  rw [turn2_1]
  refine wpAny_bind (wpAny_standAt (wpAny_bind (wpAny_mono (turn n s hI) (fun r s₁ h₁ => ?_) fun _ _ h' => h')))
  cases r with
  | none => exact wpAny_pure h₁
  | some v =>
    refine wpAny_bind (wpAny_of_eq (show letOwnedTupleGo (.Name y py) it v = pure () from rfl) ?_)
    exact wpAny_bind (wpAny_mono h₁ (fun _ s₂ h₂ => wpAny_bind (wpAny_bind (wpAny_mono h₂ (fun x s₃ h₃ => wpAny_bind (wpAny_mono h₃
      (fun _ s₄ h₄ => wpAny_pure (wpAny_pure ⟨rfl, h₄⟩)) fun _ _ h' => h')) fun _ _ h' => h'))) fun _ _ h' => h')
theorem loop2_0 (I : Nat → Shared → Prop)
    (turn : ∀ n s, I n s → wpAny (model prog w) A (pyNext it) (fun r s₁ => match r with
      | none => R (.ok .next) s₁
      | some v => wpAny (model prog w) A (assign (.Name x px) env v) (fun _ s₂ => wpAny (model prog w) A (eval i2 env) (fun z s₃ =>
          wpAny (model prog w) A (pyIter z) (fun it2 s₄ => codeAny (model prog w) A (.compStart (comp2E elt x px i1 y py i2 scope pos) 1 it2 acc env) (fun r s₅ => match r with
            | .ok _ => ∃ m, m < n ∧ I m s₅
            | .error e => cameBackBy (model prog w) A env (notedBy (model prog w) A env fun e s' => R (.error e) s') e s₅) s₄) (notedBy (model prog w) A env fun e s' => R (.error e) s') s₃)
          (notedBy (model prog w) A env fun e s' => R (.error e) s') s₂) (notedBy (model prog w) A env fun e s' => R (.error e) s') s₁) (notedBy (model prog w) A env fun e s' => R (.error e) s') s)
    (n : Nat) (h : I n s) (hs : ∀ z, foldedSetIterable i2 env z = pure z := by intro _; rfl) : codeAny (model prog w) A (.compLoop (comp2E elt x px i1 y py i2 scope pos) 0 it acc env) R s := by
  refine codeAny_loop rfl I (fun n s hI => ?_) n h
  show wpAny _ _ ((compTurn (comp2E elt x px i1 y py i2 scope pos) 0 it acc env).onRaise (fun x => do noteFrame x env; theTreesLotGoes x)) _ _ s
  refine wpAny_noted ?_
  rw [turn2_0]
  refine wpAny_bind (wpAny_standAt (wpAny_bind (wpAny_mono (turn n s hI) (fun r s₁ h₁ => ?_) fun _ _ h' => h')))
  cases r with
  | none => exact wpAny_pure h₁
  | some v =>
    refine wpAny_bind (wpAny_of_eq (show letOwnedTupleGo (.Name x px) it v = pure () from rfl) ?_)
    refine wpAny_bind (wpAny_mono h₁ (fun _ s₂ h₂ => ?_) fun _ _ h' => h')
    refine wpAny_bind (wpAny_mono h₂ (fun z s₃ h₃ => ?_) fun _ _ h' => h')
    refine wpAny_bind (wpAny_standAt (wpAny_bind (wpAny_of_eq (hs z) ?_)))
    refine wpAny_bind (wpAny_holding (wpAny_mono h₃ (fun it2 s₄ h₄ => ?_) fun _ _ h' => h'))
    refine wpAny_bind (wpAny_runOwn (h := none) (codeAny_mono h₄ fun r s₅ h₅ => ?_))
    cases r with
    | ok f => exact wpAny_pure ⟨rfl, h₅⟩
    | error e => exact h₅
theorem start2_1 (h0 : codeAny (model prog w) A (.compLoop (comp2E elt x px i1 y py i2 scope pos) 1 it acc env) R s)
    (h : wpAny (model prog w) A (pyIter it) (fun it' s' => codeAny (model prog w) A (.compLoop (comp2E elt x px i1 y py i2 scope pos) 1 it' acc env) R s') (notedBy (model prog w) A env fun x s' => R (.error x) s') s) :
    codeAny (model prog w) A (.compStart (comp2E elt x px i1 y py i2 scope pos) 1 it acc env) R s := by
  refine codeAny_of_tree ?_
  show wpAny _ _ ((compStart (comp2E elt x px i1 y py i2 scope pos) 1 it acc env).onRaise (fun x => do noteFrame x env; standAt theWindowsPlace)) _ _ s
  refine wpAny_notedAt ?_
  unfold compStart
  show wpAny _ _ (ask >>= _) _ _ s
  refine wpAny_bind (wpAny_askSetting (wpAny_ite ?_))
  split
  · first
      | exact wpAny_bind (wpAny_pure (wpAny_pure (And.intro rfl h0)))
      | exact wpAny_pure (And.intro rfl h0)
  · first
      | exact wpAny_bind (wpAny_rule (wpAny_bind (wpAny_standAt (wpAny_bind (wpAny_mono h (fun it' s' h' => wpAny_pure (And.intro rfl h')) fun _ _ x => x)))))
      | (refine wpAny_bind (wpAny_rule ?_); show wpAny _ _ (standAt i2.pos >>= _) _ _ s; exact wpAny_bind (wpAny_standAt (wpAny_bind (wpAny_mono h (fun it' s' h' => wpAny_pure (And.intro rfl h')) fun _ _ x => x))))
end
end Mine
end
section
open PySem PySem.W PyProof.Rows PySem.Spec PySem.Calls
set_option maxRecDepth 100000
namespace Mine
section
open LCg
variable {prog : Program} {w : World} {A : Around} {E : Value → Shared → Prop} {s s₂ : Shared} {h₀ : Heap} {L : Addr} {m : Str → Option Value} {env : Env} {δ : Type}
structure Src9 (prog : Program) (w : World) (A : Around) (h₀ : Heap) (L : Addr) (LED : δ → List (Addr × Obj)) (I : Addr) (n : Nat) (P : Nat → Value → Prop) (St : Nat → Heap → Prop) : Prop where
  walks : ∃ fp, Walks prog w A I fp [I] n P St
  obj : ∀ i h, St i h → ∃ o, h.get? I = some o
  stay : ∀ i h h' o d, St i h → h.get? I = some o → h'.get? I = some o → (∀ b o, h₀.get? b = some o → h'.get? b = some o) → News h₀ L h' (LED d) → St i h'
variable {elt i1 i2 : Expr} {x y : Str} {px py : Pos} {scope : Scope} {pos : Pos} {cl : List (Str × Addr)}
noncomputable abbrev OffI (I : Addr) (l : List (Addr × Obj)) : Prop := ∀ p ∈ l, p.1 ≠ I
inductive At2 {δ : Type} (h₀ : Heap) (L : Addr) (m : Str → Option Value) (s₂ : Shared) (LED : δ → List (Addr × Obj)) (I2 I C D : Addr) (oI : Obj) (x : Str) (vx : Value) (n2 : Nat) (St2 : Nat → Heap → Prop) (J : Nat → List Value → δ → Prop) (k : Nat) (s' : Shared) : Prop
  | mk (j : Nat) (h : Heap) (tk : Nat) (ys : List Value) (d : δ) (oC : Obj) (m₂ : Str → Option Value) (e : s' = { s₂ with heap := h, toks := tk }) (h1 : j ≤ n2) (h2 : k = n2 + 1 - j) (F : Fr h₀ L h m) (hC : NsObj oC m₂) (hx : m₂ x = some vx) (N : News h₀ L h ((I, oI) :: (C, oC) :: (D, lst ys) :: LED d)) (o2 : OffI I2 (LED d)) (o3 : OffI I (LED d)) (o4 : OffI C (LED d)) (o5 : OffI D (LED d)) (hst : St2 j h) (hj : J j ys d)
inductive At1 {δ : Type} (h₀ : Heap) (L : Addr) (m : Str → Option Value) (s₂ : Shared) (LED : δ → List (Addr × Obj)) (I C D : Addr) (n1 : Nat) (St1 : Nat → Heap → Prop) (J1 : Nat → List Value → δ → Prop) (k : Nat) (s' : Shared) : Prop
  | mk (i : Nat) (h : Heap) (tk : Nat) (ys : List Value) (d : δ) (oC : Obj) (m₂ : Str → Option Value) (e : s' = { s₂ with heap := h, toks := tk }) (h1 : i ≤ n1) (h2 : k = n1 + 1 - i) (F : Fr h₀ L h m) (hC : NsObj oC m₂) (N : News h₀ L h ((C, oC) :: (D, lst ys) :: LED d)) (o3 : OffI I (LED d)) (o4 : OffI C (LED d)) (o5 : OffI D (LED d)) (hst : St1 i h) (hj : J1 i ys d)
noncomputable def In2 (prog : Program) (w : World) (A : Around) (h₀ : Heap) (L : Addr) (m : Str → Option Value) (env : Env) (elt : Expr) (x y : Str) (scope : Scope) (cl : List (Str × Addr)) (s₂ : Shared) (LED : δ → List (Addr × Obj)) (I2 I C D : Addr) (oI : Obj) (vx : Value) (n2 : Nat) (P2 : Nat → Value → Prop) (J : Nat → List Value → δ → Prop) : Prop :=
  ∀ j v d ys oI2 oC m₂ h tk (E' : Value → Shared → Prop), j < n2 → P2 j v → J j ys d → NsObj oC m₂ → m₂ y = some v → m₂ x = some vx → Fr h₀ L h m → News h₀ L h ((I2, oI2) :: (I, oI) :: (C, oC) :: (D, lst ys) :: LED d) →
    OffI I2 (LED d) → OffI I (LED d) → OffI C (LED d) → OffI D (LED d) →
    wpAny (model prog w) A (eval elt (compEnvC scope cl C env)) (fun val s' => ∃ h' tk' d', s' = { s₂ with heap := h', toks := tk' } ∧ Fr h₀ L h' m ∧ News h₀ L h' ((I2, oI2) :: (I, oI) :: (C, oC) :: (D, lst ys) :: LED d') ∧
      OffI I2 (LED d') ∧ OffI I (LED d') ∧ OffI C (LED d') ∧ OffI D (LED d') ∧ J (j + 1) (ys ++ [val]) d') E' { s₂ with heap := h, toks := tk }
theorem inner2 {LED : δ → List (Addr × Obj)} {J : Nat → List Value → δ → Prop} {I2 I C D : Addr} {oI oC : Obj} {vx : Value} {n2 : Nat} {P2 : Nat → Value → Prop} {St2 : Nat → Heap → Prop} {R : Result → Shared → Prop} {h : Heap} {tk : Nat} {ys : List Value} {d : δ} {m₂ : Str → Option Value}
    (S2 : Src9 prog w A h₀ L LED I2 n2 P2 St2) (hkind : scope.kind = .function) (hy : scope.names.lookup y = some .local) (hxy : x ≠ y) (hJ : ∀ j ys d, J j ys d → ys.length ≤ 1000)
    (n1 : I2 ≠ I) (n3 : I2 ≠ C) (n4 : I2 ≠ D) (n5 : I ≠ C) (n6 : I ≠ D) (n7 : C ≠ D) (hIL : L ≠ I2) (hI0 : h₀.get? I2 = none)
    (turn : In2 prog w A h₀ L m env elt x y scope cl s₂ LED I2 I C D oI vx n2 P2 J)
    (fin : ∀ h tk ys d oC m₂, Fr h₀ L h m → NsObj oC m₂ → m₂ x = some vx → News h₀ L h ((I, oI) :: (C, oC) :: (D, lst ys) :: LED d) → OffI I (LED d) → OffI C (LED d) → OffI D (LED d) → J n2 ys d → R (.ok .next) { s₂ with heap := h, toks := tk })
    (F : Fr h₀ L h m) (hoC : NsObj oC m₂) (hmx : m₂ x = some vx) (N : News h₀ L h ((I, oI) :: (C, oC) :: (D, lst ys) :: LED d)) (o2 : OffI I2 (LED d)) (o3 : OffI I (LED d)) (o4 : OffI C (LED d)) (o5 : OffI D (LED d)) (hst : St2 0 h) (hj : J 0 ys d) :
    codeAny (model prog w) A (.compLoop (comp2E elt x px i1 y py i2 scope pos) 1 (.ref I2) (.ref D) (compEnvC scope cl C env)) R { s₂ with heap := h, toks := tk } := by
  obtain ⟨fp, W⟩ := S2.walks
  refine loop2_1 (At2 h₀ L m s₂ LED I2 I C D oI x vx n2 St2 J) ?_ (n2 + 1)
    ⟨0, h, tk, ys, d, oC, m₂, rfl, Nat.zero_le _, rfl, F, hoC, hmx, N, o2, o3, o4, o5, hst, hj⟩
  rintro k s' ⟨j, h, tk, ys, d, oC, m₂, rfl, hjn, rfl, F, hoC, hmx, N, o2, o3, o4, o5, hst, hj⟩
  have offN : ∀ p ∈ (I, oI) :: (C, oC) :: (D, lst ys) :: LED d, p.1 ≠ I2 := fun p hp => by
    rcases List.mem_cons.mp hp with rfl | hp
    · exact Ne.symm n1
    rcases List.mem_cons.mp hp with rfl | hp
    · exact Ne.symm n3
    rcases List.mem_cons.mp hp with rfl | hp
    · exact Ne.symm n4
    exact o2 p hp
  by_cases hlt : j < n2
  · refine W.item j _ _ _ hlt hst fun v h₂ tk₂ hPv hst₂ hk₂ => ?_
    have F₂ : Fr h₀ L h₂ m := LCg.fr_but F hk₂ hIL hI0
    have N₂ := LCg.news_but N hk₂ offN
    have zC := N₂ (C, oC) (.tail _ (.head _))
    refine wpAny_assign_Name (wpAny_storeName_local (lookup_relabel_local hy) (hoC.ns zC.1) (fun h₃ hn₃ hs₃ => ?_) (by simp [compEnvC, relabel, hkind]))
    obtain ⟨oC3, heC, hoC3⟩ := ns_obj hn₃
    obtain ⟨oI2, heI⟩ := S2.obj _ _ hst₂
    have heI3 : h₃.get? I2 = some oI2 := hs₃.extBut _ _ n3 heI
    have F₃ : Fr h₀ L h₃ m := F₂.change hs₃ zC.2.1 zC.2.2
    have N₃ : News h₀ L h₃ ((I2, oI2) :: (I, oI) :: (C, oC3) :: (D, lst ys) :: LED d) := fun p hp => by
      rcases List.mem_cons.mp hp with rfl | hp
      · exact ⟨heI3, Ne.symm hIL, hI0⟩
      rcases List.mem_cons.mp hp with rfl | hp
      · have z := N₂ (I, oI) (.head _)
        exact ⟨hs₃.extBut _ _ n5 z.1, z.2⟩
      rcases List.mem_cons.mp hp with rfl | hp
      · exact ⟨heC, zC.2⟩
      have z := N₂ p (.tail _ (.tail _ hp))
      refine ⟨hs₃.extBut _ _ ?_ z.1, z.2⟩
      rcases List.mem_cons.mp hp with rfl | hp
      · exact Ne.symm n7
      · exact o4 p hp
    have NL3 : News h₀ L h₃ (LED d) := fun p hp => N₃ p (.tail _ (.tail _ (.tail _ (.tail _ hp))))
    have hst₃ := S2.stay _ _ _ _ d hst₂ heI heI3 F₃.keep NL3
    refine wpAny_mono (turn j v d ys oI2 oC3 _ h₃ _ _ hlt hPv hj hoC3 (by simp) (by rw [if_neg hxy]; exact hmx) F₃ N₃ o2 o3 o4 o5) (fun val s₄ h₄ => ?_) fun _ _ e => e
    obtain ⟨h₄, tk₄, d₄, rfl, F₄, N₄, p2, p3, p4, p5, hj₄⟩ := h₄
    have zI := (N₄ (I2, oI2) (.head _)).1
    have zD := N₄ (D, lst ys) (.tail _ (.tail _ (.tail _ (.head _))))
    have NL4 : News h₀ L h₄ (LED d₄) := fun p hp => N₄ p (.tail _ (.tail _ (.tail _ (.tail _ hp))))
    have hst₄ := S2.stay _ _ _ _ d₄ hst₃ heI3 zI F₄.keep NL4
    refine append_at (hsz := by show ys.toArray.size ≤ sizeLine; rw [List.size_toArray, sizeLine_eq]; have := hJ _ _ _ hj; exact Mine.r0 this) zD.1 fun h₅ hs₅ hD₅ => ?_
    have F₅ : Fr h₀ L h₅ m := F₄.change hs₅ zD.2.1 zD.2.2
    have N₅ : News h₀ L h₅ ((I, oI) :: (C, oC3) :: (D, lst (ys ++ [val])) :: LED d₄) := fun p hp => by
      rcases List.mem_cons.mp hp with rfl | hp
      · have z := N₄ (I, oI) (.tail _ (.head _))
        exact ⟨hs₅.extBut _ _ n6 z.1, z.2⟩
      rcases List.mem_cons.mp hp with rfl | hp
      · have z := N₄ (C, oC3) (.tail _ (.tail _ (.head _)))
        exact ⟨hs₅.extBut _ _ n7 z.1, z.2⟩
      rcases List.mem_cons.mp hp with rfl | hp
      · exact ⟨hD₅.trans (congrArg some (lst_snoc ys val)), zD.2⟩
      have z := NL4 p hp
      exact ⟨hs₅.extBut _ _ (p5 p hp) z.1, z.2⟩
    have NL5 : News h₀ L h₅ (LED d₄) := fun p hp => N₅ p (.tail _ (.tail _ (.tail _ hp)))
    exact ⟨n2 + 1 - (j + 1), by exact Mine.r43 hlt, j + 1, h₅, _, ys ++ [val], d₄, oC3, _, rfl, hlt, rfl, F₅, hoC3, by rw [if_neg hxy]; exact hmx, N₅, p2, p3, p4, p5, S2.stay _ _ _ _ d₄ hst₄ zI (hs₅.extBut _ _ n4 zI) F₅.keep NL5, hj₄⟩
  · obtain rfl : j = n2 := by exact Mine.r70 hjn hlt
    refine W.done _ _ _ hst fun h₂ tk₂ hk₂ => ?_
    exact fin h₂ tk₂ ys d oC m₂ (LCg.fr_but F hk₂ hIL hI0) hoC hmx (LCg.news_but N hk₂ offN) o3 o4 o5 hj
inductive Ent2 {δ : Type} (prog : Program) (w : World) (A : Around) (h₀ : Heap) (L : Addr) (m : Str → Option Value) (env : Env) (elt : Expr) (x y : Str) (scope : Scope) (cl : List (Str × Addr)) (s₂ : Shared) (LED : δ → List (Addr × Obj)) (I C D : Addr) (oI oC : Obj) (ys : List Value) (v : Value) (J1 : Nat → List Value → δ → Prop) (i : Nat) (it2 : Value) (s'' : Shared) : Prop
  | mk (δ2 : Type) (e2 : δ2 → δ) (I2 : Addr) (n2 : Nat) (P2 : Nat → Value → Prop) (St2 : Nat → Heap → Prop) (J2 : Nat → List Value → δ2 → Prop) (h' : Heap) (tk' : Nat) (d' : δ2) (k0 : it2 = .ref I2) (k1 : s'' = { s₂ with heap := h', toks := tk' }) (k2 : Fr h₀ L h' m) (k3 : News h₀ L h' ((I, oI) :: (C, oC) :: (D, lst ys) :: LED (e2 d'))) (k4 : OffI I (LED (e2 d'))) (k5 : OffI C (LED (e2 d'))) (k6 : OffI D (LED (e2 d'))) (k7 : OffI I2 (LED (e2 d'))) (k8 : (I2 ≠ I ∧ I2 ≠ C ∧ I2 ≠ D ∧ L ≠ I2 ∧ h₀.get? I2 = none)) (k85 : Src9 prog w A h₀ L (fun d => LED (e2 d)) I2 n2 P2 St2) (k9 : St2 0 h') (k10 : J2 0 ys d') (k11 : (∀ j ys d, J2 j ys d → ys.length ≤ 1000)) (k12 : In2 prog w A h₀ L m env elt x y scope cl s₂ (fun d => LED (e2 d)) I2 I C D oI v n2 P2 J2) (k13 : (∀ ys d, J2 n2 ys d → J1 (i + 1) ys (e2 d)))
noncomputable def Out2 (prog : Program) (w : World) (A : Around) (h₀ : Heap) (L : Addr) (m : Str → Option Value) (env : Env) (elt i2 : Expr) (x y : Str) (scope : Scope) (cl : List (Str × Addr)) (s₂ : Shared) (LED : δ → List (Addr × Obj)) (I C D : Addr) (n1 : Nat) (P1 : Nat → Value → Prop) (J1 : Nat → List Value → δ → Prop) : Prop :=
  ∀ i v d ys oI oC m₂ h tk (E' : Value → Shared → Prop), i < n1 → P1 i v → J1 i ys d → NsObj oC m₂ → m₂ x = some v → Fr h₀ L h m → News h₀ L h ((I, oI) :: (C, oC) :: (D, lst ys) :: LED d) → OffI I (LED d) → OffI C (LED d) → OffI D (LED d) →
    wpAny (model prog w) A (eval i2 (compEnvC scope cl C env)) (fun z s' => wpAny (model prog w) A (pyIter z) (fun it2 s'' => Ent2 prog w A h₀ L m env elt x y scope cl s₂ LED I C D oI oC ys v J1 i it2 s'') E' s') E' { s₂ with heap := h, toks := tk }
theorem outer2 {LED : δ → List (Addr × Obj)} {J1 : Nat → List Value → δ → Prop} {I C D : Addr} {oC : Obj} {n1 : Nat} {P1 : Nat → Value → Prop} {St1 : Nat → Heap → Prop} {R : Result → Shared → Prop} {h : Heap} {tk : Nat} {ys : List Value} {d : δ} {m₂ : Str → Option Value}
    (S1 : Src9 prog w A h₀ L LED I n1 P1 St1) (hkind : scope.kind = .function) (hx : scope.names.lookup x = some .local) (hy : scope.names.lookup y = some .local) (hxy : x ≠ y)
    (n5 : I ≠ C) (n6 : I ≠ D) (n7 : C ≠ D) (hIL : L ≠ I) (hI0 : h₀.get? I = none)
    (turn : Out2 prog w A h₀ L m env elt i2 x y scope cl s₂ LED I C D n1 P1 J1)
    (fin : ∀ h tk ys d oC m₂, Fr h₀ L h m → NsObj oC m₂ → News h₀ L h ((C, oC) :: (D, lst ys) :: LED d) → OffI C (LED d) → OffI D (LED d) → J1 n1 ys d → R (.ok .next) { s₂ with heap := h, toks := tk })
    (F : Fr h₀ L h m) (hoC : NsObj oC m₂) (N : News h₀ L h ((C, oC) :: (D, lst ys) :: LED d)) (o3 : OffI I (LED d)) (o4 : OffI C (LED d)) (o5 : OffI D (LED d)) (hst : St1 0 h) (hj : J1 0 ys d) (hs : ∀ z, foldedSetIterable i2 (compEnvC scope cl C env) z = pure z := by intro _; rfl) :
    codeAny (model prog w) A (.compLoop (comp2E elt x px i1 y py i2 scope pos) 0 (.ref I) (.ref D) (compEnvC scope cl C env)) R { s₂ with heap := h, toks := tk } := by
  obtain ⟨fp, W⟩ := S1.walks
  refine loop2_0 (At1 h₀ L m s₂ LED I C D n1 St1 J1) ?_ (n1 + 1)
    ⟨0, h, tk, ys, d, oC, m₂, rfl, Nat.zero_le _, rfl, F, hoC, N, o3, o4, o5, hst, hj⟩ hs
  rintro k s' ⟨i, h, tk, ys, d, oC, m₂, rfl, hin, rfl, F, hoC, N, o3, o4, o5, hst, hj⟩
  have offN : ∀ p ∈ (C, oC) :: (D, lst ys) :: LED d, p.1 ≠ I := fun p hp => by
    rcases List.mem_cons.mp hp with rfl | hp
    · exact Ne.symm n5
    rcases List.mem_cons.mp hp with rfl | hp
    · exact Ne.symm n6
    exact o3 p hp
  by_cases hlt : i < n1
  · refine W.item i _ _ _ hlt hst fun v h₂ tk₂ hPv hst₂ hk₂ => ?_
    have F₂ : Fr h₀ L h₂ m := LCg.fr_but F hk₂ hIL hI0
    have N₂ := LCg.news_but N hk₂ offN
    have zC := N₂ (C, oC) (.head _)
    refine wpAny_assign_Name (wpAny_storeName_local (lookup_relabel_local hx) (hoC.ns zC.1) (fun h₃ hn₃ hs₃ => ?_) (by simp [compEnvC, relabel, hkind]))
    obtain ⟨oC3, heC, hoC3⟩ := ns_obj hn₃
    obtain ⟨oI, heI⟩ := S1.obj _ _ hst₂
    have heI3 : h₃.get? I = some oI := hs₃.extBut _ _ n5 heI
    have F₃ : Fr h₀ L h₃ m := F₂.change hs₃ zC.2.1 zC.2.2
    have N₃ : News h₀ L h₃ ((I, oI) :: (C, oC3) :: (D, lst ys) :: LED d) := fun p hp => by
      rcases List.mem_cons.mp hp with rfl | hp
      · exact ⟨heI3, Ne.symm hIL, hI0⟩
      rcases List.mem_cons.mp hp with rfl | hp
      · exact ⟨heC, zC.2⟩
      have z := N₂ p (.tail _ hp)
      refine ⟨hs₃.extBut _ _ ?_ z.1, z.2⟩
      rcases List.mem_cons.mp hp with rfl | hp
      · exact Ne.symm n7
      · exact o4 p hp
    have NL3 : News h₀ L h₃ (LED d) := fun p hp => N₃ p (.tail _ (.tail _ (.tail _ hp)))
    have hst₃ := S1.stay _ _ _ _ d hst₂ heI heI3 F₃.keep NL3
    refine wpAny_mono (turn i v d ys oI oC3 _ h₃ _ _ hlt hPv hj hoC3 (by simp) F₃ N₃ o3 o4 o5) (fun z s₄ h₄ => ?_) fun _ _ e => e
    refine wpAny_mono h₄ (fun it2 s₅ h₅ => ?_) fun _ _ e => e
    obtain ⟨δ2, e2, I2, n2, P2, St2, J2, h', tk', d', rfl, rfl, F', N', q3, q4, q5, q2, ⟨r1, r2, r3, r4, r5⟩, S2, hst2, hj2, hJ2, tn, up⟩ := h₅
    have go := inner2 (LED := fun d => LED (e2 d)) (R := fun r s₅ => match r with
        | .ok _ => ∃ m', m' < n1 + 1 - i ∧ At1 h₀ L m s₂ LED I C D n1 St1 J1 m' s₅
        | .error e => cameBackBy (model prog w) A (compEnvC scope cl C env) (notedBy (model prog w) A (compEnvC scope cl C env) fun e s' => R (.error e) s') e s₅)
      (px := px) (i1 := i1) (py := py) (i2 := i2) (pos := pos) (tk := tk') S2 hkind hy hxy hJ2 r1 r2 r3 n5 n6 n7 r4 r5 tn (fun h₆ tk₆ ys₆ d₆ oC₆ m₆ F₆ hoC₆ _ N₆ u3 u4 u5 hj₆ => ?_) F' hoC3 (by simp) N' q2 q3 q4 q5 hst2 hj2
    · obtain ⟨fp2, W2⟩ := S2.walks
      exact start2_1 go (W2.self 0 _ _ _ hst2 go)
    · have zI := (N₆ (I, oI) (.head _)).1
      have NL6 : News h₀ L h₆ (LED (e2 d₆)) := fun p hp => N₆ p (.tail _ (.tail _ (.tail _ hp)))
      exact ⟨n1 + 1 - (i + 1), by exact Mine.r43 hlt, i + 1, h₆, tk₆, ys₆, e2 d₆, oC₆, m₆, rfl, hlt, rfl, F₆, hoC₆, fun p hp => N₆ p (.tail _ hp), u3, u4, u5, S1.stay _ _ _ _ (e2 d₆) hst₃ heI3 zI F₆.keep NL6, up _ _ hj₆⟩
  · obtain rfl : i = n1 := by exact Mine.r70 hin hlt
    refine W.done _ _ _ hst fun h₂ tk₂ hk₂ => ?_
    exact fin h₂ tk₂ ys d oC m₂ (LCg.fr_but F hk₂ hIL hI0) hoC (LCg.news_but N hk₂ offN) o4 o5 hj
end
end Mine
end
section
open PySem PySem.W PyProof.Rows PySem.Spec PySem.Calls
set_option maxRecDepth 100000
namespace Mine
section
open LCg
variable {prog : Program} {w : World} {A : Around} {E : Value → Shared → Prop} {s s₂ : Shared} {h₀ : Heap} {L : Addr} {m : Str → Option Value} {env : Env} {δ : Type}
variable {elt i1 i2 : Expr} {x y : Str} {px py : Pos} {scope : Scope} {pos : Pos} {cl : List (Str × Addr)}
theorem off1_of {D : Addr} : ∀ {l : List (Addr × Obj)}, (∀ p ∈ l, p.1 ≠ D) → LCg.Off1 D l
  | [], _ => trivial
  | q :: r, h => ⟨h q (.head _), off1_of fun p hp => h p (.tail _ hp)⟩
theorem block2 {LED : δ → List (Addr × Obj)} {J1 : Nat → List Value → δ → Prop} {I : Addr} {n1 : Nat} {P1 : Nat → Value → Prop} {St1 : Nat → Heap → Prop} {RR : Value → Addr → Result → Shared → Prop} {d0 : δ}
    (S1 : Src9 prog w A h₀ L LED I n1 P1 St1) (hcell : ∀ z ∈ scope.names, z.2 ≠ .cell) (hkind : scope.kind = .function) (hx : scope.names.lookup x = some .local) (hy : scope.names.lookup y = some .local) (hxy : x ≠ y)
    (hst : St1 0 s₂.heap) (F : Fr h₀ L s₂.heap m) (N : News h₀ L s₂.heap (LED d0)) (hIL : L ≠ I) (hI0 : h₀.get? I = none) (off : OffI I (LED d0)) (hj : J1 0 [] d0)
    (turn : ∀ C D, Out2 prog w A h₀ L m env elt i2 x y scope cl s₂ LED I C D n1 P1 J1) (hs2 : ∀ C z, foldedSetIterable i2 (compEnvC scope cl C env) z = pure z)
    (hRR : ∀ D C h tk m' ys d, Fr h₀ L h m → News h₀ L h ((D, lst ys) :: LED d) → OffI D (LED d) → h.Ns C m' → h₀.get? C = none → C ≠ L → C ≠ D → OffI C (LED d) → J1 n1 ys d → RR (.ref D) C (.ok .next) { s₂ with heap := h, toks := tk }) :
    wpAny (model prog w) A (newList []) (fun acc s₃ => wpAny (model prog w) A (newFunctionEnv scope env.globals cl [] env.qual none .none (some env)) (fun cenv s₄ =>
      codeAny (model prog w) A (.compStart (comp2E elt x px i1 y py i2 scope pos) 0 (.ref I) acc { cenv with scope := relabel scope env }) (RR acc cenv.locals) s₄) E s₃) E s₂ := by
  refine wpAny_newObj_type (wpAny_newFunctionEnv hcell (by intro y hy; simp at hy) (fun h₁ hns₁ hsb₁ => ?_) hkind)
  dsimp only at hns₁ hsb₁ ⊢
  generalize hH2 : s₂.heap.push { cls := .type "list", dict := none, data := .seq ([] : List Value).toArray } = H2 at hns₁ hsb₁ ⊢
  have hC : H2.objs.size = s₂.heap.objs.size + 1 := by rw [← hH2, Heap.size_push]
  have hDC : s₂.heap.objs.size ≠ H2.objs.size := by rw [hC]; exact Nat.ne_of_lt (Nat.lt_succ_self _)
  have below : ∀ b, b < s₂.heap.objs.size → b ≠ H2.objs.size ∧ b ≠ s₂.heap.objs.size := fun b hb => ⟨by rw [hC]; exact Nat.ne_of_lt (Nat.lt_succ_of_lt hb), Nat.ne_of_lt hb⟩
  obtain ⟨oI, heI⟩ := S1.obj _ _ hst
  have hIlt : I < s₂.heap.objs.size := Heap.lt_size heI
  have old : ∀ b o, s₂.heap.get? b = some o → h₁.get? b = some o := fun b o e => hsb₁.extBut b o (below b (Heap.lt_size e)).1 (Heap.get?_push_of_some _ (hH2 ▸ Heap.get?_push_of_some _ e))
  have hacc : h₁.get? s₂.heap.objs.size = some (lst []) := hsb₁.extBut _ _ hDC (Heap.get?_push_of_some _ (hH2 ▸ Heap.get?_push_size _ rfl))
  have fresh : ∀ a, s₂.heap.objs.size ≤ a → s₂.heap.get? a = none := fun a ha => by
    cases e : s₂.heap.get? a with
    | none => rfl
    | some o' => exact absurd (Heap.lt_size e) (Nat.not_lt.mpr ha)
  have fresh₀ : ∀ a, s₂.heap.objs.size ≤ a → h₀.get? a = none := fun a ha => by
    cases e : h₀.get? a with
    | none => rfl
    | some o' => have := F.keep a o' e; rw [fresh a ha] at this; cases this
  have hD₀ : h₀.get? s₂.heap.objs.size = none := fresh₀ _ (Nat.le_refl _)
  have hC₀ : h₀.get? H2.objs.size = none := fresh₀ _ (by rw [hC]; exact Nat.le_succ _)
  have hLlt : L < s₂.heap.objs.size := F.ns.lt
  have hDL : s₂.heap.objs.size ≠ L := Ne.symm (below L hLlt).2
  have hCL : H2.objs.size ≠ L := Ne.symm (below L hLlt).1
  obtain ⟨oC, heC, hoC⟩ := ns_obj hns₁
  have F1 : Fr h₀ L h₁ m := F.keeps old
  have NL1 : News h₀ L h₁ (LED d0) := fun p hp => ⟨old _ _ (N p hp).1, (N p hp).2⟩
  have N1 : News h₀ L h₁ ((H2.objs.size, oC) :: (s₂.heap.objs.size, lst []) :: LED d0) := fun p hp => by
    rcases List.mem_cons.mp hp with rfl | hp
    · exact ⟨heC, hCL, hC₀⟩
    rcases List.mem_cons.mp hp with rfl | hp
    · exact ⟨hacc, hDL, hD₀⟩
    · exact NL1 p hp
  have hst1 := S1.stay _ _ _ _ d0 hst heI (old _ _ heI) F1.keep NL1
  have go := outer2 (R := RR (.ref s₂.heap.objs.size) H2.objs.size) (px := px) (i1 := i1) (py := py) (pos := pos) (tk := s₂.toks + ([] : List (Str × Value)).length) S1 hkind hx hy hxy (below I hIlt).1 (below I hIlt).2 (Ne.symm hDC) hIL hI0 (turn H2.objs.size s₂.heap.objs.size)
    (fun h tk ys d oC' m₂ F' hoC' N' o4 o5 hj' => hRR _ _ h tk m₂ ys d F' (fun p hp => N' p (.tail _ hp)) o5 (hoC'.ns (N' _ (.head _)).1) hC₀ hCL (Ne.symm hDC) o4 hj')
    F1 hoC N1 off (fun p hp => (below _ (Heap.lt_size (N p hp).1)).1) (fun p hp => (below _ (Heap.lt_size (N p hp).1)).2) hst1 hj (hs2 _)
  obtain ⟨fp, W⟩ := S1.walks
  exact codeAny_compStart_list go (W.self 0 _ _ _ hst1 go)
inductive Comp2 (prog : Program) (w : World) (A : Around) (h₀ : Heap) (L : Addr) (m : Str → Option Value) (env : Env) (elt i2 : Expr) (x y : Str) (scope : Scope) (cl : List (Str × Addr)) (LED : δ → List (Addr × Obj)) (J1 : Nat → List Value → δ → Prop) (Fin : Shared → List Value → δ → Prop) (it : Value) (s₂ : Shared) : Prop
  | mk (I : Addr) (n1 : Nat) (P1 : Nat → Value → Prop) (St1 : Nat → Heap → Prop) (d0 : δ) (k0 : it = .ref I) (k1 : Fr h₀ L s₂.heap m) (k2 : News h₀ L s₂.heap (LED d0)) (k3 : OffI I (LED d0)) (k4 : L ≠ I) (k5 : h₀.get? I = none) (k6 : Src9 prog w A h₀ L LED I n1 P1 St1) (k7 : St1 0 s₂.heap) (k8 : J1 0 [] d0) (k9 : (∀ C D, Out2 prog w A h₀ L m env elt i2 x y scope cl s₂ LED I C D n1 P1 J1)) (k10 : ∀ ys d, J1 n1 ys d → Fin s₂ ys d)
theorem comp2_eval {LED : δ → List (Addr × Obj)} {J1 : Nat → List Value → δ → Prop} {Q : Value → Shared → Prop}
    (hclos : closureFor scope env = pure cl) (hcell : ∀ z ∈ scope.names, z.2 ≠ .cell) (hkind : scope.kind = .function) (hnames : ∀ z ∈ scope.names, z.2 = .local → scope.names.lookup z.1 = some .local) (hx : scope.names.lookup x = some .local) (hy : scope.names.lookup y = some .local) (hxy : x ≠ y)
    (h : wpAny (model prog w) A (eval i1 env) (fun xv s₁ => wpAny (model prog w) A (pyIter xv) (Comp2 prog w A h₀ L m env elt i2 x y scope cl LED J1 (fun s₂ ys d => FinE h₀ L m s₂ Q ys (LED d))) E s₁) E s)
    (hs : ∀ z, foldedSetIterable i1 env z = pure z := by intro _; rfl) (hs2 : ∀ C z, foldedSetIterable i2 (compEnvC scope cl C env) z = pure z := by intro _ _; rfl) :
    wpAny (model prog w) A (eval (comp2E elt x px i1 y py i2 scope pos) env) Q E s := by
  rw [eval_ListComp]
  refine wpAny_comprehension_free (use := none) rfl hs hclos hkind hnames (wpAny_mono h (fun xv s₁ h₁ => wpAny_mono h₁ (fun it s₂ h₂ => ?_) fun _ _ e => e) fun _ _ e => e)
  obtain ⟨I, n1, P1, St1, d0, rfl, F, N, off, hIL, hI0, S1, hst, hj, turn, fin⟩ := h₂
  refine block2 S1 hcell hkind hx hy hxy hst F N hIL hI0 off hj turn hs2 ?_
  intro D C h tk m' ys d F' N' o5 hn hC₀ hCL hCD offC hj'
  refine ⟨m', hn, fun h'' hs'' => fin ys d hj' D h'' tk (F'.change hs'' hCL hC₀) (fun p hp => ?_) ?_⟩
  · refine ⟨hs''.extBut _ _ ?_ (N' p hp).1, (N' p hp).2⟩
    rcases List.mem_cons.mp hp with rfl | hp
    · exact Ne.symm hCD
    · exact offC p hp
  · exact off1_of o5
theorem comp2_assign {ya : Str} {pya spos : Pos} {LED : δ → List (Addr × Obj)} {J1 : Nat → List Value → δ → Prop} {Q : Flow → Shared → Prop} (hLe : env.locals = L)
    (hsw : swapsWith (comp2E elt x px i1 y py i2 scope pos) (some (.Name ya pya)) spos.line env = pure true)
    (hclos : closureFor scope env = pure cl) (hcell : ∀ z ∈ scope.names, z.2 ≠ .cell) (hkind : scope.kind = .function) (hnames : ∀ z ∈ scope.names, z.2 = .local → scope.names.lookup z.1 = some .local) (hx : scope.names.lookup x = some .local) (hy : scope.names.lookup y = some .local) (hxy : x ≠ y)
    (hya : env.kindOf ya = some .local) (hp : (env.scope.kind == .class || (env.scope.kind == .module && env.locals != env.globals)) = false)
    (h : wpAny (model prog w) A (eval i1 env) (fun xv s₁ => wpAny (model prog w) A (pyIter xv) (Comp2 prog w A h₀ L m env elt i2 x y scope cl LED J1 (fun s₂ ys d => FinA h₀ L m s₂ ya Q ys (LED d))) E s₁) E s)
    (hs : ∀ z, foldedSetIterable i1 env z = pure z := by intro _; rfl) (hs2 : ∀ C z, foldedSetIterable i2 (compEnvC scope cl C env) z = pure z := by intro _ _; rfl) :
    wpAny (model prog w) A (exec (.Assign [.Name ya pya] (comp2E elt x px i1 y py i2 scope pos) spos) env) Q E s := by
  subst hLe
  rw [exec_Assign_Name_used _ _ _ _ hsw]
  refine wpAny_bind (wpAny_standAt (wpAny_bind ?_))
  show wpAny _ A (do let _ ← comprehension (comp2E elt x px i1 y py i2 scope pos) scope env _ (newList []) false (eval i1 env) (some (assign (.Name ya pya) env))) _ _ s
  refine wpAny_bind (wpAny_mono (wpAny_comprehension_free (use := some (assign (.Name ya pya) env)) (Q := fun _ s' => Q .next s') rfl hs hclos hkind hnames
    (wpAny_mono h (fun xv s₁ h₁ => wpAny_mono h₁ (fun it s₂ h₂ => ?_) fun _ _ e => e) fun _ _ e => e)) (fun _ s' hq => wpAny_pure (wpAny_pure hq)) fun _ _ e => e)
  obtain ⟨I, n1, P1, St1, d0, rfl, F, N, off, hIL, hI0, S1, hst, hj, turn, fin⟩ := h₂
  refine block2 S1 hcell hkind hx hy hxy hst F N hIL hI0 off hj turn hs2 ?_
  intro D C h tk m' ys d F' N' o5 hn hC₀ hCL hCD offC hj'
  show wpAny _ A (assign (.Name ya pya) env (.ref D)) _ _ _
  refine wpAny_assign_Name (wpAny_storeName_local hya F'.ns (fun h₂ hn₂ hs₂ => ?_) hp)
  have hL₀ : h₀.get? env.locals = none := Heap.get?_none_of_le F'.above
  have F₂ : Fr h₀ env.locals h₂ (fun z => if z = ya then some (.ref D) else m z) := ⟨hn₂, fun b o e => hs₂.extBut b o (fun q => by rw [q, hL₀] at e; cases e) (F'.keep b o e), F'.above⟩
  refine ⟨m', hn.sameBut hs₂ hCL, fun h'' hs'' => fin ys d hj' D h'' _ (F₂.change hs'' hCL hC₀) (fun p hp => ?_) (off1_of o5)⟩
  have z : h₂.get? p.1 = some p.2 := hs₂.extBut _ _ (N' p hp).2.1 (N' p hp).1
  refine ⟨hs''.extBut _ _ ?_ z, (N' p hp).2⟩
  rcases List.mem_cons.mp hp with rfl | hp
  · exact Ne.symm hCD
  · exact offC p hp
end
end Mine
end
section
open PySem PySem.W PyProof.Rows PySem.Spec PySem.Calls
set_option maxRecDepth 100000
namespace Mine
section
open LCg
variable {prog : Program} {w : World} {A : Around} {E : Value → Shared → Prop} {s : Shared} {h₀ : Heap} {L : Addr} {m : Str → Option Value} {δ : Type}
theorem src_list9 {LED : δ → List (Addr × Obj)} {I D : Addr} {items : Array Value} (hh : A.handled = none) (hI : I ≠ D) (hD : ∀ d, ∃ z, (D, W.listOf items z) ∈ LED d) : Src9 prog w A h₀ L LED I items.size (fun i v => items[i]? = some v) (fun i h => h.IsListIter I D i ∧ h.IsList D items) :=
  ⟨⟨_, Walks.list hh I D hI.symm items⟩, fun i h st => by obtain ⟨o, e, _⟩ := st.1; exact ⟨o, e⟩, fun i h h' o d st e e' _ N => by
    obtain ⟨z, hz⟩ := hD d
    obtain ⟨o1, e1, r⟩ := st.1
    rw [e] at e1
    cases e1
    exact ⟨⟨o, e', r⟩, ⟨_, (N _ hz).1, rfl, _, rfl⟩⟩⟩
theorem src_ascii9 {LED : δ → List (Addr × Obj)} {I : Addr} {x : Str} {t : Tok} (hh : A.handled = none) : Src9 prog w A h₀ L LED I x.cps.size (SignAt x) (fun i h => h.IsStrIter I "str_ascii_iterator" x t i) :=
  ⟨⟨_, Walks.strAscii hh I x t⟩, fun i h st => by obtain ⟨o, e, _⟩ := st; exact ⟨o, e⟩, fun i h h' o d st e e' _ _ => by
    obtain ⟨o1, e1, r⟩ := st
    rw [e] at e1
    cases e1
    exact ⟨o, e', r⟩⟩
theorem iter_made9 {LED : List (Addr × Obj)} {o : Obj} {I : Addr} (F : Fr h₀ L s.heap m) (N : News h₀ L s.heap LED) (hI : I = s.heap.objs.size) :
    Fr h₀ L (s.heap.push o) m ∧ News h₀ L (s.heap.push o) LED ∧ OffI I LED ∧ L ≠ I ∧ h₀.get? I = none := by
  subst hI
  exact ⟨F.push o, fun p hp => ⟨Heap.get?_push_of_some _ (N p hp).1, (N p hp).2⟩, fun p hp => Nat.ne_of_lt (Heap.lt_size (N p hp).1), Nat.ne_of_lt F.ns.lt, next_is_new F⟩
theorem pyIter_list9 {D : Addr} {items : Array Value} {z : Nat} {LED : List (Addr × Obj)} {Q : Value → Shared → Prop} (F : Fr h₀ L s.heap m) (N : News h₀ L s.heap LED) (hD : (D, W.listOf items z) ∈ LED)
    (h : ∀ I h', Fr h₀ L h' m → News h₀ L h' LED → OffI I LED → L ≠ I → h₀.get? I = none → h'.IsListIter I D 0 ∧ h'.IsList D items → I ≠ D → Q (.ref I) { s with heap := h' }) : wpAny (model prog w) A (pyIter (.ref D)) Q E s := by
  have hl : s.heap.IsList D items := ⟨_, (N _ hD).1, rfl, _, rfl⟩
  refine wpAny_pyIter_list hl ?_
  obtain ⟨a, b, c, d, e⟩ := iter_made9 (o := { cls := .type "list_iterator", data := .fields #[.ref D, .int 0 0] }) F N rfl
  exact h _ _ a b c d e ⟨⟨_, Heap.get?_push_size _ rfl, rfl, rfl⟩, hl.push _⟩ (Ne.symm (c _ hD))
theorem pyIter_ascii9 {x : Str} {t : Tok} {LED : List (Addr × Obj)} {Q : Value → Shared → Prop} (ha : x.cps.all (· < 128) = true) (F : Fr h₀ L s.heap m) (N : News h₀ L s.heap LED)
    (h : ∀ I h', Fr h₀ L h' m → News h₀ L h' LED → OffI I LED → L ≠ I → h₀.get? I = none → h'.IsStrIter I "str_ascii_iterator" x t 0 → Q (.ref I) { s with heap := h' }) : wpAny (model prog w) A (pyIter (.str x t)) Q E s := by
  refine wpAny_pyIter_ascii ha ?_
  obtain ⟨a, b, c, d, e⟩ := iter_made9 (o := _) F N rfl
  exact h _ _ a b c d e ⟨_, Heap.get?_push_size _ rfl, rfl, rfl⟩
theorem sign01 {i : Nat} {v : Value} (h : SignAt (Str.ofString "01") i v) : ∃ b t, v = .str (wordStr [b]) t ∧ b = decide (i = 1) ∧ i < 2 := by
  obtain ⟨c, t, hc, rfl⟩ := h
  match i, hc with
  | 0, hc =>
    have : (Str.ofString "01").cps[0]? = some 48 := by decide +kernel
    rw [this] at hc; cases hc
    exact ⟨false, t, rfl, rfl, by decide⟩
  | 1, hc =>
    have : (Str.ofString "01").cps[1]? = some 49 := by decide +kernel
    rw [this] at hc; cases hc
    exact ⟨true, t, rfl, rfl, by decide⟩
  | i + 2, hc =>
    have : (Str.ofString "01").cps.size = 2 := by decide +kernel
    rw [Array.getElem?_eq_none (by exact Mine.r188 this)] at hc; cases hc
end
end Mine
end
section
open PySem PySem.W PyProof.Rows PySem.Spec PySem.Calls
set_option maxRecDepth 100000
namespace Mine
theorem fmc {α β : Type} {f g : α → Option β} : ∀ {l : List α}, (∀ x ∈ l, f x = g x) → l.filterMap f = l.filterMap g
  | [], _ => rfl
  | a :: r, h => by rw [List.filterMap_cons, List.filterMap_cons, h a (.head _), fmc fun x hx => h x (.tail _ hx)]
section
variable {prog : Program} {w : World} {A : Around} {E E' : Value → Shared → Prop} {s s1 : Shared} {env : Env} {tg : Expr} {body : List Stmt} {it : Value} {Q : Flow → Shared → Prop} {h₀ : Heap} {L : Addr} {δ : Type}
noncomputable def ForTurnT (prog : Program) (w : World) (A : Around) (E : Value → Shared → Prop) (env : Env) (tg : Expr) (it : Value) (body : List Stmt) (Q : Flow → Shared → Prop) (I : Nat → Shared → Prop) (n : Nat) (r : Option Value) (s₁ : Shared) : Prop := match r with
  | none => wpAny (model prog w) A (execs [] env) Q E s₁
  | some v => wpAny (model prog w) A (letOwnedTupleGo tg it v) (fun _ s₁' => wpAny (model prog w) A (assign tg env v) (fun _ s₂ => wpAny (model prog w) A (execs body env) (WPost I n Q) E s₂) E s₁') E s₁
theorem for_indT (hE : PassesOwn (model prog w) A env E) (I : Nat → Shared → Prop) (turn : ∀ n s, I n s → wpAny (model prog w) A (pyNext it) (ForTurnT prog w A E env tg it body Q I n) E s) (n : Nat) (h : I n s) :
    codeAny (model prog w) A (.forLoop tg it body [] env) (fun r s' => match r with | .ok f => Q f s' | .error e => cameBackBy (model prog w) A env E e s') s := by
  refine codeAny_forLoop_any I (fun n s hI => wpAny_passesOwn hE (wpAny_mono (turn n s hI) (fun r s₁ hr => ?_) fun _ _ e => e)) n h
  cases r with
  | none => exact wpAny_passesOwn hE hr
  | some v =>
    refine wpAny_passesOwn hE (wpAny_mono hr (fun _ s₁' hr' => ?_) fun _ _ e => e)
    refine wpAny_passesOwn hE (wpAny_mono hr' (fun _ s₂ h₂ => wpAny_passesOwn hE (wpAny_mono h₂ (fun f s₃ h₃ => ?_) fun _ _ e => e)) fun _ _ e => e)
    cases f with
    | next => exact h₃
    | cont => exact h₃
    | brk => exact h₃
    | ret v => exact h₃
inductive LoopT {δ : Type} (h₀ : Heap) (L : Addr) (s1 : Shared) (St : Nat → Heap → Prop) (mF : δ → Str → Option Value) (LED : δ → List (Addr × Obj)) (P : Addr → Nat → δ → Prop) (N : Nat) (I : Addr) (n : Nat) (s' : Shared) : Prop
  | mk (i : Nat) (d : δ) (h : Heap) (tk : Nat) (oI : Obj) (k0 : n + i = N) (k1 : s' = { s1 with heap := h, toks := tk }) (k2 : Fr h₀ L h (mF d)) (k3 : News h₀ L h ((I, oI) :: LED d)) (k4 : St i h) (k5 : (∀ p ∈ LED d, p.1 ≠ I)) (k6 : P I i d)
theorem over_src (mF : δ → Str → Option Value) (LED : δ → List (Addr × Obj)) (P : Addr → Nat → δ → Prop) (d0 : δ) {I : Addr} {n : Nat} {P1 : Nat → Value → Prop} {St : Nat → Heap → Prop} {m : Str → Option Value} {news : List (Addr × Obj)}
    (S : Src9 prog w A h₀ L LED I n P1 St) (F : Fr h₀ L s.heap m) (N : News h₀ L s.heap news) (off : ∀ p ∈ news, p.1 ≠ I) (hIL : L ≠ I) (hI0 : h₀.get? I = none) (hst : St 0 s.heap)
    (hs : ∃ h tk, s = { s1 with heap := h, toks := tk }) (hm : ∀ y, mF d0 y = m y) (hl : ∀ p ∈ LED d0, p ∈ news) (hP : P I 0 d0)
    (hgo : ∀ i v (s : Shared) (Q : Unit → Shared → Prop) (E : Value → Shared → Prop), P1 i v → St (i + 1) s.heap → Q () s → wpAny (model prog w) A (letOwnedTupleGo tg (.ref I) v) Q E s)
    (turn : ∀ oI i d h tk v, i < n → P1 i v → Fr h₀ L h (mF d) → News h₀ L h ((I, oI) :: LED d) → (∀ p ∈ LED d, p.1 ≠ I) → P I i d →
      wpAny (model prog w) A (assign tg env v) (fun _ s₂ => wpAny (model prog w) A (execs body env) (TurnEnd h₀ L s1 mF LED P I oI (i + 1) Q) E s₂) E { s1 with heap := h, toks := tk })
    (fin : ∀ d h tk, Fr h₀ L h (mF d) → News h₀ L h (LED d) → P I n d → wpAny (model prog w) A (execs [] env) Q E { s1 with heap := h, toks := tk })
    (hE : PassesOwn (model prog w) A env E) :
    codeAny (model prog w) A (.forLoop tg (.ref I) body [] env) (fun r s' => match r with | .ok f => Q f s' | .error e => cameBackBy (model prog w) A env E e s') s := by
  obtain ⟨fp, W⟩ := S.walks
  obtain ⟨hh, tk, rfl⟩ := hs
  obtain ⟨oI, hoI⟩ := S.obj _ _ hst
  refine for_indT hE (LoopT h₀ L s1 St mF LED P n I) ?_ n ⟨0, d0, hh, tk, oI, rfl, rfl, fr_ext F hm, fun p hp => ?_, hst, fun p hp => off p (hl p hp), hP⟩
  · intro k s' ⟨i, d, h, tk, oI, hni, e, F3, N3, hst3, off3, hp⟩
    subst e
    have zI := N3 (I, oI) List.mem_cons_self
    have NL : News h₀ L h (LED d) := fun p hp => N3 p (.tail _ hp)
    by_cases hi : i < n
    · refine W.item i _ _ _ hi hst3 fun v h₂ tk₂ hPv hst₂ hk₂ => ?_
      have F₂ : Fr h₀ L h₂ (mF d) := LCg.fr_but F3 hk₂ hIL hI0
      have N₂ := LCg.news_but NL hk₂ off3
      obtain ⟨oI2, heI⟩ := S.obj _ _ hst₂
      refine hgo i v _ _ _ hPv hst₂ ?_
      refine wpAny_mono (turn oI2 i d h₂ tk₂ v hi hPv F₂ (fun p hp => ?_) off3 hp) (fun _ s₂ h2 => ?_) fun _ _ e => e
      · rcases List.mem_cons.mp hp with rfl | hp
        · exact ⟨heI, zI.2⟩
        · exact N₂ p hp
      refine wpAny_mono h2 (fun f s₃ h3 => ?_) fun _ _ e => e
      have key : TurnOk h₀ L s1 mF LED P I oI2 (i + 1) s₃ → ∃ n', n' < k ∧ LoopT h₀ L s1 St mF LED P n I n' s₃ := fun ⟨d', h', tk', e, F', N', off', hP'⟩ =>
        ⟨k - 1, by exact Mine.r17 hi hni, i + 1, d', h', tk', oI2, by exact Mine.r19 hi hni, e, F', N', S.stay _ _ _ _ d' hst₂ heI (N' (I, oI2) (.head _)).1 F'.keep (fun p hp => N' p (.tail _ hp)), off', hP'⟩
      cases f with
      | next => exact key h3
      | cont => exact key h3
      | brk => exact h3
      | ret v => exact h3
    · obtain rfl : i = n := by exact Mine.r15 hni hi
      refine W.done _ _ _ hst3 fun h₂ tk₂ hk₂ => ?_
      exact fin d h₂ tk₂ (LCg.fr_but F3 hk₂ hIL hI0) (LCg.news_but NL hk₂ off3) hp
  · rcases List.mem_cons.mp hp with rfl | hp
    · exact ⟨hoI, Ne.symm hIL, hI0⟩
    · exact N p (hl p hp)
end
section
open LCg
variable {prog : Program} {w : World} {A : Around} {E : Value → Shared → Prop} {s : Shared} {h₀ : Heap} {L : Addr} {m : Str → Option Value} {δ : Type}
theorem src_dict9 {K : Type} [DecidableEq K] {knd : KeyKind prog w K} {LED : δ → List (Addr × Obj)} {I D : Addr} {o : Obj} {kvs : List (K × Value)} {ep : Nat} (hh : A.handled = none) (hI : I ≠ D) (hD : ∀ d, (D, o) ∈ LED d)
    (hdict : ∀ h : Heap, h.get? D = some o → h.DictAt knd D kvs ep) : Src9 prog w A h₀ L LED I kvs.length (fun i v => ∃ k x, kvs[i]? = some (k, x) ∧ knd.is k v = true) (fun i h => h.IsKeyIter I D i kvs.length ep ∧ h.DictAt knd D kvs ep) :=
  ⟨⟨_, Walks.dictKeys hh I D hI.symm kvs ep⟩, fun i h st => by obtain ⟨o, e, _⟩ := st.1; exact ⟨o, e⟩, fun i h h' o d st e e' _ N => by
    obtain ⟨o1, e1, r⟩ := st.1
    rw [e] at e1
    cases e1
    exact ⟨⟨o, e', r⟩, hdict _ (N _ (hD d)).1⟩⟩
theorem pyIter_dict9 {K : Type} [DecidableEq K] {knd : KeyKind prog w K} {D : Addr} {o : Obj} {kvs : List (K × Value)} {ep : Nat} {LED : List (Addr × Obj)} {Q : Value → Shared → Prop} (hsm : (D == sysModules) = false) (F : Fr h₀ L s.heap m) (N : News h₀ L s.heap LED) (hD : (D, o) ∈ LED)
    (hdict : ∀ h : Heap, h.get? D = some o → h.DictAt knd D kvs ep)
    (h : ∀ I h', Fr h₀ L h' m → News h₀ L h' LED → OffI I LED → L ≠ I → h₀.get? I = none → h'.IsKeyIter I D 0 kvs.length ep ∧ h'.DictAt knd D kvs ep → I ≠ D → Q (.ref I) { s with heap := h' }) : wpAny (model prog w) A (pyIter (.ref D)) Q E s := by
  have hl := hdict s.heap (N _ hD).1
  refine wpAny_pyIter_dict hsm hl ?_
  obtain ⟨a, b, c, d, e⟩ := iter_made9 (o := { cls := .type "dict_keyiterator", data := .fields #[.ref D, .int 0 0, .int kvs.length 0, .int ep 0] }) F N rfl
  exact h _ _ a b c d e ⟨⟨_, Heap.get?_push_size _ rfl, rfl, rfl⟩, hl.push _⟩ (Ne.symm (c _ hD))
theorem src_tup9 {LED : δ → List (Addr × Obj)} {I D : Addr} {items : Array Value} {z : Nat} (hh : A.handled = none) (hI : I ≠ D) (hD : ∀ d, (D, ({ cls := .type "tuple", data := .seq items z } : Obj)) ∈ LED d) : Src9 prog w A h₀ L LED I items.size (fun i v => items[i]? = some v) (fun i h => h.IsTupleIter I D i ∧ h.IsTuple D items) :=
  ⟨⟨_, Walks.tuple hh I D hI.symm items⟩, fun i h st => by obtain ⟨o, e, _⟩ := st.1; exact ⟨o, e⟩, fun i h h' o d st e e' _ N => by
    obtain ⟨o1, e1, r⟩ := st.1
    rw [e] at e1
    cases e1
    exact ⟨⟨o, e', r⟩, ⟨_, (N _ (hD d)).1, rfl, _, rfl⟩⟩⟩
theorem pyIter_tup9 {D : Addr} {items : Array Value} {z : Nat} {LED : List (Addr × Obj)} {Q : Value → Shared → Prop} (F : Fr h₀ L s.heap m) (N : News h₀ L s.heap LED) (hD : (D, ({ cls := .type "tuple", data := .seq items z } : Obj)) ∈ LED)
    (h : ∀ I h', Fr h₀ L h' m → News h₀ L h' LED → OffI I LED → L ≠ I → h₀.get? I = none → h'.IsTupleIter I D 0 ∧ h'.IsTuple D items → I ≠ D → Q (.ref I) { s with heap := h' }) : wpAny (model prog w) A (pyIter (.ref D)) Q E s := by
  have hl : s.heap.IsTuple D items := ⟨_, (N _ hD).1, rfl, _, rfl⟩
  refine wpAny_pyIter_tuple hl ?_
  obtain ⟨a, b, c, d, e⟩ := iter_made9 (o := { cls := .type "tuple_iterator", data := .fields #[.ref D, .int 0 0] }) F N rfl
  exact h _ _ a b c d e ⟨⟨_, Heap.get?_push_size _ rfl, rfl, rfl⟩, hl.push _⟩ (Ne.symm (c _ hD))
theorem pick_back (vs : List Value) : slicePick vs.toArray none none (some (-1)) = vs.reverse.toArray := by
  have e : sliceBounds none none (some (-1)) vs.length = ((vs.length : Int) - 1, -1, -1) := by simp [sliceBounds]
  unfold slicePick
  rw [List.size_toArray, e]
  apply congrArg List.toArray
  have hc : (sliceRange ((vs.length : Int) - 1) (-1) (-1)) = (List.range vs.length).map fun k => vs.length - 1 - k := by
    unfold sliceRange
    have : ¬ ((-1 : Int) > 0) := by decide
    simp only [this, if_false]
    have e2 : (if ((vs.length : Int) - 1) > -1 then (((vs.length : Int) - 1) - -1 - -1 - 1) / (- -1) else 0).toNat = vs.length := by
      split
      · rw [show (- -1 : Int) = 1 by decide, Int.ediv_one]; omega
      · omega
    rw [e2]
    refine List.map_congr_left fun k hk => ?_
    have := List.mem_range.mp hk
    omega
  rw [hc]
  apply List.ext_getElem?
  intro i
  rw [List.filterMap_map]
  have h2 : (List.range vs.length).filterMap ((fun x => vs.toArray[x]?) ∘ fun k => vs.length - 1 - k) = (List.range vs.length).map fun k => vs.reverse.getD k .none := by
    rw [← List.filterMap_eq_map]
    refine fmc fun k hk => ?_
    have hk' := List.mem_range.mp hk
    show vs.toArray[vs.length - 1 - k]? = some (vs.reverse.getD k .none)
    rw [List.getElem?_toArray, List.getD_eq_getElem?_getD, List.getElem?_reverse hk', List.getElem?_eq_getElem (by exact Mine.r195 hk')]
    rfl
  rw [h2, List.getElem?_map]
  by_cases hi : i < vs.length
  · rw [List.getElem?_range hi]
    show some (vs.reverse.getD i .none) = _
    rw [List.getD_eq_getElem?_getD, List.getElem?_eq_getElem (by rw [List.length_reverse]; exact hi)]
    rfl
  · rw [List.getElem?_eq_none (by rw [List.length_range]; exact Mine.r1 hi), List.getElem?_eq_none (by rw [List.length_reverse]; exact Mine.r1 hi)]
    rfl
end
end Mine
end
section
open PySem
namespace Mine
noncomputable abbrev Waits := Wd → Option Wd
noncomputable def setW (W : Waits) (u : Wd) (o : Option Wd) : Waits := fun x => if x = u then o else W x
noncomputable def climb : Nat → Waits → Wd → Waits × List Wd
  | 0, W, _ => (W, [])
  | f + 1, W, v => match W v.dropLast with
    | none => (setW W v.dropLast (some v), [v])
    | some e => if e = v then (W, [v]) else ((climb f (setW W v.dropLast none) v.dropLast).1, v :: (climb f (setW W v.dropLast none) v.dropLast).2)
theorem climb_none {f : Nat} {W : Waits} {v : Wd} (h : W v.dropLast = none) : climb (f + 1) W v = (setW W v.dropLast (some v), [v]) := by unfold climb; rw [h]
theorem climb_same {f : Nat} {W : Waits} {v : Wd} (h : W v.dropLast = some v) : climb (f + 1) W v = (W, [v]) := by unfold climb; rw [h]; dsimp only; rw [if_pos rfl]
theorem climb_other {f : Nat} {W : Waits} {v e : Wd} (h : W v.dropLast = some e) (hne : e ≠ v) : climb (f + 1) W v = ((climb f (setW W v.dropLast none) v.dropLast).1, v :: (climb f (setW W v.dropLast none) v.dropLast).2) := by
  conv => lhs; unfold climb
  rw [h]; dsimp only; rw [if_neg hne]
noncomputable def Is1 (v : Wd) : Prop := ∃ r, v = true :: r
noncomputable def GoodWt (W : Waits) : Prop := ∀ u e, W u = some e → e.dropLast = u ∧ Is1 e
theorem snoc_last {v : Wd} (h : v ≠ []) : ∃ b, v = v.dropLast ++ [b] := ⟨v.getLast h, (List.dropLast_concat_getLast h).symm⟩
theorem Is1.ne {v : Wd} (h : Is1 v) : v ≠ [] := by obtain ⟨r, rfl⟩ := h; simp
theorem GoodWt.none {W : Waits} (h : GoodWt W) (u : Wd) : GoodWt (setW W u none) := fun x e he => by
  unfold setW at he
  by_cases q : x = u
  · rw [if_pos q] at he; cases he
  · rw [if_neg q] at he; exact h x e he
theorem drop_snoc {w : Wd} {b : Bool} : (w ++ [b]).dropLast = w := by simp
structure Climbed (W : Waits) (v : Wd) (r : Waits × List Wd) : Prop where
  good : GoodWt r.1
  is1 : ∀ x ∈ r.2, Is1 x ∧ x.length ≤ v.length
  mem : ∀ w, w ∈ r.2 ↔ w = v ∨ ∃ b, w ++ [b] ∈ r.2 ∧ ∃ e, W w = some e ∧ e ≠ w ++ [b]
  off : ∀ u, (∀ b, u ++ [b] ∉ r.2) → r.1 u = W u
  on : ∀ u b, u ++ [b] ∈ r.2 → r.1 u = match W u with
    | .none => some (u ++ [b])
    | some e => if e = u ++ [b] then some e else .none
  desc : r.2.Pairwise fun x y => y.length < x.length
theorem climb_spec : ∀ (f : Nat) (W : Waits) (v : Wd), v.length = f → Is1 v → GoodWt W → Climbed W v (climb f W v)
  | 0, W, v, hf, h1, _ => by obtain ⟨r, rfl⟩ := h1; simp at hf
  | f + 1, W, v, hf, h1, hW => by
    obtain ⟨b0, hb0⟩ := snoc_last h1.ne
    have hl : v.dropLast.length = f := by rw [List.length_dropLast]; exact Mine.r83 hf
    unfold climb
    cases hq : W v.dropLast with
    | none =>
      dsimp only
      have e1 : ∀ w b, w ++ [b] ∈ [v] → w = v.dropLast := fun w b h => by rw [← List.mem_singleton.mp h, drop_snoc]
      refine ⟨?_, ?_, ?_, ?_, ?_, List.pairwise_singleton _ _⟩
      · intro u e he
        have he' : (if u = v.dropLast then some v else W u) = some e := he
        by_cases q : u = v.dropLast
        · rw [if_pos q] at he'; cases he'; exact ⟨q.symm, h1⟩
        · rw [if_neg q] at he'; exact hW u e he'
      · intro x hx; rw [List.mem_singleton.mp hx]; exact ⟨h1, Nat.le_refl _⟩
      · intro w
        refine ⟨fun h => .inl (List.mem_singleton.mp h), fun h => ?_⟩
        rcases h with rfl | ⟨b, hb, e, he, _⟩
        · exact .head _
        · rw [e1 w b hb, hq] at he; cases he
      · intro u hu
        show setW W _ _ u = _
        unfold setW
        rw [if_neg]
        intro q
        exact hu b0 (by rw [q, ← hb0]; exact .head _)
      · intro u b hb
        show setW W _ _ u = _
        unfold setW
        have := e1 u b hb
        rw [if_pos this, this, hq]
        dsimp only
        rw [← this, List.mem_singleton.mp hb]
    | some e =>
      dsimp only
      have hg := hW _ _ hq
      by_cases hev : e = v
      · subst hev
        rw [if_pos rfl]
        have e1 : ∀ w b, w ++ [b] ∈ [e] → w = e.dropLast := fun w b h => by rw [← List.mem_singleton.mp h, drop_snoc]
        refine ⟨hW, ?_, ?_, fun _ _ => rfl, ?_, List.pairwise_singleton _ _⟩
        · intro x hx; rw [List.mem_singleton.mp hx]; exact ⟨h1, Nat.le_refl _⟩
        · intro w
          refine ⟨fun h => .inl (List.mem_singleton.mp h), fun h => ?_⟩
          rcases h with rfl | ⟨b, hb, e', he, hne⟩
          · exact .head _
          · rw [e1 w b hb, hq] at he
            cases he
            exact absurd (List.mem_singleton.mp hb).symm hne
        · intro u b hb
          have := e1 u b hb
          show W u = _
          rw [this, hq]
          dsimp only
          rw [← this, List.mem_singleton.mp hb, if_pos rfl]
      · rw [if_neg hev]
        have h1' : Is1 v.dropLast := by
          obtain ⟨r, hr⟩ := h1
          cases r with
          | nil =>
            exfalso
            obtain ⟨hd, r2, hr2⟩ := hg
            subst hr
            subst hr2
            cases r2 with
            | nil => exact hev rfl
            | cons a t => simp at hd
          | cons a t => exact ⟨(a :: t).dropLast, by rw [hr]; rfl⟩
        have ih := climb_spec f (setW W v.dropLast none) v.dropLast hl h1' (hW.none _)
        generalize climb f (setW W v.dropLast none) v.dropLast = r at ih
        have lt : ∀ w b, w ++ [b] ∈ r.2 → w ≠ v.dropLast := fun w b hb q => by
          have := (ih.is1 _ hb).2
          rw [q, List.length_append, List.length_singleton] at this
          exact Mine.r50 this
        have same : ∀ w, w ≠ v.dropLast → setW W v.dropLast none w = W w := fun w q => by unfold setW; rw [if_neg q]
        have atv : setW W v.dropLast none v.dropLast = none := by unfold setW; rw [if_pos rfl]
        refine ⟨ih.good, ?_, ?_, ?_, ?_, ?_⟩
        · intro x hx
          rcases List.mem_cons.mp hx with rfl | hx
          · exact ⟨h1, Nat.le_refl _⟩
          · have := ih.is1 x hx; exact ⟨this.1, by exact Mine.r326 hl hf this.2⟩
        · intro w
          constructor
          · intro h
            rcases List.mem_cons.mp h with rfl | h
            · exact .inl rfl
            rcases (ih.mem w).mp h with rfl | ⟨b, hb, e', he, hne⟩
            · exact .inr ⟨b0, by rw [← hb0]; exact .head _, e, hq, fun q => hev (by rw [q, ← hb0])⟩
            · exact .inr ⟨b, .tail _ hb, e', by rw [← same w (lt w b hb)]; exact he, hne⟩
          · intro h
            rcases h with rfl | ⟨b, hb, e', he, hne⟩
            · exact .head _
            rcases List.mem_cons.mp hb with hb | hb
            · have : w = v.dropLast := by rw [← hb, drop_snoc]
              exact .tail _ ((ih.mem w).mpr (.inl this))
            · exact .tail _ ((ih.mem w).mpr (.inr ⟨b, hb, e', by rw [same w (lt w b hb)]; exact he, hne⟩))
        · intro u hu
          have hne : u ≠ v.dropLast := fun q => hu b0 (by rw [q, ← hb0]; exact .head _)
          show r.1 u = W u
          rw [ih.off u fun b hb => hu b (.tail _ hb), same u hne]
        · intro u b hb
          show r.1 u = _
          rcases List.mem_cons.mp hb with hb | hb
          · have hu : u = v.dropLast := by rw [← hb, drop_snoc]
            have := ih.off u fun b' hb' => lt u b' hb' hu
            rw [this, hu, atv, hq]
            dsimp only
            rw [← hu, hb, if_neg hev]
          · rw [ih.on u b hb, same u (lt u b hb)]
        · refine List.pairwise_cons.mpr ⟨fun y hy => ?_, ih.desc⟩
          have := (ih.is1 y hy).2
          exact Mine.r327 hl hf this
noncomputable def runsW : Waits → List Wd → List (List Wd) × Waits
  | W, [] => ([], W)
  | W, v :: r => ((climb v.length W v).2 :: (runsW (climb v.length W v).1 r).1, (runsW (climb v.length W v).1 r).2)
theorem look_snocW {sub : List (Wd × Wd)} {u v : Wd} (h : sub.lookup u = none) : (fun x => (sub ++ [(u, v)]).lookup x) = setW (fun x => sub.lookup x) u (some v) := by
  funext x
  unfold setW
  induction sub with
  | nil =>
    show List.lookup x [(u, v)] = _
    rw [List.lookup_cons]
    by_cases q : x = u
    · rw [if_pos q, beq_iff_eq.mpr q]
    · rw [if_neg q, beq_eq_false_iff_ne.mpr q]
  | cons p r ih =>
    show List.lookup x (p :: (r ++ [(u, v)])) = if x = u then some v else List.lookup x (p :: r)
    rw [List.lookup_cons] at h
    rw [List.lookup_cons, List.lookup_cons]
    cases hp : u == p.1 with
    | true => rw [hp] at h; cases h
    | false =>
      rw [hp] at h
      have ih := ih h
      cases hx : x == p.1 with
      | true =>
        have : x ≠ u := fun q => by rw [← q, hx] at hp; cases hp
        rw [if_neg this]
      | false => exact ih
theorem look_filterW {sub : List (Wd × Wd)} {u : Wd} : (fun x => (sub.filter fun p => p.1 != u).lookup x) = setW (fun x => sub.lookup x) u none := by
  funext x
  unfold setW
  induction sub with
  | nil => show none = _; split <;> rfl
  | cons p r ih =>
    rw [List.filter_cons]
    by_cases q : p.1 = u
    · have : (p.1 != u) = false := by rw [q]; simp
      rw [this]
      simp only [Bool.false_eq_true, if_false]
      rw [ih, List.lookup_cons]
      by_cases hx : x = u
      · rw [if_pos hx, if_pos hx]
      · rw [if_neg hx, if_neg hx, beq_eq_false_iff_ne.mpr (by rw [q]; exact hx)]
    · have : (p.1 != u) = true := bne_iff_ne.mpr q
      rw [this]
      simp only [if_true]
      rw [List.lookup_cons, List.lookup_cons]
      cases hx : x == p.1 with
      | true =>
        have : x ≠ u := fun z => q (by rw [← beq_iff_eq.mp hx]; exact z)
        rw [if_neg this]
      | false => exact ih
theorem climb_fin : ∀ (f : Nat) (v : Wd) (p : List Wd) (sub : List (Wd × Wd)) (a : List Wd), v.length = f → Is1 v → GoodWt (fun x => sub.lookup x) →
    ∃ sub', cfin List.dropLast ⟨p ++ [v], sub, a⟩ = cfin List.dropLast ⟨p, sub', a ++ (climb f (fun x => sub.lookup x) v).2⟩ ∧ (fun x => sub'.lookup x) = (climb f (fun x => sub.lookup x) v).1
  | 0, v, _, _, _, hf, h1, _ => by obtain ⟨r, rfl⟩ := h1; simp at hf
  | f + 1, v, p, sub, a, hf, h1, hW => by
    obtain ⟨b0, hb0⟩ := snoc_last h1.ne
    have hne : (CSt.mk (p ++ [v]) sub a).todo ≠ [] := by simp
    cases hq : sub.lookup v.dropLast with
    | none =>
      rw [climb_none (W := fun x => sub.lookup x) hq]
      refine ⟨sub ++ [(v.dropLast, v)], ?_, look_snocW hq⟩
      rw [← cfin_step hne, cstep_none rfl hq]
    | some e =>
      have hg := hW _ _ hq
      by_cases hev : e = v
      · subst hev
        rw [climb_same (W := fun x => sub.lookup x) hq]
        refine ⟨sub, ?_, rfl⟩
        rw [← cfin_step hne, cstep_same rfl hq]
      · rw [climb_other (W := fun x => sub.lookup x) hq hev]
        have h1' : Is1 v.dropLast := by
          obtain ⟨r, hr⟩ := h1
          cases r with
          | nil =>
            exfalso
            obtain ⟨hd, r2, hr2⟩ := hg
            subst hr
            subst hr2
            cases r2 with
            | nil => exact hev rfl
            | cons a t => simp at hd
          | cons a t => exact ⟨(a :: t).dropLast, by rw [hr]; rfl⟩
        have hl : v.dropLast.length = f := by rw [List.length_dropLast]; exact Mine.r83 hf
        have hg2 : GoodWt (fun x => (sub.filter fun p => p.1 != v.dropLast).lookup x) := by rw [look_filterW]; exact hW.none _
        obtain ⟨sub', e1, e2⟩ := climb_fin f v.dropLast p (sub.filter fun p => p.1 != v.dropLast) (a ++ [v]) hl h1' hg2
        rw [look_filterW] at e1 e2
        refine ⟨sub', ?_, e2⟩
        rw [← cfin_step hne, cstep_other rfl hq hev, e1, List.append_assoc]
        rfl
theorem fin_runs : ∀ (back : List Wd) (sub : List (Wd × Wd)) (a : List Wd), (∀ v ∈ back, Is1 v) → GoodWt (fun x => sub.lookup x) →
    (cfin List.dropLast ⟨back.reverse, sub, a⟩).asked = a ++ (runsW (fun x => sub.lookup x) back).1.flatten ∧ (fun x => (cfin List.dropLast ⟨back.reverse, sub, a⟩).sub.lookup x) = (runsW (fun x => sub.lookup x) back).2
  | [], sub, a, _, _ => by rw [List.reverse_nil, cfin_done rfl]; simp [runsW]
  | v :: r, sub, a, h, hW => by
    have h1 := h v (.head _)
    obtain ⟨sub', e1, e2⟩ := climb_fin v.length v r.reverse sub a rfl h1 hW
    have hg := (climb_spec v.length _ v rfl h1 hW).good
    obtain ⟨q1, q2⟩ := fin_runs r sub' (a ++ (climb v.length (fun x => sub.lookup x) v).2) (fun u hu => h u (.tail _ hu)) (by rw [e2]; exact hg)
    rw [List.reverse_cons, e1]
    refine ⟨?_, ?_⟩
    · rw [q1, e2]; simp [runsW]
    · rw [q2, e2]; rfl
end Mine
end
section
open PySem
namespace Mine
noncomputable def hits (w : Wd) : List (List Wd) → Nat → List Nat
  | [], _ => []
  | c :: r, k => (if w ∈ c then [k] else []) ++ hits w r (k + 1)
noncomputable def rowsOf (w : Wd) : List Wd → Nat → List Nat
  | [], _ => []
  | v :: r, k => (if v = w then [k] else []) ++ rowsOf w r (k + 1)
noncomputable def evAt (w : Wd) (c : List Wd) (k : Nat) : List (Nat × Bool) := if w ++ [false] ∈ c then [(k, false)] else if w ++ [true] ∈ c then [(k, true)] else []
noncomputable def evs (w : Wd) : List (List Wd) → Nat → List (Nat × Bool)
  | [], _ => []
  | c :: r, k => evAt w c k ++ evs w r (k + 1)
noncomputable def scan : Option Bool → List (Nat × Bool) → Option Bool × List Nat
  | o, [] => (o, [])
  | none, (_, b) :: r => scan (some b) r
  | some c, (i, b) :: r => if c = b then scan (some c) r else ((scan none r).1, i :: (scan none r).2)
noncomputable def wb (o : Option Wd) : Option Bool := o.bind List.getLast?
theorem same_len {l : List Wd} (h : l.Pairwise fun x y => y.length < x.length) {x y : Wd} (hx : x ∈ l) (hy : y ∈ l) (e : x.length = y.length) : x = y := by
  induction l with
  | nil => cases hx
  | cons a r ih =>
    have h' := List.pairwise_cons.mp h
    rcases List.mem_cons.mp hx with ex | hx
    · rcases List.mem_cons.mp hy with ey | hy
      · rw [ex, ey]
      · rw [ex] at e; have := h'.1 y hy; exact (Mine.r23 this e).elim
    · rcases List.mem_cons.mp hy with ey | hy
      · rw [ey] at e; have := h'.1 x hx; exact (Mine.r24 this e).elim
      · exact ih h'.2 hx hy
theorem wb_snoc {w : Wd} {b : Bool} : wb (some (w ++ [b])) = some b := by simp [wb]
theorem ev_case {w : Wd} {c : List Wd} {k : Nat} (h : c.Pairwise fun x y => y.length < x.length) : (evAt w c k = [] ∧ ∀ b, w ++ [b] ∉ c) ∨ ∃ b, evAt w c k = [(k, b)] ∧ w ++ [b] ∈ c ∧ ∀ b', w ++ [b'] ∈ c → b' = b := by
  unfold evAt
  have uniq : ∀ b b', w ++ [b] ∈ c → w ++ [b'] ∈ c → b' = b := fun b b' h1 h2 => by
    have := same_len h h1 h2 (by simp)
    simpa using (List.append_cancel_left this).symm
  by_cases h0 : w ++ [false] ∈ c
  · rw [if_pos h0]
    exact .inr ⟨false, rfl, h0, fun b' hb' => uniq _ _ h0 hb'⟩
  · rw [if_neg h0]
    by_cases h1 : w ++ [true] ∈ c
    · rw [if_pos h1]
      exact .inr ⟨true, rfl, h1, fun b' hb' => uniq _ _ h1 hb'⟩
    · rw [if_neg h1]
      exact .inl ⟨rfl, fun b => by cases b <;> assumption⟩
theorem clock (w : Wd) : ∀ (back : List Wd) (k : Nat) (W : Waits), (∀ v ∈ back, Is1 v) → GoodWt W →
    (scan (wb (W w)) (evs w (runsW W back).1 k)).1 = wb ((runsW W back).2 w) ∧ (hits w (runsW W back).1 k).Perm (rowsOf w back k ++ (scan (wb (W w)) (evs w (runsW W back).1 k)).2) ∧ GoodWt (runsW W back).2
  | [], k, W, _, hW => ⟨rfl, List.Perm.refl _, hW⟩
  | v :: r, k, W, h, hW => by
    have h1 := h v (.head _)
    have cs := climb_spec v.length W v rfl h1 hW
    have ih := clock w r (k + 1) (climb v.length W v).1 (fun u hu => h u (.tail _ hu)) cs.good
    have er : runsW W (v :: r) = ((climb v.length W v).2 :: (runsW (climb v.length W v).1 r).1, (runsW (climb v.length W v).1 r).2) := rfl
    rw [er]
    dsimp only [hits, rowsOf, evs]
    generalize climb v.length W v = c at cs ih
    generalize runsW c.1 r = t at ih
    have lt : ∀ b, w ++ [b] ∈ c.2 → v ≠ w := fun b hb e => by
      have := (cs.is1 _ hb).2
      rw [e, List.length_append, List.length_singleton] at this
      exact Mine.r50 this
    rcases ev_case (w := w) (k := k) cs.desc with ⟨e1, e2⟩ | ⟨b, e1, e2, e3⟩
    · rw [e1, List.nil_append]
      have ho := cs.off w e2
      rw [ho] at ih
      have hm : (w ∈ c.2) ↔ v = w := by
        rw [cs.mem w]
        exact ⟨fun z => z.elim (fun q => q.symm) (fun ⟨b, hb, _⟩ => absurd hb (e2 b)), fun z => .inl z.symm⟩
      refine ⟨ih.1, ?_, ih.2.2⟩
      rw [List.append_assoc]
      by_cases hv : v = w
      · rw [if_pos hv, if_pos (hm.mpr hv)]
        exact ih.2.1.append_left _
      · rw [if_neg hv, if_neg (fun z => hv (hm.mp z))]
        exact ih.2.1.append_left _
    · rw [e1]
      have hon := cs.on w b e2
      have hvw := lt b e2
      rw [if_neg hvw]
      show (scan (wb (W w)) ((k, b) :: evs w t.1 (k + 1))).1 = _ ∧ _
      cases hq : W w with
      | none =>
        rw [hq] at hon
        dsimp only at hon
        rw [hon, wb_snoc] at ih
        have hm : w ∉ c.2 := fun z => by
          rcases (cs.mem w).mp z with q | ⟨b', _, e, he, _⟩
          · exact hvw q.symm
          · rw [hq] at he; cases he
        rw [if_neg hm]
        exact ⟨ih.1, ih.2.1, ih.2.2⟩
      | some e =>
        rw [hq] at hon
        dsimp only at hon
        have hg := hW w e hq
        obtain ⟨b', hb'⟩ := snoc_last hg.2.ne
        rw [hg.1] at hb'
        subst hb'
        rw [wb_snoc]
        by_cases hbb : b' = b
        · subst hbb
          rw [if_pos rfl] at hon
          rw [hon, wb_snoc] at ih
          have hm : w ∉ c.2 := fun z => by
            rcases (cs.mem w).mp z with q | ⟨b2, hb2, e, he, hne⟩
            · exact hvw q.symm
            · rw [hq] at he
              cases he
              rw [e3 b2 hb2] at hne
              exact hne rfl
          rw [if_neg hm]
          show (scan (some b') ((k, b') :: evs w t.1 (k + 1))).1 = _ ∧ _
          have es : scan (some b') ((k, b') :: evs w t.1 (k + 1)) = scan (some b') (evs w t.1 (k + 1)) := by
            conv => lhs; unfold scan
            rw [if_pos rfl]
          rw [show [(k, b')] ++ evs w t.1 (k + 1) = (k, b') :: evs w t.1 (k + 1) from rfl, es]
          exact ⟨ih.1, ih.2.1, ih.2.2⟩
        · have hne : w ++ [b'] ≠ w ++ [b] := fun z => hbb (by simpa using List.append_cancel_left z)
          rw [if_neg hne] at hon
          rw [hon] at ih
          have hm : w ∈ c.2 := (cs.mem w).mpr (.inr ⟨b, e2, _, hq, hne⟩)
          rw [if_pos hm]
          have es : scan (some b') ((k, b) :: evs w t.1 (k + 1)) = ((scan none (evs w t.1 (k + 1))).1, k :: (scan none (evs w t.1 (k + 1))).2) := by
            conv => lhs; unfold scan
            rw [if_neg hbb]
          rw [show [(k, b)] ++ evs w t.1 (k + 1) = (k, b) :: evs w t.1 (k + 1) from rfl, es]
          refine ⟨ih.1, ?_, ih.2.2⟩
          show ([k] ++ _).Perm ([] ++ _ ++ k :: _)
          rw [List.nil_append]
          exact (ih.2.1.cons k).trans List.perm_middle.symm
theorem perm_strict {α : Type} {key : α → Nat} : ∀ {a b : List α}, a.Perm b → a.Pairwise (fun x y => key x ≤ key y) → b.Pairwise (fun x y => key x < key y) → a = b
  | [], b, p, _, _ => (List.nil_perm.mp p).symm
  | x :: a, [], p, _, _ => absurd (List.perm_nil.mp p) (by simp)
  | x :: a, y :: b, p, ha, hb => by
    have ha' := List.pairwise_cons.mp ha
    have hb' := List.pairwise_cons.mp hb
    have hxy : x = y := by
      have hx : x ∈ y :: b := p.mem_iff.mp (.head _)
      have hy : y ∈ x :: a := p.mem_iff.mpr (.head _)
      rcases List.mem_cons.mp hx with e | hx
      · exact e
      rcases List.mem_cons.mp hy with e | hy
      · exact e.symm
      have h1 := hb'.1 x hx
      have h2 := ha'.1 y hy
      exact (Mine.r135 h1 h2).elim
    subst hxy
    rw [perm_strict (List.Perm.cons_inv p) ha'.2 hb'.2]
theorem evs_ge {w : Wd} : ∀ {cs : List (List Wd)} {k : Nat}, ∀ p ∈ evs w cs k, k ≤ p.1
  | [], _, _, h => nomatch h
  | c :: r, k, p, h => by
    rcases List.mem_append.mp h with h | h
    · unfold evAt at h
      split at h
      · rw [List.mem_singleton.mp h]; exact Nat.le_refl _
      · split at h
        · rw [List.mem_singleton.mp h]; exact Nat.le_refl _
        · cases h
    · have := evs_ge p h; exact Mine.r60 this
theorem evs_strict {w : Wd} : ∀ {cs : List (List Wd)} {k : Nat}, (evs w cs k).Pairwise fun a b => a.1 < b.1
  | [], _ => .nil
  | c :: r, k => by
    refine List.pairwise_append.mpr ⟨?_, evs_strict, fun a ha b hb => ?_⟩
    · unfold evAt
      split
      · exact List.pairwise_singleton _ _
      · split
        · exact List.pairwise_singleton _ _
        · exact .nil
    · have h2 := evs_ge b hb
      unfold evAt at ha
      split at ha
      · rw [List.mem_singleton.mp ha]; show k < b.1; exact Mine.r61 h2
      · split at ha
        · rw [List.mem_singleton.mp ha]; show k < b.1; exact Mine.r61 h2
        · cases ha
noncomputable def DescAll (cs : List (List Wd)) : Prop := ∀ c ∈ cs, c.Pairwise fun x y => y.length < x.length
theorem evs_perm {w : Wd} : ∀ {cs : List (List Wd)} {k : Nat}, DescAll cs → ((hits (w ++ [false]) cs k).map (fun i => (i, false)) ++ (hits (w ++ [true]) cs k).map (fun i => (i, true))).Perm (evs w cs k)
  | [], _, _ => List.Perm.refl _
  | c :: r, k, h => by
    have ih := evs_perm (w := w) (cs := r) (k := k + 1) fun c hc => h c (.tail _ hc)
    have hc := h c (.head _)
    dsimp only [hits, evs]
    rw [List.map_append, List.map_append]
    have mid : ∀ (A B C D : List (Nat × Bool)), ((A ++ B) ++ (C ++ D)).Perm ((A ++ C) ++ (B ++ D)) := fun A B C D => by
      rw [List.append_assoc, List.append_assoc]
      refine List.Perm.append_left _ ?_
      rw [← List.append_assoc, ← List.append_assoc]
      exact List.perm_append_comm.append_right _
    refine (mid _ _ _ _).trans (List.Perm.append ?_ ih)
    rcases ev_case (w := w) (k := k) hc with ⟨e1, e2⟩ | ⟨b, e1, e2, e3⟩
    · rw [e1, if_neg (e2 _), if_neg (e2 _)]; exact List.Perm.refl _
    · rw [e1]
      cases b with
      | false => rw [if_pos e2, if_neg (fun z => by have := e3 _ z; cases this)]; exact List.Perm.refl _
      | true => rw [if_pos e2, if_neg (fun z => by have := e3 _ z; cases this)]; exact List.Perm.refl _
theorem runs_desc : ∀ (back : List Wd) (W : Waits), (∀ v ∈ back, Is1 v) → GoodWt W → DescAll (runsW W back).1
  | [], _, _, _ => fun c hc => nomatch hc
  | v :: r, W, h, hW => fun c hc => by
    have cs := climb_spec v.length W v rfl (h v (.head _)) hW
    rcases List.mem_cons.mp hc with rfl | hc
    · exact cs.desc
    · exact runs_desc r _ (fun u hu => h u (.tail _ hu)) cs.good c hc
theorem runs_words : ∀ (back : List Wd) (W : Waits) (n : Nat), (∀ v ∈ back, Is1 v ∧ v.length ≤ n) → GoodWt W → ∀ c ∈ (runsW W back).1, ∀ x ∈ c, Is1 x ∧ x.length ≤ n
  | [], _, _, _, _ => fun c hc => nomatch hc
  | v :: r, W, n, h, hW => fun c hc x hx => by
    have cs := climb_spec v.length W v rfl (h v (.head _)).1 hW
    rcases List.mem_cons.mp hc with rfl | hc
    · have := cs.is1 x hx
      have := (h v (.head _)).2
      exact ⟨(cs.is1 x hx).1, by omega⟩
    · exact runs_words r _ n (fun u hu => h u (.tail _ hu)) cs.good c hc x hx
theorem hits_none {w : Wd} : ∀ {cs : List (List Wd)} {k : Nat}, (∀ c ∈ cs, w ∉ c) → hits w cs k = []
  | [], _, _ => rfl
  | c :: r, k, h => by
    dsimp only [hits]
    rw [if_neg (h c (.head _)), hits_none fun c hc => h c (.tail _ hc)]; rfl
noncomputable def W0 : Waits := fun _ => none
theorem W0_good : GoodWt W0 := fun _ _ h => nomatch h
theorem mom_step {back : List Wd} {w : Wd} {m0 m1 : List Nat} {es : List (Nat × Bool)} (h : ∀ v ∈ back, Is1 v) (h0 : m0.Perm (hits (w ++ [false]) (runsW W0 back).1 0)) (h1 : m1.Perm (hits (w ++ [true]) (runsW W0 back).1 0))
    (hp : es.Perm (m0.map (fun i => (i, false)) ++ m1.map (fun i => (i, true)))) (hs : es.Pairwise fun a b => a.1 ≤ b.1) :
    (rowsOf w back 0 ++ (scan none es).2).Perm (hits w (runsW W0 back).1 0) ∧ (scan none es).1 = wb ((runsW W0 back).2 w) := by
  have e : es = evs w (runsW W0 back).1 0 := by
    refine perm_strict (key := fun p => p.1) (hp.trans (((h0.map _).append (h1.map _)).trans (evs_perm (runs_desc back W0 h W0_good)))) hs evs_strict
  have c := clock w back 0 W0 h W0_good
  rw [e]
  exact ⟨c.2.1.symm, c.1⟩
end Mine
end
section
open PySem
namespace Mine
noncomputable def lawAll : Nat → List Wd
  | 0 => [[true]]
  | n + 1 => (lawAll n).flatMap fun w => [w ++ [false], w ++ [true]]
noncomputable def lawU : List Wd := lawAll 3 ++ lawAll 2 ++ lawAll 1 ++ lawAll 0
theorem lawU_nodup : lawU.Nodup := by decide +kernel
theorem lawU_is : ∀ w ∈ lawU, w.head? = some true ∧ w.length ≤ 4 := by decide +kernel
theorem mem_lawU {w : Wd} (h : Is1 w) (hl : w.length ≤ 4) : w ∈ lawU := by
  obtain ⟨r, rfl⟩ := h
  match r, hl with
  | [], _ => decide +kernel
  | [a], _ => cases a <;> decide +kernel
  | [a, b], _ => cases a <;> cases b <;> decide +kernel
  | [a, b, c], _ => cases a <;> cases b <;> cases c <;> decide +kernel
  | a :: b :: c :: d :: t, hl => simp at hl
theorem is1_lawU {w : Wd} (h : w ∈ lawU) : Is1 w ∧ w.length ≤ 4 := by
  obtain ⟨h1, h2⟩ := lawU_is w h
  cases w with
  | nil => cases h1
  | cons a r => simp at h1; exact ⟨⟨r, by rw [h1]⟩, h2⟩
noncomputable def trip : List (List Wd) → Nat → List (Nat × Nat × Wd)
  | [], _ => []
  | c :: r, k => c.map (fun w => (k, w.length, w)) ++ trip r (k + 1)
section
variable {α β : Type}
theorem flat_perm {f g : α → List β} : ∀ {l : List α}, (∀ x ∈ l, (f x).Perm (g x)) → (l.flatMap f).Perm (l.flatMap g)
  | [], _ => List.Perm.refl _
  | a :: r, h => by
    rw [List.flatMap_cons, List.flatMap_cons]
    exact (h a (.head _)).append (flat_perm fun x hx => h x (.tail _ hx))
theorem flat_two {f g : α → List β} : ∀ {l : List α}, (l.flatMap fun x => f x ++ g x).Perm (l.flatMap f ++ l.flatMap g)
  | [] => List.Perm.refl _
  | a :: r => by
    rw [List.flatMap_cons, List.flatMap_cons, List.flatMap_cons]
    have ih := flat_two (f := f) (g := g) (l := r)
    have mid : ∀ (A B C D : List β), ((A ++ B) ++ (C ++ D)).Perm ((A ++ C) ++ (B ++ D)) := fun A B C D => by
      rw [List.append_assoc, List.append_assoc]
      refine List.Perm.append_left _ ?_
      rw [← List.append_assoc, ← List.append_assoc]
      exact List.perm_append_comm.append_right _
    exact (ih.append_left _).trans (mid _ _ _ _)
theorem flat_none : ∀ {l : List α}, (l.flatMap fun _ => ([] : List β)) = []
  | [] => rfl
  | _ :: r => by rw [List.flatMap_cons, flat_none]; rfl
end
theorem flat_if {f : Wd → Nat × Nat × Wd} {c : List Wd} : ∀ {l : List Wd}, (l.flatMap fun w => if w ∈ c then [f w] else []) = (l.filter fun w => decide (w ∈ c)).map f
  | [] => rfl
  | a :: r => by
    rw [List.flatMap_cons, List.filter_cons, flat_if]
    by_cases h : a ∈ c <;> simp [h]
theorem desc_nodup {c : List Wd} (h : c.Pairwise fun x y => y.length < x.length) : c.Nodup := List.Pairwise.imp (fun h e => by rw [e] at h; exact Nat.lt_irrefl _ h) h
theorem filter_perm_of {c l : List Wd} (hc : c.Nodup) (hl : l.Nodup) (h : ∀ x ∈ c, x ∈ l) : (l.filter fun w => decide (w ∈ c)).Perm c := by
  refine (List.perm_ext_iff_of_nodup (hl.filter _) hc).mpr fun a => ?_
  rw [List.mem_filter, decide_eq_true_eq]
  exact ⟨fun z => z.2, fun z => ⟨h a z, z⟩⟩
theorem trip_perm : ∀ {cs : List (List Wd)} {k : Nat}, DescAll cs → (∀ c ∈ cs, ∀ x ∈ c, x ∈ lawU) → (lawU.flatMap fun w => (hits w cs k).map fun i => (i, w.length, w)).Perm (trip cs k)
  | [], k, _, _ => by
    dsimp only [hits, trip]
    rw [show (lawU.flatMap fun w => ([] : List Nat).map fun i => (i, w.length, w)) = [] from flat_none]
  | c :: r, k, h, hu => by
    have ih := trip_perm (cs := r) (k := k + 1) (fun c hc => h c (.tail _ hc)) fun c hc => hu c (.tail _ hc)
    dsimp only [hits, trip]
    have e : (lawU.flatMap fun w => ((if w ∈ c then [k] else []) ++ hits w r (k + 1)).map fun i => (i, w.length, w)) = lawU.flatMap fun w => (if w ∈ c then [(k, w.length, w)] else []) ++ (hits w r (k + 1)).map fun i => (i, w.length, w) := by
      congr 1
      funext w
      rw [List.map_append]
      split <;> rfl
    rw [e]
    refine flat_two.trans (List.Perm.append ?_ ih)
    rw [flat_if (f := fun w => (k, w.length, w))]
    exact (filter_perm_of (desc_nodup (h c (.head _))) lawU_nodup (hu c (.head _))).map _
noncomputable def key3 (p : Nat × Nat × Wd) : Nat := p.1 * 16 + (16 - p.2.1)
theorem trip_ge : ∀ {cs : List (List Wd)} {k : Nat}, ∀ p ∈ trip cs k, k ≤ p.1
  | [], _, _, h => nomatch h
  | c :: r, k, p, h => by
    rcases List.mem_append.mp h with h | h
    · obtain ⟨w, _, rfl⟩ := List.mem_map.mp h
      exact Nat.le_refl _
    · have := trip_ge p h; exact Mine.r60 this
theorem trip_strict : ∀ {cs : List (List Wd)} {k : Nat}, DescAll cs → (∀ c ∈ cs, ∀ x ∈ c, 1 ≤ x.length ∧ x.length ≤ 4) → (trip cs k).Pairwise fun a b => key3 a < key3 b
  | [], _, _, _ => .nil
  | c :: r, k, h, hl => by
    refine List.pairwise_append.mpr ⟨?_, trip_strict (fun c hc => h c (.tail _ hc)) (fun c hc => hl c (.tail _ hc)), fun a ha b hb => ?_⟩
    · rw [List.pairwise_map]
      have hc := h c (.head _)
      have hlc := hl c (.head _)
      clear h hl
      induction c with
      | nil => exact .nil
      | cons x t ih =>
        have hc' := List.pairwise_cons.mp hc
        refine List.pairwise_cons.mpr ⟨fun y hy => ?_, ih hc'.2 fun z hz => hlc z (.tail _ hz)⟩
        have := hc'.1 y hy
        have := hlc x (.head _)
        show k * 16 + (16 - x.length) < k * 16 + (16 - y.length)
        exact Mine.r480 (by assumption) this.2
    · obtain ⟨w, hw, rfl⟩ := List.mem_map.mp ha
      have h1 := trip_ge b hb
      have h2 := hl c (.head _) w hw
      have h3 : b.2.1 ≤ 4 := by
        clear ha h1
        have : ∀ {cs : List (List Wd)} {k : Nat}, (∀ c ∈ cs, ∀ x ∈ c, x.length ≤ 4) → ∀ p ∈ trip cs k, p.2.1 ≤ 4 := by
          intro cs
          induction cs with
          | nil => intro k _ p hp; cases hp
          | cons c r ih =>
            intro k hh p hp
            rcases List.mem_append.mp hp with hp | hp
            · obtain ⟨w, hw, rfl⟩ := List.mem_map.mp hp
              exact hh c (.head _) w hw
            · exact ih (fun c hc => hh c (.tail _ hc)) p hp
        exact this (fun c hc x hx => (hl c (.tail _ hc) x hx).2) b hb
      show k * 16 + (16 - w.length) < b.1 * 16 + (16 - b.2.1)
      exact Mine.r494 h1 h2.1
theorem trip_words : ∀ {cs : List (List Wd)} {k : Nat}, (trip cs k).map (fun p => p.2.2) = cs.flatten
  | [], _ => rfl
  | c :: r, k => by
    show ((c.map fun w => (k, w.length, w)) ++ trip r (k + 1)).map _ = c ++ r.flatten
    rw [List.map_append, trip_words, List.map_map]
    congr 1
    exact List.map_id _
theorem runs_U {back : List Wd} (h : ∀ v ∈ back, Is1 v ∧ v.length ≤ 4) : DescAll (runsW W0 back).1 ∧ ∀ c ∈ (runsW W0 back).1, ∀ x ∈ c, x ∈ lawU := by
  refine ⟨runs_desc back W0 (fun v hv => (h v hv).1) W0_good, fun c hc x hx => ?_⟩
  have := runs_words back W0 4 h W0_good c hc x hx
  exact mem_lawU this.1 this.2
theorem step_nodup {c : CSt} (h : (c.sub.map (·.1)).Nodup) : ((cstep List.dropLast c).sub.map (·.1)).Nodup := by
  unfold cstep
  cases hl : c.todo.getLast? with
  | none => exact h
  | some n =>
    dsimp only
    cases hq : c.sub.lookup n.dropLast with
    | none =>
      simp only [List.map_append, List.map_cons, List.map_nil]
      refine List.nodup_append.mpr ⟨h, by simp, fun a ha b hb => ?_⟩
      rw [List.mem_singleton.mp hb]
      rintro rfl
      obtain ⟨q, hq1, hq2⟩ := List.mem_map.mp ha
      have := List.lookup_eq_none_iff.mp hq q hq1
      simp [hq2] at this
    | some e =>
      dsimp only
      split
      · exact h
      · exact h.sublist (List.Sublist.map _ List.filter_sublist)
theorem runs_nodup : ∀ (n : Nat) {c : CSt}, (c.sub.map (·.1)).Nodup → ((cruns List.dropLast n c).sub.map (·.1)).Nodup
  | 0, _, h => h
  | n + 1, _, h => runs_nodup n (step_nodup h)
theorem fm_congr {α β : Type} {f g : α → Option β} : ∀ {l : List α}, (∀ x ∈ l, f x = g x) → l.filterMap f = l.filterMap g
  | [], _ => rfl
  | a :: r, h => by rw [List.filterMap_cons, List.filterMap_cons, h a (.head _), fm_congr fun x hx => h x (.tail _ hx)]
theorem look_perm : ∀ (sub : List (Wd × Wd)) (U : List Wd), (sub.map (·.1)).Nodup → U.Nodup → (∀ p ∈ sub, p.1 ∈ U) → (U.filterMap fun u => sub.lookup u).Perm (sub.map (·.2))
  | [], U, _, _, _ => by
    have : (U.filterMap fun u => ([] : List (Wd × Wd)).lookup u) = [] := by
      rw [List.filterMap_eq_nil_iff]; intro a _; rfl
    rw [this]; exact List.Perm.refl _
  | p :: r, U, hn, hU, hs => by
    have hn' := List.nodup_cons.mp hn
    have hp : p.1 ∈ U := hs p (.head _)
    have hpU := List.perm_cons_erase hp
    refine (hpU.filterMap _).trans ?_
    rw [List.filterMap_cons, List.lookup_cons]
    simp only [beq_self_eq_true, List.map_cons]
    refine List.Perm.cons _ ?_
    have hUe : (U.erase p.1).Nodup := hU.erase _
    have hne : ∀ u ∈ U.erase p.1, u ≠ p.1 := fun u hu e => by
      have := hU.mem_erase_iff.mp hu
      exact this.1 e
    have e1 : ((U.erase p.1).filterMap fun u => (p :: r).lookup u) = (U.erase p.1).filterMap fun u => r.lookup u := by
      refine fm_congr fun u hu => ?_
      rw [List.lookup_cons, beq_eq_false_iff_ne.mpr (hne u hu)]
    rw [e1]
    refine look_perm r (U.erase p.1) hn'.2 hUe fun q hq => ?_
    refine hU.mem_erase_iff.mpr ⟨fun e => hn'.1 ?_, hs q (.tail _ hq)⟩
    show p.1 ∈ r.map (·.1)
    rw [← e]; exact List.mem_map_of_mem hq
theorem scan_true : ∀ {l : List (Nat × Bool)}, (∀ p ∈ l, p.2 = true) → (scan (some true) l) = (some true, [])
  | [], _ => rfl
  | p :: r, h => by
    obtain ⟨i, b⟩ := p
    have : b = true := h _ (.head _)
    subst this
    unfold scan
    rw [if_pos rfl]
    exact scan_true fun q hq => h q (.tail _ hq)
theorem top_waits {back : List Wd} (h : ∀ v ∈ back, Is1 v ∧ v.length ≤ 4) : (runsW W0 back).2 [] = if hits [true] (runsW W0 back).1 0 ≠ [] then some [true] else none := by
  have c := clock [] back 0 W0 (fun v hv => (h v hv).1) W0_good
  obtain ⟨h1, h2⟩ := runs_U h
  have hf : hits [false] (runsW W0 back).1 0 = [] := hits_none fun c hc hx => by
    obtain ⟨⟨r, e⟩, _⟩ := is1_lawU (h2 c hc _ hx)
    simp at e
  have hp := evs_perm (w := []) (k := 0) h1
  simp only [List.nil_append] at hp
  rw [hf, List.map_nil, List.nil_append] at hp
  have ht : ∀ p ∈ evs [] (runsW W0 back).1 0, p.2 = true := fun p hp' => by
    obtain ⟨i, _, rfl⟩ := List.mem_map.mp (hp.mem_iff.mpr hp')
    rfl
  have hg := c.2.2
  cases hq : (runsW W0 back).2 [] with
  | none =>
    rw [if_neg]
    intro hne
    have : evs [] (runsW W0 back).1 0 ≠ [] := fun e => by
      rw [e] at hp
      have := List.perm_nil.mp hp
      exact hne (List.map_eq_nil_iff.mp this)
    have c1 := c.1
    rw [hq] at c1
    cases he : evs [] (runsW W0 back).1 0 with
    | nil => exact this he
    | cons p r =>
      rw [he] at c1 ht
      obtain ⟨i, b⟩ := p
      have hb : b = true := ht _ (.head _)
      subst hb
      have : (scan (wb (W0 [])) ((i, true) :: r)).1 = some true := by
        show (scan none ((i, true) :: r)).1 = some true
        unfold scan
        rw [scan_true fun q hq => ht q (.tail _ hq)]
      rw [this] at c1
      cases c1
  | some e =>
    have he := hg _ _ hq
    obtain ⟨b, hb⟩ := snoc_last he.2.ne
    rw [he.1, List.nil_append] at hb
    have hb1 : b = true := by
      obtain ⟨r, e2⟩ := he.2
      rw [hb] at e2
      simp at e2
      exact e2.1
    rw [if_pos, hb, hb1]
    intro e0
    rw [e0] at hp
    have hev : evs [] (runsW W0 back).1 0 = [] := List.nil_perm.mp hp
    have c1 := c.1
    rw [hev, hq, hb] at c1
    cases c1
theorem left_sub {back : List Wd} (h : ∀ v ∈ back, Is1 v ∧ v.length ≤ 4) : ((lawU.filterMap fun w => (runsW W0 back).2 w) ++ (if hits [true] (runsW W0 back).1 0 ≠ [] then [[true]] else [])).Perm ((cfin List.dropLast ⟨back.reverse, [], []⟩).sub.map (·.2)) := by
  have hf := (fin_runs back [] [] (fun v hv => (h v hv).1) (fun _ _ z => nomatch z)).2
  have hW : ∀ u, (cfin List.dropLast ⟨back.reverse, [], []⟩).sub.lookup u = (runsW W0 back).2 u := fun u => congrFun hf u
  have hn := runs_nodup (csize ⟨back.reverse, [], []⟩) (c := ⟨back.reverse, [], []⟩) .nil
  have hg := (clock [] back 0 W0 (fun v hv => (h v hv).1) W0_good).2.2
  generalize hS : (cfin List.dropLast ⟨back.reverse, [], []⟩).sub = S at *
  have hn' : (S.map (·.1)).Nodup := by rw [← hS]; exact hn
  have hUn : (lawU ++ [[]]).Nodup := by decide +kernel
  have mem_look : ∀ {l : List (Wd × Wd)}, (l.map (·.1)).Nodup → ∀ p ∈ l, l.lookup p.1 = some p.2 := by
    intro l
    induction l with
    | nil => intro _ p hp; cases hp
    | cons a r ih =>
      intro hnd p hp
      have hnd' := List.nodup_cons.mp hnd
      rw [List.lookup_cons]
      rcases List.mem_cons.mp hp with rfl | hp
      · simp
      · have : p.1 ≠ a.1 := fun e => hnd'.1 (by show a.1 ∈ r.map (·.1); rw [← e]; exact List.mem_map_of_mem hp)
        rw [beq_eq_false_iff_ne.mpr this]
        exact ih hnd'.2 p hp
  have runs_le : ∀ (back : List Wd) (W : Waits), (∀ v ∈ back, Is1 v ∧ v.length ≤ 4) → GoodWt W → (∀ u e, W u = some e → e.length ≤ 4) → ∀ u e, (runsW W back).2 u = some e → e.length ≤ 4 := by
    intro back
    induction back with
    | nil => intro W _ _ hle u e he; exact hle u e he
    | cons v r ih =>
      intro W hv hW hle u e he
      have cs := climb_spec v.length W v rfl (hv v (.head _)).1 hW
      refine ih _ (fun x hx => hv x (.tail _ hx)) cs.good (fun u e he => ?_) u e he
      by_cases hb : ∃ b, u ++ [b] ∈ (climb v.length W v).2
      · obtain ⟨b, hb⟩ := hb
        rw [cs.on u b hb] at he
        have hl := (cs.is1 _ hb).2
        have := (hv v (.head _)).2
        cases hq : W u with
        | none => rw [hq] at he; cases he; omega
        | some x =>
          rw [hq] at he
          dsimp only at he
          split at he
          · cases he; exact hle u _ hq
          · cases he
      · rw [cs.off u fun b hb' => hb ⟨b, hb'⟩] at he
        exact hle u e he
  have hkeys : ∀ p ∈ S, p.1 ∈ lawU ++ [[]] := fun p hp => by
    have h1 := mem_look hn' p hp
    rw [hW] at h1
    have h2 := hg _ _ h1
    have h3 := runs_le back W0 h W0_good (fun _ _ z => nomatch z) _ _ h1
    rw [← h2.1]
    obtain ⟨r, hr⟩ := h2.2
    cases r with
    | nil => rw [hr]; exact List.mem_append_right _ (.head _)
    | cons a t =>
      have q1 : Is1 p.2.dropLast := ⟨(a :: t).dropLast, by rw [hr, List.dropLast_cons_of_ne_nil (by simp)]⟩
      have q2 : p.2.dropLast.length ≤ 4 := by
        rw [List.length_dropLast]
        exact Mine.r203 h3
      exact List.mem_append_left _ (mem_lawU q1 q2)
  have key := look_perm S (lawU ++ [[]]) hn' hUn hkeys
  rw [List.filterMap_append] at key
  have e1 : (lawU.filterMap fun u => S.lookup u) = lawU.filterMap fun w => (runsW W0 back).2 w := fm_congr fun u _ => hW u
  have e2 : ([[]].filterMap fun u => S.lookup u) = if hits [true] (runsW W0 back).1 0 ≠ [] then [[true]] else [] := by
    rw [List.filterMap_cons, hW, top_waits h]
    by_cases q : hits [true] (runsW W0 back).1 0 ≠ []
    · rw [if_pos q, if_pos q]; rfl
    · rw [if_neg q, if_neg q]; rfl
  rw [e1, e2] at key
  exact key
end Mine
end
section
open PySem PySem.W PyProof.Rows PySem.Spec PySem.Calls
set_option maxRecDepth 100000
namespace Mine
structure ME where
  w : Wd
  a : Addr
  vals : List Value
  z : Nat
  ns : List Nat
structure DM where
  lv : List Value
  lz : Nat
  oM : Obj
  o3 : Obj
  ks : List ME
  uS : Option Value
  uI : Option Value
  uH : Option Value
  uW : Option Value
noncomputable abbrev lME (e : ME) : Addr × Obj := (e.a, W.listOf e.vals.toArray e.z)
noncomputable abbrev kvsM (ks : List ME) : List (Str × Value) := ks.map fun e => (wordStr e.w, Value.ref e.a)
structure MOk (w : World) (FX : List Addr) (back : List Wd) (d : DM) (n : Nat) : Prop where
  words : d.ks.map (·.w) = lawU.take n
  dict : d.oM.IsDictOf (PySem.strKind P7 w) (kvsM d.ks)
  each : ∀ e ∈ d.ks, e.ns.Perm (hits e.w (runsW W0 back).1 0) ∧ IntsAre e.vals (e.ns.map Int.ofNat)
  off : ∀ e ∈ d.ks, ∀ b ∈ FX, b ≠ e.a
  adds : (d.ks.map (·.a)).Nodup
  left : StrsAre d.lv (((lawU.take n).filterMap (runsW W0 back).2).map wordStr)
  cell : ∃ c, d.o3.data = .cell c
noncomputable def offU : Nat → Nat
  | 0 => 0
  | 1 => 8
  | 2 => 12
  | 3 => 14
  | _ => 15
theorem lawU_at {j i : Nat} {a : Wd} (hj : j < 4) (h : (lawAll (3 - j))[i]? = some a) : lawU[offU j + i]? = some a := by
  have hi : i < 8 := by
    have h1 := (List.getElem?_eq_some_iff.mp h).1
    have : (lawAll (3 - j)).length ≤ 8 := by
      have key : ∀ j < 4, (lawAll (3 - j)).length ≤ 8 := by decide +kernel
      exact key j hj
    exact Mine.r211 h1 this
  have key : ∀ j < 4, ∀ i < 8, (lawAll (3 - j))[i]? = none ∨ lawU[offU j + i]? = (lawAll (3 - j))[i]? := by decide +kernel
  rcases key j hj i hi with e | e
  · rw [e] at h; cases h
  · rw [e, h]
theorem offU_next {j : Nat} (hj : j < 4) : offU j + (lawAll (3 - j)).length = offU (j + 1) := by
  have key : ∀ j < 4, offU j + (lawAll (3 - j)).length = offU (j + 1) := by decide +kernel
  exact key j hj
theorem halves_in {n : Nat} {a : Wd} (h : lawU[n]? = some a) (b : Bool) : a ++ [b] ∈ lawU.take n ∨ (a.length = 4 ∧ a ++ [b] ∉ lawU) := by
  have hn : n < 15 := by
    have h1 := (List.getElem?_eq_some_iff.mp h).1
    have : lawU.length = 15 := by decide +kernel
    exact Mine.r227 h1 this
  have key : ∀ n < 15, ∀ b : Bool, (lawU[n]?.all fun a => decide (a ++ [b] ∈ lawU.take n ∨ (a.length = 4 ∧ a ++ [b] ∉ lawU))) = true := by decide +kernel
  have := key n hn b
  rw [h] at this
  exact of_decide_eq_true this
theorem new_word {n : Nat} {a : Wd} (h : lawU[n]? = some a) : a ∉ lawU.take n := fun hm => by
  have hnd := lawU_nodup
  obtain ⟨i, hi, e⟩ := List.getElem_of_mem hm
  rw [List.length_take] at hi
  have h1 := List.getElem?_eq_some_iff.mp h
  obtain ⟨hn, e2⟩ := h1
  rw [List.getElem_take] at e
  have := (List.getElem_inj hnd).mp (e.trans e2.symm)
  exact Mine.r192 hi this
theorem take_next {n : Nat} {a : Wd} (h : lawU[n]? = some a) : lawU.take (n + 1) = lawU.take n ++ [a] := by
  rw [List.take_add_one, h]; rfl
theorem hits_length (w : Wd) : ∀ (cs : List (List Wd)) (k : Nat), (hits w cs k).length ≤ cs.length
  | [], _ => Nat.le_refl _
  | c :: r, k => by
    show ((if w ∈ c then [k] else []) ++ hits w r (k + 1)).length ≤ _
    have := hits_length w r (k + 1)
    rw [List.length_append, List.length_cons]
    split <;> simp <;> omega
theorem runs_length : ∀ (back : List Wd) (W : Waits), (runsW W back).1.length = back.length
  | [], _ => rfl
  | v :: r, W => by
    show ((climb v.length W v).2 :: (runsW (climb v.length W v).1 r).1).length = _
    rw [List.length_cons, runs_length r]; rfl
theorem rowsOf_filter (w : Wd) : ∀ (l : List Wd) (k : Nat), rowsOf w l k = (List.range' k l.length).filter fun i => decide (l[i - k]? = some w)
  | [], _ => rfl
  | v :: r, k => by
    show (if v = w then [k] else []) ++ rowsOf w r (k + 1) = _
    rw [rowsOf_filter w r (k + 1), List.length_cons, List.range'_succ, List.filter_cons]
    have e : (List.range' (k + 1) r.length).filter (fun i => decide ((v :: r)[i - k]? = some w)) = (List.range' (k + 1) r.length).filter fun i => decide (r[i - (k + 1)]? = some w) := by
      refine List.filter_congr fun i hi => ?_
      have hq : k + 1 ≤ i := by have := List.mem_range'_1.mp hi; exact Mine.r228 this.1
      rw [show i - k = (i - (k + 1)) + 1 by exact Mine.r372 hq, List.getElem?_cons_succ]
    rw [e]
    simp only [Nat.sub_self, List.getElem?_cons_zero, Option.some.injEq, decide_eq_true_eq]
    split <;> simp
theorem rowsOf_zero (w : Wd) (l : List Wd) : rowsOf w l 0 = (List.range l.length).filter fun i => decide (l[i]? = some w) := by
  rw [rowsOf_filter, List.range_eq_range']; rfl
theorem kvsM_look : ∀ {ks : List ME} {v : Wd}, (ks.map (·.w)).Nodup → (∀ e ∈ ks, e.w = v → valueAt (kvsM ks) (wordStr v) = some (.ref e.a)) ∧ (v ∉ ks.map (·.w) → valueAt (kvsM ks) (wordStr v) = none)
  | [], v, _ => ⟨(fun _ h => nomatch h), fun _ => rfl⟩
  | e :: r, v, hn => by
    have hn' := List.nodup_cons.mp hn
    have ih := kvsM_look (ks := r) (v := v) hn'.2
    constructor
    · intro e' he hw
      rcases List.mem_cons.mp he with rfl | he
      · subst hw
        show valueAt ((wordStr e'.w, Value.ref e'.a) :: kvsM r) (wordStr e'.w) = _
        simp [valueAt]
      · have : e.w ≠ v := fun z => hn'.1 (by show e.w ∈ r.map (·.w); rw [z, ← hw]; exact List.mem_map_of_mem he)
        have h2 := ih.1 e' he hw
        show valueAt ((wordStr e.w, Value.ref e.a) :: kvsM r) (wordStr v) = _
        have h3 : wordStr e.w ≠ wordStr v := fun z => this (wordStr_inj z)
        unfold valueAt at h2 ⊢
        simpa [List.find?_cons, h3] using h2
    · intro hv
      have h1 : e.w ≠ v := fun z => hv (by rw [← z]; exact List.mem_cons_self)
      have h2 := ih.2 fun z => hv (.tail _ z)
      have h3 : wordStr e.w ≠ wordStr v := fun z => h1 (wordStr_inj z)
      show valueAt ((wordStr e.w, Value.ref e.a) :: kvsM r) (wordStr v) = _
      unfold valueAt at h2 ⊢
      simpa [List.find?_cons, h3] using h2
theorem strict_eq {l : List (Nat × Bool)} (h : l.Pairwise fun a b => a.1 < b.1) {x y : Nat × Bool} (hx : x ∈ l) (hy : y ∈ l) (e : x.1 = y.1) : x = y := by
  induction l with
  | nil => cases hx
  | cons a r ih =>
    have h' := List.pairwise_cons.mp h
    rcases List.mem_cons.mp hx with ex | hx
    · rcases List.mem_cons.mp hy with ey | hy
      · rw [ex, ey]
      · have := h'.1 y hy; rw [ex] at e; exact (Mine.r24 this e).elim
    · rcases List.mem_cons.mp hy with ey | hy
      · have := h'.1 x hx; rw [ey] at e; exact (Mine.r23 this e).elim
      · exact ih h'.2 hx hy
theorem hits_apart {w : Wd} {cs : List (List Wd)} {k i : Nat} (h : DescAll cs) (h0 : i ∈ hits (w ++ [false]) cs k) (h1 : i ∈ hits (w ++ [true]) cs k) : False := by
  have p := evs_perm (w := w) (k := k) h
  have m0 : (i, false) ∈ evs w cs k := p.mem_iff.mp (List.mem_append_left _ (List.mem_map.mpr ⟨i, h0, rfl⟩))
  have m1 : (i, true) ∈ evs w cs k := p.mem_iff.mp (List.mem_append_right _ (List.mem_map.mpr ⟨i, h1, rfl⟩))
  have := strict_eq evs_strict m0 m1 rfl
  cases this
theorem wait_is {back : List Wd} {a : Wd} {o : Option Bool} (h : ∀ v ∈ back, Is1 v) (e : o = wb ((runsW W0 back).2 a)) : (runsW W0 back).2 a = o.map fun b => a ++ [b] := by
  have hg := (clock a back 0 W0 h W0_good).2.2
  cases hq : (runsW W0 back).2 a with
  | none => rw [hq] at e; rw [e]; rfl
  | some x =>
    have hx := hg _ _ hq
    obtain ⟨b, hb⟩ := snoc_last hx.2.ne
    rw [hx.1] at hb
    rw [hq, hb, wb_snoc] at e
    rw [e, hb]; rfl
noncomputable def decB (s : Str) : Bool := decide (s = wordStr [true])
theorem decB_word (b : Bool) : decB (wordStr [b]) = b := by cases b <;> decide +kernel
noncomputable def encW (o : Option Bool) (v : Option Value) : Prop := match o with
  | none => v = some .none
  | some b => ∃ t, v = some (.str (wordStr [b]) t)
theorem small63 {n : Nat} (h : n < 64) : Builtin.Range.small 0 (n : Int) 1 = true ∧ Builtin.Range.rangeSize 0 (n : Int) 1 = (n : Int) := by
  have key : ∀ n < 64, Builtin.Range.small 0 ((n : Nat) : Int) 1 = true ∧ Builtin.Range.rangeSize 0 ((n : Nat) : Int) 1 = ((n : Nat) : Int) := by decide +kernel
  exact key n h
theorem half_list {w : World} {FX : List Addr} {back : List Wd} {d : DM} {n : Nat} {a : Wd} (M : MOk w FX back d n) (h : lawU[n]? = some a) (hU : ∀ v ∈ back, Is1 v ∧ v.length ≤ 4) (b : Bool) :
    ∃ mb : List Nat, mb.Perm (hits (a ++ [b]) (runsW W0 back).1 0) ∧ ((∃ e ∈ d.ks, e.w = a ++ [b] ∧ e.ns = mb ∧ IntsAre e.vals (mb.map Int.ofNat) ∧ valueAt (kvsM d.ks) (wordStr (a ++ [b])) = some (.ref e.a)) ∨ (mb = [] ∧ valueAt (kvsM d.ks) (wordStr (a ++ [b])) = none)) := by
  have hnd : (d.ks.map (·.w)).Nodup := by rw [M.words]; exact lawU_nodup.sublist (List.take_sublist _ _)
  rcases halves_in h b with hin | ⟨h4, hout⟩
  · rw [← M.words] at hin
    obtain ⟨e, he, hw⟩ := List.mem_map.mp hin
    have hE := M.each e he
    exact ⟨e.ns, by rw [← hw]; exact hE.1, .inl ⟨e, he, hw, rfl, hE.2, (kvsM_look hnd).1 e he hw⟩⟩
  · refine ⟨[], ?_, .inr ⟨rfl, (kvsM_look hnd).2 fun z => ?_⟩⟩
    · have : hits (a ++ [b]) (runsW W0 back).1 0 = [] := hits_none fun c hc hx => hout ((runs_U hU).2 c hc _ hx)
      rw [this]
    · rw [M.words] at z
      exact hout (List.mem_of_mem_take z)
noncomputable abbrev pairsM (b : Bool) (m : List Nat) : List (Nat × Str) := m.map fun i => (i, wordStr [b])
theorem scan_step {o : Option Bool} {i : Nat} {b : Bool} {r : List (Nat × Bool)} : scan o ((i, b) :: r) = match o with
    | none => scan (some b) r
    | some c => if c = b then scan (some c) r else ((scan none r).1, i :: (scan none r).2) := by
  cases o <;> rfl
section
open LCg LCt
variable {prog : Program} {w : World} {A : Around} {E : Value → Shared → Prop} {s : Shared} {h₀ : Heap} {L : Addr} {m : Str → Option Value} {env : Env}
theorem comp_intsN {ct elt : Expr} {x : Str} {scope : Scope} {cl : List (Str × Addr)} {Fin : List Value → List (Addr × Obj) → Prop} {news : List (Addr × Obj)} {S : List (Addr × Obj) → Prop} {P : Nat → Value → Prop} {n : Nat} (src : List Nat) (hn : src.length = n) (keep : Nat → Bool)
    (hP : ∀ i v, P i v → i < n → ∃ a t, src[i]? = some a ∧ v = .int (a : Int) t)
    (turn : ∀ (i a : Nat) t I oI C oC D m₂ ys h tk (E' : Value → Shared → Prop), src[i]? = some a → NsObj oC m₂ → m₂ x = some (.int (a : Int) t) → Fr h₀ L h m → News h₀ L h ((I, oI) :: (C, oC) :: (D, lst ys) :: news) → Off3 I C D news → ((@Ne Nat I C) ∧ (@Ne Nat I D) ∧ (@Ne Nat C D)) →
      wpAny (model prog w) A (isTrue ct (compEnvC scope cl C env) (eval ct (compEnvC scope cl C env))) (fun ok s' => if ok = true then
        wpAny (model prog w) A (eval elt (compEnvC scope cl C env)) (CompEnd h₀ L m { s with heap := h, toks := tk } I oI C oC D (lst ys) S (fun y news' => news' = news ∧ keep a = true ∧ ∃ u, y = .int (a : Int) u)) E' s'
        else CompEnd h₀ L m { s with heap := h, toks := tk } I oI C oC D (lst ys) S (fun _ news' => news' = news ∧ keep a = false) Value.none s') E' { s with heap := h, toks := tk })
    (fin : ∀ ys : List Value, IntsAre ys ((src.filter keep).map Int.ofNat) → Fin ys news) : CompRestT prog w A h₀ L m env ct elt x scope cl s S P Fin n 0 [] news := by
  subst hn
  exact comp_ints src keep hP turn fin
end
section
open LCg
variable {prog : Program} {w : World} {A : Around} {E : Value → Shared → Prop} {s s₂ : Shared} {h₀ : Heap} {L : Addr} {m : Str → Option Value} {env : Env} {δ : Type}
variable {elt i1 i2 : Expr} {x y : Str} {px py : Pos} {scope : Scope} {pos : Pos} {cl : List (Str × Addr)}
theorem comp2_evalF {hF : Heap} (F : Fr h₀ L hF m) {LED : δ → List (Addr × Obj)} {J1 : Nat → List Value → δ → Prop} {Q : Value → Shared → Prop}
    (hclos : closureFor scope env = pure cl) (hcell : ∀ z ∈ scope.names, z.2 ≠ .cell) (hkind : scope.kind = .function) (hnames : ∀ z ∈ scope.names, z.2 = .local → scope.names.lookup z.1 = some .local) (hx : scope.names.lookup x = some .local) (hy : scope.names.lookup y = some .local) (hxy : x ≠ y)
    (h : wpAny (model prog w) A (eval i1 env) (fun xv s₁ => wpAny (model prog w) A (pyIter xv) (Comp2 prog w A h₀ L m env elt i2 x y scope cl LED J1 (fun s₂ ys d => FinE h₀ L m s₂ Q ys (LED d))) E s₁) E s)
    (hs : ∀ z, foldedSetIterable i1 env z = pure z := by intro _; rfl) (hs2 : ∀ C z, foldedSetIterable i2 (compEnvC scope cl C env) z = pure z := by intro _ _; rfl) :
    wpAny (model prog w) A (eval (comp2E elt x px i1 y py i2 scope pos) env) Q E s := comp2_eval hclos hcell hkind hnames hx hy hxy h hs hs2
end
end Mine
end
section
open PySem PySem.W PyProof.Rows
set_option maxRecDepth 100000
namespace Mine
noncomputable def KR (rk : Keyed → Nat) (xs : Array Keyed) (i : Nat) : Nat := (xs[i]?.map rk).getD 0
noncomputable def Asc (rk : Keyed → Nat) (xs : Array Keyed) (lo hi : Nat) : Prop := ∀ i j, lo ≤ i → i ≤ j → j < hi → KR rk xs i ≤ KR rk xs j
noncomputable def Desc (rk : Keyed → Nat) (xs : Array Keyed) (lo hi : Nat) : Prop := ∀ i j, lo ≤ i → i ≤ j → j < hi → KR rk xs j ≤ KR rk xs i
structure SB (κ0 : SortKind) (a₀ : Array Keyed) (pd : Array (Nat × Nat × Nat)) (st : SortSt) : Prop where
  perm : (arrOf st).Perm a₀
  kind : kindOf st = κ0
  failed : failedOf st = none
  pend : pendingOf st = pd
theorem SB.size {κ0 : SortKind} {a₀ : Array Keyed} {pd : Array (Nat × Nat × Nat)} {st : SortSt} (h : SB κ0 a₀ pd st) : (arrOf st).size = a₀.size := h.perm.size_eq
theorem SB.setArr {κ0 : SortKind} {a₀ : Array Keyed} {pd : Array (Nat × Nat × Nat)} {st : SortSt} (h : SB κ0 a₀ pd st) {xs : Array Keyed} (hp : xs.Perm (arrOf st)) : SB κ0 a₀ pd (setArr st xs) := ⟨hp.trans h.perm, h.kind, h.failed, h.pend⟩
theorem KR_congr {rk : Keyed → Nat} {xs ys : Array Keyed} {i j : Nat} (h : xs[i]? = ys[j]?) : KR rk xs i = KR rk ys j := by unfold KR; rw [h]
theorem KR_mirror {rk : Keyed → Nat} {xs : Array Keyed} {i j : Nat} (hj : j ≤ xs.size) (k : Nat) :
    KR rk (mirror xs i j ((j - i) / 2)) k = if i ≤ k ∧ k < j then KR rk xs (i + j - 1 - k) else KR rk xs k := by
  have e := getElem?_mirror_all (i := i) hj k
  by_cases h1 : i ≤ k ∧ k < j
  · rw [if_pos h1] at e ⊢; exact KR_congr e
  · rw [if_neg h1] at e ⊢; exact KR_congr e
theorem KR_bubble {rk : Keyed → Nat} {xs : Array Keyed} {src d : Nat} (hs : src < xs.size) (hd : d ≤ src) (k : Nat) :
    KR rk (bubble xs src d) k = if k = src - d then KR rk xs src else if src - d < k ∧ k ≤ src then KR rk xs (k - 1) else KR rk xs k := by
  have e := getElem?_bubble hs d hd k
  repeat' split
  all_goals (rename_i h1; first | (rw [if_pos h1] at e; exact KR_congr e) | (rename_i h2; rw [if_neg h2, if_pos h1] at e; exact KR_congr e) | (rename_i h2; rw [if_neg h2, if_neg h1] at e; exact KR_congr e))
noncomputable def Cmp (prog : Program) (w : World) (A : Around) (E : Value → Shared → Prop) (s : Shared) (κ0 : SortKind) (rk : Keyed → Nat) (a₀ : Array Keyed) : Prop :=
  ∀ x ∈ a₀.toList, ∀ y ∈ a₀.toList, ∀ (st : SortSt) (Q : Option Bool → SortSt → Prop), kindOf st = κ0 → Q (some (decide (rk x < rk y))) st → wpS (model prog w) A E s (lt' x y) Q st
section
variable {M : Model} {A : Around} {E : Value → Shared → Prop} {s : Shared} {σ α β : Type} {st : σ}
theorem wpS_ite {c : Prop} [Decidable c] {m n : StateT σ Sem α} {Q : α → σ → Prop} (h1 : c → wpS M A E s m Q st) (h2 : ¬ c → wpS M A E s n Q st) : wpS M A E s (if c then m else n) Q st := by
  by_cases h : c
  · rw [if_pos h]; exact h1 h
  · rw [if_neg h]; exact h2 h
theorem wpS_beq {x y : Nat} {m n : StateT σ Sem α} {Q : α → σ → Prop} (h1 : x = y → wpS M A E s m Q st) (h2 : ¬ x = y → wpS M A E s n Q st) : wpS M A E s (if (x == y) = true then m else n) Q st :=
  wpS_ite (fun h => h1 (by simpa using h)) (fun h => h2 (by simpa using h))
theorem wpS_dec {p : Prop} [Decidable p] {m n : StateT σ Sem α} {Q : α → σ → Prop} (h1 : p → wpS M A E s m Q st) (h2 : ¬ p → wpS M A E s n Q st) : wpS M A E s (if decide p = true then m else n) Q st :=
  wpS_ite (fun h => h1 (by simpa using h)) (fun h => h2 (by simpa using h))
theorem wpS_bool {b : Bool} {m n : StateT σ Sem α} {Q : α → σ → Prop} (h1 : b = true → wpS M A E s m Q st) (h2 : b = false → wpS M A E s n Q st) : wpS M A E s (if b = true then m else n) Q st :=
  wpS_ite h1 (fun h => h2 (by simpa using h))
theorem wpS_then {c : Prop} [Decidable c] {m n : StateT σ Sem α} {Q : α → σ → Prop} (h : c) (k : wpS M A E s m Q st) : wpS M A E s (if c then m else n) Q st := wpS_ite (fun _ => k) (fun g => absurd h g)
theorem wpS_else {c : Prop} [Decidable c] {m n : StateT σ Sem α} {Q : α → σ → Prop} (h : ¬ c) (k : wpS M A E s n Q st) : wpS M A E s (if c then m else n) Q st := wpS_ite (fun g => absurd g h) (fun _ => k)
theorem wpS_loop {a b : Nat} {f : Nat → β → StateT σ Sem (ForInStep β)} {k : β → StateT σ Sem α} {Q : α → σ → Prop} {c : β} (I : Nat → β → σ → Prop) (J : β → σ → Prop)
    (hstep : ∀ F, F = f → ∀ i c st (R : ForInStep β → σ → Prop), a ≤ i → i < b → (∀ c st, J c st → R (.done c) st) → (∀ c st, I (i + 1) c st → R (.yield c) st) → I i c st → wpS M A E s (F i c) R st)
    (hend : ∀ c st, I (max a b) c st → J c st) (h : I a c st) (hpost : ∀ K, K = k → ∀ c st, J c st → wpS M A E s (K c) Q st) : wpS M A E s (forIn [a:b] c f >>= k) Q st :=
  wpS_bind (wpS_mono (wpS_forRange I (fun i c st h1 h2 h3 => hstep f rfl i c st _ h1 h2 (fun _ _ h => h) (fun _ _ h => h) h3) hend h) (hpost k rfl))
end
section
variable {prog : Program} {w : World} {A : Around} {E : Value → Shared → Prop} {s : Shared} {a₀ : Array Keyed} {κ0 : SortKind} {rk : Keyed → Nat} {pd : Array (Nat × Nat × Nat)}
theorem SB.at {st : SortSt} (h : SB κ0 a₀ pd st) {i : Nat} (hi : i < a₀.size) : ∃ x, (arrOf st)[i]? = some x ∧ x ∈ a₀.toList ∧ KR rk (arrOf st) i = rk x := by
  have hi' : i < (arrOf st).size := by rw [h.size]; exact hi
  have e : (arrOf st)[i]? = some (arrOf st)[i] := getElem?_pos _ i hi'
  exact ⟨(arrOf st)[i], e, (Array.perm_iff_toList_perm.mp h.perm).mem_iff.mp (by simp), by unfold KR; rw [e]; rfl⟩
theorem wpS_elem {arr : Array Keyed} {i : Nat} {x : Keyed} {st : SortSt} {Q : Keyed → SortSt → Prop} (e : arr[i]? = some x) (h : Q x st) : wpS (model prog w) A E s (elem' arr i) Q st := by
  rw [elem'_eq, e]
  exact wpS_pure h
theorem wpS_ltR {st : SortSt} {i j : Nat} {Q : Option Bool → SortSt → Prop} (C : Cmp prog w A E s κ0 rk a₀) (hB : SB κ0 a₀ pd st) (hi : i < a₀.size) (hj : j < a₀.size)
    (h : Q (some (decide (KR rk (arrOf st) i < KR rk (arrOf st) j))) st) : wpS (model prog w) A E s (ltAt' i j) Q st := by
  obtain ⟨x, e1, m1, k1⟩ := hB.at (rk := rk) hi
  obtain ⟨y, e2, m2, k2⟩ := hB.at (rk := rk) hj
  rw [ltAt'_eq]
  refine wpS_bind (wpS_get ?_)
  show wpS _ _ _ _ (do let x ← elem' (arrOf st) i; let y ← elem' (arrOf st) j; lt' x y) Q st
  refine wpS_bind (wpS_elem e1 (wpS_bind (wpS_elem e2 ?_)))
  rw [k1, k2] at h
  exact C x m1 y m2 st Q hB.kind h
noncomputable def ascL (lo a nrem : Nat) : StateT SortSt Sem AscSt :=
  forIn [a:nrem] ((none, a) : AscSt) fun _ __s => do
    let __x ← ltAt' (lo + __s.snd) (lo + __s.snd - 1)
    match __x with
    | some smaller => if smaller = true then pure (ForInStep.done (none, __s.snd)) else pure (ForInStep.yield (none, __s.snd + 1))
    | _ => pure (ForInStep.done (some none, __s.snd))
noncomputable def tailL (lo n nrem : Nat) : StateT SortSt Sem (Option Nat) := do
  reverseSlice' lo (lo + n)
  let __s ← ascL lo n nrem
  match __s.fst with
  | some r => pure r
  | none => pure (some __s.snd)
noncomputable def descL (lo n nrem : Nat) : StateT SortSt Sem DescSt :=
  forIn [n:nrem] ((none, n, 0) : DescSt) fun _ __s => do
    let __x ← ltAt' (lo + __s.snd.fst) (lo + __s.snd.fst - 1)
    match __x with
    | some smaller =>
      if smaller = true then
        if __s.snd.snd > 0 then do
          reverseSlice' (lo + __s.snd.fst - (__s.snd.snd + 1)) (lo + __s.snd.fst)
          pure (ForInStep.yield (none, __s.snd.fst + 1, 0))
        else pure (ForInStep.yield (none, __s.snd.fst + 1, 0))
      else do
        let __x ← ltAt' (lo + __s.snd.fst - 1) (lo + __s.snd.fst)
        match __x with
        | some larger =>
          if larger = true then pure (ForInStep.done (none, __s.snd.fst, __s.snd.snd))
          else pure (ForInStep.yield (none, __s.snd.fst + 1, __s.snd.snd + 1))
        | _ => pure (ForInStep.done (some none, __s.snd.fst, __s.snd.snd))
    | _ => pure (ForInStep.done (some none, __s.snd.fst, __s.snd.snd))
noncomputable def descP (lo n nrem : Nat) : StateT SortSt Sem (Option Nat) := do
  liftM (rule "list.sort.descending-run")
  let __s ← descL lo (n + 1) nrem
  match __s.fst with
  | some r => pure r
  | none =>
    if __s.snd.snd > 0 then do
      reverseSlice' (lo + __s.snd.fst - (__s.snd.snd + 1)) (lo + __s.snd.fst)
      tailL lo __s.snd.fst nrem
    else tailL lo __s.snd.fst nrem
theorem countRunL_eq (lo nrem : Nat) : countRun' lo nrem = (do
    let __s ← ascL lo 1 nrem
    match __s.fst with
    | some r => pure r
    | none =>
      if (__s.snd == nrem) = true then pure (some __s.snd)
      else if __s.snd > 1 then do
        let __x ← ltAt' lo (lo + __s.snd - 1)
        match __x with
        | some rose => if rose = true then pure (some __s.snd) else do
            reverseSlice' lo (lo + __s.snd)
            descP lo __s.snd nrem
        | _ => pure none
      else descP lo __s.snd nrem) := by
  have tl : ∀ n : Nat, (do reverseSlice' lo (lo + n); let __s ← ascL lo n nrem; match __s.fst with | some r => pure r | none => pure (some __s.snd)) = tailL lo n nrem := fun n => rfl
  rw [countRun'_eq]
  show (ascL lo 1 nrem >>= _) = (ascL lo 1 nrem >>= _)
  refine bind_congr fun s1 => ?_
  obtain ⟨r, n⟩ := s1
  have dp : ∀ (K : PUnit → StateT SortSt Sem (Option Nat)), (∀ u, K u = (descL lo (n + 1) nrem >>= fun __s => match __s.fst with
      | some r => pure r
      | none => if __s.snd.snd > 0 then do
          reverseSlice' (lo + __s.snd.fst - (__s.snd.snd + 1)) (lo + __s.snd.fst)
          tailL lo __s.snd.fst nrem
        else tailL lo __s.snd.fst nrem)) → (liftM (rule "list.sort.descending-run") >>= K) = descP lo n nrem := fun K hK => bind_congr fun u => hK u
  cases r with
  | some r => rfl
  | none =>
    dsimp only
    split
    · rfl
    · split
      · refine bind_congr fun x => ?_
        cases x with
        | none => rfl
        | some rose =>
          dsimp only
          split
          · rfl
          · refine bind_congr fun _ => dp _ fun _ => ?_
            show (descL lo (n + 1) nrem >>= _) = (descL lo (n + 1) nrem >>= _)
            refine bind_congr fun s2 => ?_
            obtain ⟨r2, n2, q2⟩ := s2
            cases r2 with
            | some r2 => rfl
            | none =>
              dsimp only
              split
              · refine bind_congr fun _ => ?_
                unfold tailL
                refine bind_congr fun _ => ?_
                show (ascL lo n2 nrem >>= _) = (ascL lo n2 nrem >>= _)
                refine bind_congr fun s3 => ?_
                obtain ⟨r3, n3⟩ := s3
                cases r3 <;> rfl
              · unfold tailL
                refine bind_congr fun _ => ?_
                show (ascL lo n2 nrem >>= _) = (ascL lo n2 nrem >>= _)
                refine bind_congr fun s3 => ?_
                obtain ⟨r3, n3⟩ := s3
                cases r3 <;> rfl
      · refine dp _ fun _ => ?_
        show (descL lo (n + 1) nrem >>= _) = (descL lo (n + 1) nrem >>= _)
        refine bind_congr fun s2 => ?_
        obtain ⟨r2, n2, q2⟩ := s2
        cases r2 with
        | some r2 => rfl
        | none =>
          dsimp only
          split
          · refine bind_congr fun _ => ?_
            unfold tailL
            refine bind_congr fun _ => ?_
            show (ascL lo n2 nrem >>= _) = (ascL lo n2 nrem >>= _)
            refine bind_congr fun s3 => ?_
            obtain ⟨r3, n3⟩ := s3
            cases r3 <;> rfl
          · unfold tailL
            refine bind_congr fun _ => ?_
            show (ascL lo n2 nrem >>= _) = (ascL lo n2 nrem >>= _)
            refine bind_congr fun s3 => ?_
            obtain ⟨r3, n3⟩ := s3
            cases r3 <;> rfl
end
end Mine
end
section
open PySem PySem.W PyProof.Rows
set_option maxRecDepth 100000
namespace Mine
section
variable {prog : Program} {w : World} {A : Around} {E : Value → Shared → Prop} {s : Shared} {a₀ : Array Keyed} {κ0 : SortKind} {rk : Keyed → Nat} {pd : Array (Nat × Nat × Nat)}
noncomputable def Kept (rk : Keyed → Nat) (lo : Nat) (xs ys : Array Keyed) : Prop := ∀ i, i < lo → KR rk ys i = KR rk xs i
theorem Kept.refl {lo : Nat} {xs : Array Keyed} : Kept rk lo xs xs := fun _ _ => rfl
theorem Kept.trans {lo : Nat} {xs ys zs : Array Keyed} (a : Kept rk lo xs ys) (b : Kept rk lo ys zs) : Kept rk lo xs zs := fun i h => (b i h).trans (a i h)
theorem ascL_spec {lo : Nat} {st : SortSt} {a nrem : Nat} {Q : AscSt → SortSt → Prop} (C : Cmp prog w A E s κ0 rk a₀) (hn : lo + nrem ≤ a₀.size) (ha : 1 ≤ a) (han : a ≤ nrem) (hB : SB κ0 a₀ pd st) (hs : Asc rk (arrOf st) lo (lo + a))
    (h : ∀ n, a ≤ n → n ≤ nrem → Asc rk (arrOf st) lo (lo + n) → (n = nrem ∨ KR rk (arrOf st) (lo + n) < KR rk (arrOf st) (lo + n - 1)) → Q (none, n) st) :
    wpS (model prog w) A E s (ascL lo a nrem) Q st := by
  unfold ascL
  refine wpS_forRange (I := fun x c st' => st' = st ∧ c = (none, x) ∧ Asc rk (arrOf st) lo (lo + x)) ?step ?fin ⟨rfl, rfl, hs⟩
  case fin =>
    rintro c st' ⟨rfl, rfl, hs'⟩
    rw [show max a nrem = nrem by exact Mine.r51 han] at hs' ⊢
    exact h nrem han (Nat.le_refl _) hs' (.inl rfl)
  case step =>
    rintro x c st' hax hxn ⟨rfl, rfl, hs'⟩
    dsimp only
    refine wpS_bind (wpS_ltR C hB (by exact Mine.r10 hxn hn) (by exact Mine.r39 hxn hn) ?_)
    by_cases hl : KR rk (arrOf st') (lo + x) < KR rk (arrOf st') (lo + x - 1)
    · simp only [hl, decide_true, if_true]
      exact wpS_pure (h x hax (by exact Mine.r5 hxn) hs' (.inr hl))
    · simp only [hl, decide_false, Bool.false_eq_true, if_false]
      refine wpS_pure ⟨rfl, rfl, fun i j h1 h2 h3 => ?_⟩
      by_cases hj : j < lo + x
      · exact hs' i j h1 h2 hj
      have hj' : j = lo + x := by exact Mine.r18 h3 hj
      subst hj'
      by_cases hi : i = lo + x
      · subst hi; exact Nat.le_refl _
      have := hs' i (lo + x - 1) h1 (by exact Mine.r42 h2 hi) (by exact Mine.r45 h2 hi)
      exact Mine.r183 this hl
theorem reverse_spec {st : SortSt} {i j : Nat} {Q : Unit → SortSt → Prop} (hB : SB κ0 a₀ pd st) (hj : j ≤ a₀.size)
    (h : ∀ st', SB κ0 a₀ pd st' → (∀ k, KR rk (arrOf st') k = if i ≤ k ∧ k < j then KR rk (arrOf st) (i + j - 1 - k) else KR rk (arrOf st) k) → Q () st') :
    wpS (model prog w) A E s (reverseSlice' i j) Q st := by
  refine wpS_reverse ?_
  exact h (PyProof.Rows.setArr st (mirror (arrOf st) i j ((j - i) / 2))) (SB.setArr hB (mirror_perm _ _ _ _)) fun k => KR_mirror (by rw [hB.size]; exact hj) k
theorem tailL_spec {lo : Nat} {st : SortSt} {n nrem : Nat} {Q : Option Nat → SortSt → Prop} (C : Cmp prog w A E s κ0 rk a₀) (hn : lo + nrem ≤ a₀.size) (h1 : 1 ≤ n) (hnn : n ≤ nrem) (hB : SB κ0 a₀ pd st) (hs : Desc rk (arrOf st) lo (lo + n))
    (h : ∀ m st', SB κ0 a₀ pd st' → 1 ≤ m → m ≤ nrem → Asc rk (arrOf st') lo (lo + m) → Kept rk lo (arrOf st) (arrOf st') → Q (some m) st') :
    wpS (model prog w) A E s (tailL lo n nrem) Q st := by
  unfold tailL
  refine wpS_bind (reverse_spec (rk := rk) hB (by exact Mine.r35 hnn hn) fun st1 hB1 hk => ?_)
  refine wpS_bind (ascL_spec C hn h1 hnn hB1 ?_ fun m hm1 hm2 hsm _ => wpS_pure (h m _ hB1 (by exact Mine.r212 hm1 h1) hm2 hsm fun i hi => by rw [hk, if_neg (by exact Mine.r251 hi)]))
  intro i j a1 a2 a3
  rw [hk, hk, if_pos (by exact Mine.r406 a3 a1 a2), if_pos (by exact Mine.r407 a3 a1 a2)]
  exact hs _ _ (by exact Mine.r334 a3) (by exact Mine.r449 a2) (by exact Mine.r420 a3 a1)
theorem descL_spec {lo : Nat} {st : SortSt} {n nrem : Nat} {Q : DescSt → SortSt → Prop} (C : Cmp prog w A E s κ0 rk a₀) (hn : lo + nrem ≤ a₀.size) (h1 : 1 ≤ n) (hnn : n ≤ nrem) (hB : SB κ0 a₀ pd st) (hs : Desc rk (arrOf st) lo (lo + n))
    (h : ∀ m neq st', SB κ0 a₀ pd st' → n ≤ m → m ≤ nrem → Desc rk (arrOf st') lo (lo + m) → neq + 1 ≤ m → (∀ i, lo + m - (neq + 1) ≤ i → i < lo + m → KR rk (arrOf st') i = KR rk (arrOf st') (lo + m - 1)) → Kept rk lo (arrOf st) (arrOf st') → Q (none, m, neq) st') :
    wpS (model prog w) A E s (descL lo n nrem) Q st := by
  unfold descL
  refine wpS_forRange (I := fun x c st' => ∃ neq, c = (none, x, neq) ∧ SB κ0 a₀ pd st' ∧ Desc rk (arrOf st') lo (lo + x) ∧ neq + 1 ≤ x ∧
      (∀ i, lo + x - (neq + 1) ≤ i → i < lo + x → KR rk (arrOf st') i = KR rk (arrOf st') (lo + x - 1)) ∧ Kept rk lo (arrOf st) (arrOf st')) ?step ?fin ⟨0, rfl, hB, hs, by exact Mine.r204 h1, fun i h1 h2 => by congr 1; exact Mine.r454 h2 h1, Kept.refl⟩
  case fin =>
    rintro c st' ⟨neq, rfl, hB', hs', hq, he, hk⟩
    rw [show max n nrem = nrem by exact Mine.r51 hnn] at hs' hq he ⊢
    exact h nrem neq st' hB' hnn (Nat.le_refl _) hs' hq he hk
  case step =>
    rintro x c st' hax hxn ⟨neq, rfl, hB', hs', hq, he, hkk⟩
    dsimp only
    refine wpS_bind (wpS_ltR C hB' (by exact Mine.r10 hxn hn) (by exact Mine.r39 hxn hn) ?_)
    by_cases hl : KR rk (arrOf st') (lo + x) < KR rk (arrOf st') (lo + x - 1)
    · simp only [hl, decide_true, if_true]
      have step1 : ∀ xs : Array Keyed, (∀ k, KR rk xs k = KR rk (arrOf st') k) → Desc rk xs lo (lo + (x + 1)) := by
        intro xs hk i j b1 b2 b3
        rw [hk, hk]
        by_cases hj : j < lo + x
        · exact hs' i j b1 b2 hj
        have hj' : j = lo + x := by exact Mine.r18 b3 hj
        subst hj'
        by_cases hi : i = lo + x
        · subst hi; exact Nat.le_refl _
        have := hs' i (lo + x - 1) b1 (by exact Mine.r42 b2 hi) (by exact Mine.r45 b2 hi)
        exact Mine.r157 hl this
      by_cases hneq : neq > 0
      · rw [if_pos hneq]
        refine wpS_bind (reverse_spec (rk := rk) hB' (by exact Mine.r261 hxn hn) fun st1 hB1 hk => ?_)
        have hk2 : ∀ k, KR rk (arrOf st1) k = KR rk (arrOf st') k := fun k => by
          rw [hk]
          split
          · rw [he _ (by exact Mine.r115 (by assumption)) (by exact Mine.r114 (by assumption)), he k (by exact Mine.r110 (by assumption)) (by exact Mine.r106 (by assumption))]
          · rfl
        exact wpS_pure ⟨0, rfl, hB1, step1 _ hk2, by exact Mine.r72, fun i h1 h2 => by congr 1; exact Mine.r113 h2 h1, hkk.trans fun i _ => hk2 i⟩
      · rw [if_neg hneq]
        exact wpS_pure ⟨0, rfl, hB', step1 _ (fun _ => rfl), by exact Mine.r72, fun i h1 h2 => by congr 1; exact Mine.r113 h2 h1, hkk⟩
    · simp only [hl, decide_false, Bool.false_eq_true, if_false]
      refine wpS_bind (wpS_ltR C hB' (by exact Mine.r39 hxn hn) (by exact Mine.r10 hxn hn) ?_)
      by_cases hg : KR rk (arrOf st') (lo + x - 1) < KR rk (arrOf st') (lo + x)
      · simp only [hg, decide_true, if_true]
        exact wpS_pure (h x neq st' hB' hax (by exact Mine.r5 hxn) hs' hq he hkk)
      · simp only [hg, decide_false, Bool.false_eq_true, if_false]
        have hx : KR rk (arrOf st') (lo + x) = KR rk (arrOf st') (lo + x - 1) := by exact Mine.r196 hl hg
        refine wpS_pure ⟨neq + 1, rfl, hB', fun i j b1 b2 b3 => ?_, by exact Mine.r365 hq, fun i b1 b2 => ?_, hkk⟩
        · by_cases hj : j < lo + x
          · exact hs' i j b1 b2 hj
          have hj' : j = lo + x := by exact Mine.r18 b3 hj
          subst hj'
          by_cases hi : i = lo + x
          · subst hi; exact Nat.le_refl _
          rw [hx]; exact hs' i (lo + x - 1) b1 (by exact Mine.r42 b2 hi) (by exact Mine.r45 b2 hi)
        · rw [show lo + (x + 1) - 1 = lo + x by exact Mine.r241]
          by_cases hix : i = lo + x
          · subst hix; rfl
          · rw [hx]; exact he i (by exact Mine.r467 b1) (by exact Mine.r370 b2 hix)
theorem descP_spec {lo : Nat} {st : SortSt} {n nrem : Nat} {Q : Option Nat → SortSt → Prop} (C : Cmp prog w A E s κ0 rk a₀) (hn : lo + nrem ≤ a₀.size) (hnn : n + 1 ≤ nrem) (hB : SB κ0 a₀ pd st) (hs : Desc rk (arrOf st) lo (lo + (n + 1)))
    (h : ∀ m st', SB κ0 a₀ pd st' → 1 ≤ m → m ≤ nrem → Asc rk (arrOf st') lo (lo + m) → Kept rk lo (arrOf st) (arrOf st') → Q (some m) st') :
    wpS (model prog w) A E s (descP lo n nrem) Q st := by
  unfold descP
  refine wpS_bind (wpS_lift (wpAny_rule ⟨rfl, ?_⟩))
  refine wpS_bind (descL_spec C hn (by exact Mine.r127) hnn hB hs fun m neq st' hB' hm1 hm2 hs' hq he hk => ?_)
  dsimp only
  by_cases hneq : neq > 0
  · rw [if_pos hneq]
    refine wpS_bind (reverse_spec (rk := rk) hB' (by exact Mine.r35 hm2 hn) fun st1 hB1 hk1 => ?_)
    have hk2 : ∀ k, KR rk (arrOf st1) k = KR rk (arrOf st') k := fun k => by
      rw [hk1]
      split
      · rw [he _ (by exact Mine.r115 (by assumption)) (by exact Mine.r114 (by assumption)), he k (by exact Mine.r110 (by assumption)) (by exact Mine.r106 (by assumption))]
      · rfl
    refine tailL_spec C hn (by exact Mine.r76 hq) hm2 hB1 ?_ fun m2 st2 b1 b2 b3 b4 b5 => h m2 st2 b1 b2 b3 b4 ((hk.trans fun i _ => hk2 i).trans b5)
    intro i j b1 b2 b3
    rw [hk2, hk2]
    exact hs' i j b1 b2 b3
  · rw [if_neg hneq]
    exact tailL_spec C hn (by exact Mine.r76 hq) hm2 hB' hs' fun m2 st2 b1 b2 b3 b4 b5 => h m2 st2 b1 b2 b3 b4 (hk.trans b5)
theorem count_spec {lo : Nat} {st : SortSt} {nrem : Nat} {Q : Option Nat → SortSt → Prop} (C : Cmp prog w A E s κ0 rk a₀) (hn : lo + nrem ≤ a₀.size) (h1 : 1 ≤ nrem) (hB : SB κ0 a₀ pd st)
    (h : ∀ m st', SB κ0 a₀ pd st' → 1 ≤ m → m ≤ nrem → Asc rk (arrOf st') lo (lo + m) → Kept rk lo (arrOf st) (arrOf st') → Q (some m) st') :
    wpS (model prog w) A E s (countRun' lo nrem) Q st := by
  rw [countRunL_eq]
  refine wpS_bind (ascL_spec C hn (Nat.le_refl 1) h1 hB (fun i j b1 b2 b3 => by have : i = j := (by exact Mine.r322 b3 b2 b1); subst this; exact Nat.le_refl _) fun n hn1 hn2 hsn hor => ?_)
  dsimp only
  by_cases hnn : n = nrem
  · rw [if_pos (by simpa using hnn)]
    exact wpS_pure (h n st hB hn1 hn2 hsn Kept.refl)
  · rw [if_neg (by simpa using hnn)]
    have hlt := hor.resolve_left hnn
    by_cases hgt : n > 1
    · rw [if_pos hgt]
      refine wpS_bind (wpS_ltR C hB (by exact Mine.r235 hn h1) (by exact Mine.r414 hn2 hn hn1) ?_)
      by_cases hr : KR rk (arrOf st) lo < KR rk (arrOf st) (lo + n - 1)
      · simp only [hr, decide_true, if_true]
        exact wpS_pure (h n st hB hn1 hn2 hsn Kept.refl)
      · simp only [hr, decide_false, Bool.false_eq_true, if_false]
        have hall : ∀ k, lo ≤ k → k < lo + n → KR rk (arrOf st) k = KR rk (arrOf st) (lo + n - 1) := by
          intro k b1 b2
          have a1 := hsn lo k (Nat.le_refl _) b1 b2
          have a2 := hsn k (lo + n - 1) b1 (by exact Mine.r252 b2) (by exact Mine.r302 b2)
          exact Mine.r277 a2 a1 hr
        refine wpS_bind (reverse_spec (rk := rk) hB (by exact Mine.r35 hn2 hn) fun st1 hB1 hk1 => ?_)
        have hk2 : ∀ k, KR rk (arrOf st1) k = KR rk (arrOf st) k := fun k => by
          rw [hk1]
          split
          · rw [hall _ (by exact Mine.r408 (by assumption)) (by exact Mine.r431 (by assumption)), hall k (by exact Mine.r221 (by assumption)) (by exact Mine.r279 (by assumption))]
          · rfl
        refine descP_spec C hn (by exact Mine.r262 hn2 hnn) hB1 ?_ fun m2 st2 b1 b2 b3 b4 b5 => h m2 st2 b1 b2 b3 b4 ((show Kept rk lo (arrOf st) (arrOf st1) from fun i _ => hk2 i).trans b5)
        intro i j b1 b2 b3
        rw [hk2, hk2]
        by_cases hj : j < lo + n
        · rw [hall i (by exact Mine.r7 b1) (by exact Mine.r263 hj b2), hall j (by exact Mine.r28 b1 b2) hj]; exact Nat.le_refl _
        have hj' : j = lo + n := by exact Mine.r18 b3 hj
        subst hj'
        by_cases hi : i = lo + n
        · subst hi; exact Nat.le_refl _
        rw [hall i (by exact Mine.r7 b1) (by exact Mine.r318 b2 hi)]; exact Mine.r5 hlt
    · rw [if_neg hgt]
      have hn1' : n = 1 := by exact Mine.r280 hn1 hgt
      subst hn1'
      refine descP_spec C hn (by exact Mine.r348 hn2 hnn) hB ?_ h
      intro i j b1 b2 b3
      by_cases hi : i = j
      · subst hi; exact Nat.le_refl _
      have hi0 : i = lo := by exact Mine.r444 b3 b2 b1 hi
      have hj1 : j = lo + 1 := by exact Mine.r471 b3 hi0 b2 hi
      subst hi0; subst hj1
      have : i + 1 - 1 = i := by exact Mine.r145
      rw [this] at hlt
      exact Mine.r5 hlt
noncomputable abbrev BinLo (rk : Keyed → Nat) (st : SortSt) (lo k l : Nat) : Prop := ∀ i, lo ≤ i → i < lo + l → KR rk (arrOf st) i ≤ KR rk (arrOf st) (lo + k)
noncomputable abbrev BinHi (rk : Keyed → Nat) (st : SortSt) (lo k r : Nat) : Prop := ∀ i, lo + r ≤ i → i < lo + k → KR rk (arrOf st) (lo + k) < KR rk (arrOf st) i
theorem bubble_asc {st : SortSt} {lo k l : Nat} (hks : lo + k < (arrOf st).size) (hs : Asc rk (arrOf st) lo (lo + k)) (hl : l ≤ k) (hlo : BinLo rk st lo k l) (hhi : BinHi rk st lo k l) :
    Asc rk (bubble (arrOf st) (lo + k) (lo + k - (lo + l))) lo (lo + (k + 1)) ∧ Kept rk lo (arrOf st) (bubble (arrOf st) (lo + k) (lo + k - (lo + l))) := by
  have hb := fun i => KR_bubble (rk := rk) hks (show lo + k - (lo + l) ≤ lo + k from Nat.sub_le _ _) i
  rw [show lo + k - (lo + k - (lo + l)) = lo + l from Nat.sub_sub_self (Nat.add_le_add_left hl lo)] at hb
  generalize bubble (arrOf st) (lo + k) (lo + k - (lo + l)) = B at hb ⊢
  have f1 : KR rk B (lo + l) = KR rk (arrOf st) (lo + k) := by rw [hb, if_pos rfl]
  have f2 : ∀ i, lo + l < i → i ≤ lo + k → KR rk B i = KR rk (arrOf st) (i - 1) := fun i h1 h2 => by rw [hb, if_neg (Nat.ne_of_gt h1), if_pos ⟨h1, h2⟩]
  have f3 : ∀ i, i < lo + l → KR rk B i = KR rk (arrOf st) i := fun i h1 => by rw [hb, if_neg (Nat.ne_of_lt h1), if_neg fun h => absurd h.1 (Nat.lt_asymm h1)]
  refine ⟨fun i j b1 b2 b3 => ?_, fun i hi => f3 i (Nat.lt_of_lt_of_le hi (Nat.le_add_right _ _))⟩
  rcases Nat.lt_trichotomy j (lo + l) with hj | hj | hj
  · rw [f3 j hj, f3 i (Nat.lt_of_le_of_lt b2 hj)]
    exact hs i j b1 b2 (Nat.lt_of_lt_of_le hj (Nat.add_le_add_left hl lo))
  · subst hj
    rcases Nat.lt_or_eq_of_le b2 with hi | hi
    · rw [f1, f3 i hi]; exact hlo i b1 hi
    · rw [hi]; exact Nat.le_refl _
  · have jk : j ≤ lo + k := Nat.le_of_lt_succ b3
    have j1 : j - 1 < lo + k := Nat.lt_of_lt_of_le (Nat.sub_lt (Nat.zero_lt_of_lt hj) Nat.zero_lt_one) jk
    rw [f2 j hj jk]
    rcases Nat.lt_trichotomy i (lo + l) with hi | hi | hi
    · rw [f3 i hi]; exact hs i (j - 1) b1 (Nat.le_sub_one_of_lt (Nat.lt_trans hi hj)) j1
    · rw [hi, f1]; exact Nat.le_of_lt (hhi (j - 1) (Nat.le_sub_one_of_lt hj) j1)
    · rw [f2 i hi (Nat.le_trans b2 jk)]
      exact hs (i - 1) (j - 1) (Nat.le_sub_one_of_lt (Nat.lt_of_le_of_lt (Nat.le_add_right lo l) hi)) (Nat.sub_le_sub_right b2 1) j1
theorem bin_spec {lo : Nat} {st : SortSt} {n ok : Nat} {Q : Bool → SortSt → Prop} (C : Cmp prog w A E s κ0 rk a₀) (hn : lo + n ≤ a₀.size) (hok : ok ≤ n) (hB : SB κ0 a₀ pd st) (hs : Asc rk (arrOf st) lo (lo + ok))
    (h : ∀ st', SB κ0 a₀ pd st' → Asc rk (arrOf st') lo (lo + n) → Kept rk lo (arrOf st) (arrOf st') → Q true st') : wpS (model prog w) A E s (binarySort' lo n ok) Q st := by
  rw [binarySort'_eq]
  refine wpS_loop (fun k c st' => c = (none, ()) ∧ SB κ0 a₀ pd st' ∧ Asc rk (arrOf st') lo (lo + min k n) ∧ Kept rk lo (arrOf st) (arrOf st'))
    (fun c st' => c = (none, ()) ∧ SB κ0 a₀ pd st' ∧ Asc rk (arrOf st') lo (lo + n) ∧ Kept rk lo (arrOf st) (arrOf st')) ?step ?fin ?init ?post
  case post =>
    rintro K hK c st' ⟨rfl, hB', hs', hk⟩
    subst hK
    exact wpS_pure (h st' hB' hs' hk)
  case init =>
    refine ⟨rfl, hB, fun i j b1 b2 b3 => ?_, Kept.refl⟩
    by_cases h1 : ok = 0
    · have : i = j := by exact Mine.r460 b3 h1 b2 b1
      subst this; exact Nat.le_refl _
    · exact hs i j b1 b2 (by exact Mine.r415 b3 h1)
  case fin =>
    rintro c st' ⟨hc, hB', hs', hk⟩
    refine ⟨hc, hB', ?_, hk⟩
    rwa [show min (max (max ok 1) n) n = n by exact Mine.r197] at hs'
  clear h hs hB
  rintro B hFB k c st' R hak hkn hd hy ⟨rfl, hB', hs', hkk⟩
  rw [Nat.min_eq_left (Nat.le_of_lt hkn)] at hs'
  have hk : lo + k < a₀.size := Nat.lt_of_lt_of_le (Nat.add_lt_add_left hkn lo) hn
  subst hFB
  refine wpS_loop (fun x c st'' => st'' = st' ∧ ∃ l r, c = (none, l, r) ∧ l ≤ r ∧ r ≤ k ∧ r + x ≤ k + l ∧ BinLo rk st' lo k l ∧ BinHi rk st' lo k r)
    (fun c st'' => st'' = st' ∧ ∃ l, c = (none, l, l) ∧ l ≤ k ∧ BinLo rk st' lo k l ∧ BinHi rk st' lo k l) ?istep ?ifin ?iinit ?ipost
  case iinit => exact ⟨rfl, 0, k, rfl, by exact Mine.r20, by exact Mine.r117, by exact Mine.r147, fun i b1 b2 => by exact Mine.r242 b2 b1, fun i h1 h2 => by exact Mine.r272 h2 h1⟩
  case ifin =>
    rintro c st'' ⟨rfl, l, r, rfl, hlr, hrk, hm, hlo, hhi⟩
    have : l = r := by exact Mine.r99 hlr hm
    subst this
    exact ⟨rfl, l, rfl, hrk, hlo, hhi⟩
  case istep =>
    clear hd hy
    rintro B hFB x c st'' R - hxk hd hy ⟨rfl, l, r, rfl, hlr, hrk, hm, hlo, hhi⟩
    subst hFB
    dsimp only
    refine wpS_ite (fun hge => ?_) (fun hge => ?_)
    · have : l = r := by exact Mine.r62 hlr hge
      subst this
      exact wpS_pure (hd _ _ ⟨rfl, l, rfl, hrk, hlo, hhi⟩)
    · refine wpS_bind (wpS_ltR C hB' hk (by exact Mine.r421 hlr hrk hk) ?_)
      refine wpS_dec (fun hl => wpS_pure (hy _ _ ⟨rfl, l, (l + r) / 2, rfl, by exact Mine.r213 hge, by exact Mine.r292 hlr hrk, by exact Mine.r465 hm hge, hlo, fun i h1 h2 => ?_⟩)) (fun hl => wpS_pure (hy _ _ ⟨rfl, (l + r) / 2 + 1, r, rfl, by exact Mine.r307 hge, by exact Mine.r7 hrk, by exact Mine.r483 hlr hm, fun i b1 b2 => ?_, hhi⟩))
      · exact Nat.lt_of_lt_of_le hl (hs' (lo + (l + r) / 2) i (by exact Mine.r165) h1 (by exact Mine.r166 h2))
      · exact Nat.le_trans (hs' i (lo + (l + r) / 2) b1 (by exact Mine.r441 b2) (by exact Mine.r375 hrk hge)) (Nat.le_of_not_lt hl)
  case ipost =>
    rintro K hK c st'' ⟨rfl, l, rfl, hlk, hlo, hhi⟩
    subst hK
    show wpS _ _ _ _ (do moveDown' (lo + k) (lo + l); pure (ForInStep.yield (none, ()))) _ _
    rw [moveDown'_eq]
    have hb := bubble_asc (rk := rk) (by rw [hB'.size]; exact hk) hs' hlk hlo hhi
    refine wpS_bind (wpS_modify (wpS_pure (hy _ _ ⟨rfl, hB'.setArr (bubble_perm _ _ _), ?_, hkk.trans hb.2⟩)))
    rw [Nat.min_eq_left hkn]
    exact hb.1
end
end Mine
end
section
open PySem PySem.W PyProof.Rows
set_option maxRecDepth 100000
namespace Mine
noncomputable def gallop' : Bool → Keyed → Array Keyed → Nat → Nat → Nat → StateT SortSt Sem (Option Nat) := sortPriv% PySem.Builtin.gallop
noncomputable def beyond' (left : Bool) (key : Keyed) (arr : Array Keyed) (base i : Nat) : StateT SortSt Sem (Option Bool) := do
  let x ← elem' arr (base + i)
  if left then lt' x key else return (← lt' key x).map (!·)
theorem gallop'_eq (left : Bool) (key : Keyed) (arr : Array Keyed) (base n hint : Nat) : gallop' left key arr base n hint = (do
  let mut lastofs := 0
  let mut ofs := 1
  let mut lo := 0
  let mut hi := 0
  let some right ← beyond' left key arr base hint | return none
  if right then
    let maxofs := n - hint
    for _ in [0:n] do
      if ofs ≥ maxofs then break
      let some more ← beyond' left key arr base (hint + ofs) | return none
      if !more then break
      lastofs := ofs
      ofs := 2 * ofs + 1
    lo := hint + lastofs + 1
    hi := hint + min ofs maxofs
  else
    let maxofs := hint + 1
    for _ in [0:n] do
      if ofs ≥ maxofs then break
      let some found ← beyond' left key arr base (hint - ofs) | return none
      if found then break
      lastofs := ofs
      ofs := 2 * ofs + 1
    lo := hint + 1 - min ofs maxofs
    hi := hint - lastofs
  for _ in [0:n] do
    if lo ≥ hi then break
    let m := lo + (hi - lo) / 2
    let some more ← beyond' left key arr base m | return none
    if more then lo := m + 1 else hi := m
  return some hi) := rfl
section
variable {prog : Program} {w : World} {A : Around} {E : Value → Shared → Prop} {s : Shared} {a₀ : Array Keyed} {κ0 : SortKind} {rk : Keyed → Nat}
noncomputable def bey (rk : Keyed → Nat) (left : Bool) (key : Keyed) (arr : Array Keyed) (base i : Nat) : Bool := if left then decide (KR rk arr (base + i) < rk key) else !decide (rk key < KR rk arr (base + i))
theorem beyond_spec {left : Bool} {key : Keyed} {arr : Array Keyed} {base i : Nat} {st : SortSt} {Q : Option Bool → SortSt → Prop} (C : Cmp prog w A E s κ0 rk a₀) (hk : kindOf st = κ0) (hkey : key ∈ a₀.toList) (harr : ∀ x ∈ arr.toList, x ∈ a₀.toList) (hi : base + i < arr.size)
    (h : Q (some (bey rk left key arr base i)) st) : wpS (model prog w) A E s (beyond' left key arr base i) Q st := by
  unfold beyond'
  have e : arr[base + i]? = some (arr[base + i]'hi) := getElem?_pos arr (base + i) hi
  have hm : arr[base + i] ∈ a₀.toList := harr _ (by simp)
  have hK : KR rk arr (base + i) = rk (arr[base + i]'hi) := by unfold KR; rw [e]; rfl
  refine wpS_bind (wpS_elem e ?_)
  unfold bey at h
  rw [hK] at h
  cases left with
  | true =>
    simp only [if_true] at h ⊢
    exact C _ hm _ hkey st Q hk h
  | false =>
    simp only [Bool.false_eq_true, if_false] at h ⊢
    exact wpS_bind (C _ hkey _ hm st _ hk (wpS_pure h))
noncomputable abbrev ResG := Option (Option Nat) × Nat × Nat
noncomputable def galStep (left : Bool) (key : Keyed) (arr : Array Keyed) (base : Nat) (d : ResG) : StateT SortSt Sem (ForInStep ResG) :=
  if d.2.1 ≥ d.2.2 then pure (.done (none, d.2.1, d.2.2))
  else do
    let z ← beyond' left key arr base (d.2.1 + (d.2.2 - d.2.1) / 2)
    match z with
    | some more => if more = true then pure (.yield (none, d.2.1 + (d.2.2 - d.2.1) / 2 + 1, d.2.2)) else pure (.yield (none, d.2.1, d.2.1 + (d.2.2 - d.2.1) / 2))
    | _ => pure (.done (some none, d.2.1, d.2.2))
structure GI (rk : Keyed → Nat) (left : Bool) (key : Keyed) (arr : Array Keyed) (base n l r : Nat) : Prop where
  lr : l ≤ r
  rn : r ≤ n
  lo : ∀ i, i < l → bey rk left key arr base i = true
  hi : ∀ i, r ≤ i → i < n → bey rk left key arr base i = false
noncomputable abbrev GMono (rk : Keyed → Nat) (left : Bool) (key : Keyed) (arr : Array Keyed) (base n : Nat) : Prop := ∀ i j, i ≤ j → j < n → bey rk left key arr base j = true → bey rk left key arr base i = true
theorem GMono.down {left : Bool} {key : Keyed} {arr : Array Keyed} {base n : Nat} (mono : GMono rk left key arr base n) : ∀ i j, i ≤ j → j < n → bey rk left key arr base i = false → bey rk left key arr base j = false := fun i j a b c => by
  cases q : bey rk left key arr base j with
  | false => rfl
  | true => rw [mono i j a b q] at c; cases c
theorem galLast_spec {K : ResG → StateT SortSt Sem (Option Nat)} (hK0 : ∀ l r, K (none, l, r) = pure (some r)) {left : Bool} {key : Keyed} {arr : Array Keyed} {base n lo hi : Nat} {st : SortSt} {Q : Option Nat → SortSt → Prop} (C : Cmp prog w A E s κ0 rk a₀) (hk : kindOf st = κ0) (hkey : key ∈ a₀.toList) (harr : ∀ x ∈ arr.toList, x ∈ a₀.toList)
    (hn : base + n ≤ arr.size) (mono : GMono rk left key arr base n) (G : GI rk left key arr base n lo hi)
    (h : ∀ c, c ≤ n → (∀ i, i < c → bey rk left key arr base i = true) → (∀ i, c ≤ i → i < n → bey rk left key arr base i = false) → Q (some c) st) :
    wpS (model prog w) A E s (forIn [:n] ((none, lo, hi) : ResG) (fun _ d => galStep left key arr base d) >>= K) Q st := by
  refine wpS_loop (fun x c sa => sa = st ∧ ∃ l r, c = (none, l, r) ∧ GI rk left key arr base n l r ∧ r + x ≤ n + l) (fun c sa => sa = st ∧ ∃ r, c = (none, r, r) ∧ GI rk left key arr base n r r) ?step ?fin ⟨rfl, lo, hi, rfl, G, Nat.le_trans G.rn (Nat.le_add_right _ _)⟩ ?post
  case fin =>
    rintro c sa ⟨rfl, l, r, rfl, g, e⟩
    have := g.lr
    obtain rfl : l = r := by exact Mine.r99 this e
    exact ⟨rfl, _, rfl, g⟩
  case post =>
    rintro K hK c sa ⟨rfl, r, rfl, g⟩
    rw [hK, hK0]
    exact wpS_pure (h r g.rn g.lo g.hi)
  rintro B hB x c sa R - hx hd hy ⟨rfl, l, r, rfl, g, e⟩
  subst hB
  unfold galStep
  dsimp only
  have g1 := g.lr
  have g2 := g.rn
  refine wpS_ite (fun hge => ?_) (fun hge => ?_)
  · obtain rfl : l = r := Nat.le_antisymm g1 hge
    exact wpS_pure (hd _ _ ⟨rfl, _, rfl, g⟩)
  · have hlt : l < r := Nat.lt_of_not_le hge
    clear hge
    have hm : l + (r - l) / 2 < n := by exact Mine.r328 hlt g2
    refine wpS_bind (beyond_spec C hk hkey harr (by exact Mine.r476 hn hm) ?_)
    refine wpS_bool (fun hb => wpS_pure (hy _ _ ⟨rfl, _, _, rfl, ⟨?_, g2, fun i hi => mono i _ ?_ hm hb, g.hi⟩, ?_⟩)) (fun hb => wpS_pure (hy _ _ ⟨rfl, _, _, rfl, ⟨Nat.le_add_right _ _, Nat.le_of_lt hm, g.lo, fun i b1 b2 => mono.down _ i b1 b2 hb⟩, ?_⟩))
    · exact Mine.r323 hlt
    · exact Mine.r437 hi
    · exact Mine.r473 e
    · exact Mine.r474 hx e
noncomputable def galUp (left : Bool) (key : Keyed) (arr : Array Keyed) (base n hint : Nat) (d : ResG) : StateT SortSt Sem (ForInStep ResG) :=
  if d.2.2 ≥ n - hint then pure (.done (none, d.2.1, d.2.2))
  else do
    let z ← beyond' left key arr base (hint + d.2.2)
    match z with
    | some more => if (!more) = true then pure (.done (none, d.2.1, d.2.2)) else pure (.yield (none, d.2.2, 2 * d.2.2 + 1))
    | _ => pure (.done (some none, d.2.1, d.2.2))
noncomputable def galDown (left : Bool) (key : Keyed) (arr : Array Keyed) (base hint : Nat) (d : ResG) : StateT SortSt Sem (ForInStep ResG) :=
  if d.2.2 ≥ hint + 1 then pure (.done (none, d.2.1, d.2.2))
  else do
    let z ← beyond' left key arr base (hint - d.2.2)
    match z with
    | some found => if found = true then pure (.done (none, d.2.1, d.2.2)) else pure (.yield (none, d.2.2, 2 * d.2.2 + 1))
    | _ => pure (.done (some none, d.2.1, d.2.2))
theorem gallop_spec {left : Bool} {key : Keyed} {arr : Array Keyed} {base n hint : Nat} {st : SortSt} {Q : Option Nat → SortSt → Prop} (C : Cmp prog w A E s κ0 rk a₀) (hk : kindOf st = κ0) (hkey : key ∈ a₀.toList) (harr : ∀ x ∈ arr.toList, x ∈ a₀.toList)
    (hn : base + n ≤ arr.size) (hh : hint < n) (mono : ∀ i j, i ≤ j → j < n → bey rk left key arr base j = true → bey rk left key arr base i = true)
    (h : ∀ c, c ≤ n → (∀ i, i < c → bey rk left key arr base i = true) → (∀ i, c ≤ i → i < n → bey rk left key arr base i = false) → Q (some c) st) :
    wpS (model prog w) A E s (gallop' left key arr base n hint) Q st := by
  have last := fun (K : ResG → StateT SortSt Sem (Option Nat)) (hK : ∀ l r, K (none, l, r) = pure (some r)) lo hi (G : GI rk left key arr base n lo hi) => galLast_spec hK C hk hkey harr hn mono G h
  clear h
  rw [gallop'_eq]
  refine wpS_bind (beyond_spec C hk hkey harr (by exact Mine.r10 hh hn) ?_)
  refine wpS_bool (fun hr => ?_) (fun hr => ?_)
  · refine (?_ : wpS _ _ _ _ (forIn [:n] ((none, 0, 1) : ResG) (fun _ d => galUp left key arr base n hint d) >>= (_ : ResG → StateT SortSt Sem (Option Nat))) _ _)
    refine wpS_loop (fun x c st' => st' = st ∧ ∃ la o, c = (none, la, o) ∧ (la < o ∧ hint + la < n ∧ bey rk left key arr base (hint + la) = true) ∧ x + 1 ≤ o)
      (fun c st' => st' = st ∧ ∃ la o, c = (none, la, o) ∧ (la < o ∧ hint + la < n ∧ bey rk left key arr base (hint + la) = true) ∧ (n - hint ≤ o ∨ (hint + o < n ∧ bey rk left key arr base (hint + o) = false))) ?gstep ?gfin ⟨rfl, 0, 1, rfl, ⟨Nat.zero_lt_one, hh, hr⟩, Nat.le_refl _⟩ ?gpost
    case gfin =>
      rintro c st' ⟨rfl, la, o, rfl, g, a2⟩
      exact ⟨rfl, la, o, rfl, g, .inl (by exact Mine.r303 a2)⟩
    case gstep =>
      clear last
      rintro B hB x c st' R - hx hd hy ⟨rfl, la, o, rfl, g, a2⟩
      subst hB
      unfold galUp
      dsimp only
      refine wpS_ite (fun hge => wpS_pure (hd _ _ ⟨rfl, la, o, rfl, g, .inl hge⟩)) (fun hge => ?_)
      have hlt : o < n - hint := Nat.lt_of_not_le hge
      clear hge
      have ho : hint + o < n := by exact Mine.r67 hlt
      refine wpS_bind (beyond_spec C hk hkey harr (by exact Mine.r350 ho hn) ?_)
      refine wpS_bool (fun hb => wpS_pure (hd _ _ ⟨rfl, la, o, rfl, g, .inr ⟨ho, by simpa using hb⟩⟩)) (fun hb => wpS_pure (hy _ _ ⟨rfl, o, 2 * o + 1, rfl, ⟨by exact Mine.r56, ho, by simpa using hb⟩, by exact Mine.r107 a2⟩))
    case gpost =>
      rintro K hK c st' ⟨rfl, la, o, rfl, ⟨a1, a3, a4⟩, a5⟩
      subst hK
      refine last _ (fun _ _ => rfl) (hint + la + 1) (hint + min o (n - hint)) ⟨by exact Mine.r428 a1 a3, by exact Mine.r286 a3, fun i hi => mono i _ (by exact Mine.r253 hi) a3 a4, fun i b1 b2 => ?_⟩
      rcases a5 with a5 | ⟨a5, a6⟩
      · exact (Mine.r391 b2 b1 a5).elim
      · exact GMono.down mono _ i (by exact Mine.r353 b2 b1) b2 a6
  · refine (?_ : wpS _ _ _ _ (forIn [:n] ((none, 0, 1) : ResG) (fun _ d => galDown left key arr base hint d) >>= (_ : ResG → StateT SortSt Sem (Option Nat))) _ _)
    refine wpS_loop (fun x c st' => st' = st ∧ ∃ la o, c = (none, la, o) ∧ (la < o ∧ la ≤ hint ∧ bey rk left key arr base (hint - la) = false) ∧ x + 1 ≤ o)
      (fun c st' => st' = st ∧ ∃ la o, c = (none, la, o) ∧ (la < o ∧ la ≤ hint ∧ bey rk left key arr base (hint - la) = false) ∧ (hint + 1 ≤ o ∨ (o ≤ hint ∧ bey rk left key arr base (hint - o) = true))) ?gstep ?gfin ⟨rfl, 0, 1, rfl, ⟨Nat.zero_lt_one, Nat.zero_le _, hr⟩, Nat.le_refl _⟩ ?gpost
    case gfin =>
      rintro c st' ⟨rfl, la, o, rfl, g, a2⟩
      exact ⟨rfl, la, o, rfl, g, .inl (by exact Mine.r379 hh a2)⟩
    case gstep =>
      clear last
      rintro B hB x c st' R - hx hd hy ⟨rfl, la, o, rfl, g, a2⟩
      subst hB
      unfold galDown
      dsimp only
      refine wpS_ite (fun hge => wpS_pure (hd _ _ ⟨rfl, la, o, rfl, g, .inl hge⟩)) (fun hge => ?_)
      have ho : o ≤ hint := Nat.le_of_lt_succ (Nat.lt_of_not_le hge)
      clear hge
      refine wpS_bind (beyond_spec C hk hkey harr (by exact Mine.r312 hh hn) ?_)
      refine wpS_bool (fun hb => wpS_pure (hd _ _ ⟨rfl, la, o, rfl, g, .inr ⟨ho, hb⟩⟩)) (fun hb => wpS_pure (hy _ _ ⟨rfl, o, 2 * o + 1, rfl, ⟨by exact Mine.r56, ho, hb⟩, by exact Mine.r107 a2⟩))
    case gpost =>
      rintro K hK c st' ⟨rfl, la, o, rfl, ⟨a1, a3, a4⟩, a5⟩
      subst hK
      refine last _ (fun _ _ => rfl) (hint + 1 - min o (hint + 1)) (hint - la) ⟨by exact Mine.r361 a1, by exact Mine.r132 hh, fun i hi => ?_, fun i b1 b2 => GMono.down mono _ i (by exact Mine.r167 b1) b2 a4⟩
      rcases a5 with a5 | ⟨a5, a6⟩
      · exact (Mine.r424 hi a5).elim
      · exact mono i _ (by exact Mine.r362 hi) (by exact Mine.r133 hh) a6
end
end Mine
end
section
open PySem PySem.W PyProof.Rows
set_option maxRecDepth 100000
namespace Mine
noncomputable def Srt (rk : Keyed → Nat) (l : List Keyed) : Prop := l.Pairwise fun x y => rk x ≤ rk y
section
variable {rk : Keyed → Nat} {a b : List Keyed}
theorem Srt.drop {l : List Keyed} (h : Srt rk l) (n : Nat) : Srt rk (l.drop n) := List.Pairwise.sublist (List.drop_sublist n l) h
theorem Srt.take {l : List Keyed} (h : Srt rk l) (n : Nat) : Srt rk (l.take n) := List.Pairwise.sublist (List.take_sublist n l) h
noncomputable def UpTo (rk : Keyed → Nat) (l r : List Keyed) : Prop := ∀ x ∈ l, ∀ y ∈ r, rk x ≤ rk y
theorem Srt.append {l r : List Keyed} (h1 : Srt rk l) (h2 : Srt rk r) (h : UpTo rk l r) : Srt rk (l ++ r) := List.pairwise_append.mpr ⟨h1, h2, h⟩
theorem Srt.split {l : List Keyed} (h : Srt rk l) (n : Nat) : UpTo rk (l.take n) (l.drop n) := by
  have := h
  rw [← List.take_append_drop n l] at this
  exact (List.pairwise_append.mp this).2.2
structure MI (rk : Keyed → Nat) (a b out : List Keyed) (ia ib : Nat) : Prop where
  la : ia ≤ a.length
  lb : ib ≤ b.length
  perm : out.Perm (a.take ia ++ b.take ib)
  srt : Srt rk out
  ua : UpTo rk out (a.drop ia)
  ub : UpTo rk out (b.drop ib)
theorem take_more {l : List Keyed} {i k : Nat} : l.take (i + k) = l.take i ++ (l.drop i).take k := List.take_add
theorem MI.stepB {out : List Keyed} {ia ib : Nat} (h : MI rk a b out ia ib) (sb : Srt rk b) {k : Nat} (hk : ib + k ≤ b.length) (hu : UpTo rk ((b.drop ib).take k) (a.drop ia)) : MI rk a b (out ++ (b.drop ib).take k) ia (ib + k) := by
  refine ⟨h.la, hk, ?_, ?_, ?_, ?_⟩
  · rw [take_more]
    exact (h.perm.append_right _).trans (by rw [List.append_assoc])
  · exact h.srt.append ((sb.drop ib).take k) fun x hx y hy => h.ub x hx y (List.mem_of_mem_take hy)
  · intro x hx y hy
    rcases List.mem_append.mp hx with hx | hx
    · exact h.ua x hx y hy
    · exact hu x hx y hy
  · intro x hx y hy
    rw [← List.drop_drop] at hy
    rcases List.mem_append.mp hx with hx | hx
    · exact h.ub x hx y (List.mem_of_mem_drop hy)
    · exact (sb.drop ib).split k x hx y hy
theorem MI.stepA {out : List Keyed} {ia ib : Nat} (h : MI rk a b out ia ib) (sa : Srt rk a) {k : Nat} (hk : ia + k ≤ a.length) (hu : UpTo rk ((a.drop ia).take k) (b.drop ib)) : MI rk a b (out ++ (a.drop ia).take k) (ia + k) ib := by
  refine ⟨hk, h.lb, ?_, ?_, ?_, ?_⟩
  · rw [take_more]
    refine (h.perm.append_right _).trans ?_
    rw [List.append_assoc, List.append_assoc]
    exact List.Perm.append_left _ List.perm_append_comm
  · exact h.srt.append ((sa.drop ia).take k) fun x hx y hy => h.ua x hx y (List.mem_of_mem_take hy)
  · intro x hx y hy
    rw [← List.drop_drop] at hy
    rcases List.mem_append.mp hx with hx | hx
    · exact h.ua x hx y (List.mem_of_mem_drop hy)
    · exact (sa.drop ia).split k x hx y hy
  · intro x hx y hy
    rcases List.mem_append.mp hx with hx | hx
    · exact h.ub x hx y hy
    · exact hu x hx y hy
noncomputable def Merged (rk : Keyed → Nat) (a b m : List Keyed) : Prop := m.Perm (a ++ b) ∧ Srt rk m
theorem MI.ab {out : List Keyed} {ia ib : Nat} (h : MI rk a b out ia ib) (sa : Srt rk a) (sb : Srt rk b) (hu : UpTo rk (a.drop ia) (b.drop ib)) : Merged rk a b (out ++ a.drop ia ++ b.drop ib) := by
  refine ⟨?_, ?_⟩
  · rw [List.append_assoc]
    refine (h.perm.append_right _).trans ?_
    conv => rhs; rw [← List.take_append_drop ia a, ← List.take_append_drop ib b]
    rw [List.append_assoc, List.append_assoc]
    refine List.Perm.append_left _ ?_
    rw [← List.append_assoc, ← List.append_assoc]
    exact List.perm_append_comm.append_right _
  · rw [List.append_assoc]
    refine h.srt.append ((sa.drop ia).append (sb.drop ib) hu) fun x hx y hy => ?_
    rcases List.mem_append.mp hy with hy | hy
    · exact h.ua x hx y hy
    · exact h.ub x hx y hy
theorem MI.ba {out : List Keyed} {ia ib : Nat} (h : MI rk a b out ia ib) (sa : Srt rk a) (sb : Srt rk b) (hu : UpTo rk (b.drop ib) (a.drop ia)) : Merged rk a b (out ++ b.drop ib ++ a.drop ia) := by
  refine ⟨?_, ?_⟩
  · rw [List.append_assoc]
    refine (h.perm.append_right _).trans ?_
    conv => rhs; rw [← List.take_append_drop ia a, ← List.take_append_drop ib b]
    rw [List.append_assoc, List.append_assoc]
    refine List.Perm.append_left _ ?_
    rw [← List.append_assoc]
    exact List.perm_append_comm
  · rw [List.append_assoc]
    refine h.srt.append ((sb.drop ib).append (sa.drop ia) hu) fun x hx y hy => ?_
    rcases List.mem_append.mp hy with hy | hy
    · exact h.ub x hx y hy
    · exact h.ua x hx y hy
theorem KR_list {xs : Array Keyed} {i : Nat} (h : i < xs.size) : KR rk xs i = rk (xs[i]'h) := by unfold KR; rw [getElem?_pos xs i h]; rfl
theorem srt_KR {xs : Array Keyed} (h : Srt rk xs.toList) {i j : Nat} (hij : i ≤ j) (hj : j < xs.size) : KR rk xs i ≤ KR rk xs j := by
  rw [KR_list (by exact Mine.r6 hj hij), KR_list hj]
  by_cases e : i = j
  · subst e; exact Nat.le_refl _
  have := List.pairwise_iff_getElem.mp h i j (by simpa using (show i < xs.size by exact Mine.r6 hj hij)) (by simpa using hj) (by exact Mine.r173 hij e)
  simpa using this
theorem drop_mem {xs : Array Keyed} {i : Nat} {y : Keyed} (hy : y ∈ xs.toList.drop i) : ∃ j, i ≤ j ∧ j < xs.size ∧ rk y = KR rk xs j := by
  obtain ⟨k, hk, e⟩ := List.getElem_of_mem hy
  rw [List.getElem_drop] at e
  have hk' : i + k < xs.size := by simp at hk; exact Mine.r67 hk
  refine ⟨i + k, by exact Mine.r3, hk', ?_⟩
  rw [KR_list hk', ← e]; simp
theorem take_mem {xs : Array Keyed} {i k : Nat} {y : Keyed} (hy : y ∈ (xs.toList.drop i).take k) : ∃ j, i ≤ j ∧ j < i + k ∧ j < xs.size ∧ rk y = KR rk xs j := by
  obtain ⟨m, hm, e⟩ := List.getElem_of_mem hy
  rw [List.getElem_take, List.getElem_drop] at e
  simp only [List.length_take, List.length_drop, Array.length_toList] at hm
  refine ⟨i + m, by exact Mine.r3, by exact Mine.r287 hm, by exact Mine.r84 hm, ?_⟩
  rw [KR_list (by exact Mine.r84 hm), ← e]; simp
theorem drop_all {xs : Array Keyed} (h : Srt rk xs.toList) {i : Nat} {n : Nat} (hn : ∀ _ : i < xs.size, n ≤ KR rk xs i) : ∀ y ∈ xs.toList.drop i, n ≤ rk y := fun y hy => by
  obtain ⟨j, h1, h2, e⟩ := drop_mem (rk := rk) hy
  rw [e]
  exact Nat.le_trans (hn (by exact Mine.r6 h2 h1)) (srt_KR h h1 h2)
theorem one_take {xs : Array Keyed} {i : Nat} (h : i < xs.size) : (xs.toList.drop i).take 1 = [xs[i]'h] := by
  rw [List.drop_eq_getElem_cons (by simpa using h)]
  simp
end
noncomputable def mergeLo' : Array Keyed → Array Keyed → StateT SortSt Sem (Array Keyed) := sortPriv% PySem.Builtin.mergeLo
noncomputable def setMinGallop' : Nat → StateT SortSt Sem Unit := sortPriv% PySem.Builtin.setMinGallop
theorem mergeLo'_eq (a b : Array Keyed) : mergeLo' a b = (do
  rule "list.sort.merge-lo"
  let total := a.size + b.size
  let done (out : Array Keyed) (ia ib : Nat) := out ++ a.extract ia a.size ++ b.extract ib b.size
  let lastOfA (out : Array Keyed) (ia ib : Nat) := out ++ b.extract ib b.size ++ a.extract ia a.size
  let mut out : Array Keyed := #[← elem' b 0]
  let mut ia := 0
  let mut ib := 1
  if ib == b.size then return done out ia ib
  if ia + 1 == a.size then return lastOfA out ia ib
  let mut minGallop := gallopOf (← get)
  for _ in [0:total] do
    let mut acount := 0
    let mut bcount := 0
    for _ in [0:total] do
      let some bWins ← lt' (← elem' b ib) (← elem' a ia) | return done out ia ib
      if bWins then
        out := out.push (← elem' b ib); ib := ib + 1; bcount := bcount + 1; acount := 0
        if ib == b.size then return done out ia ib
        if bcount ≥ minGallop then break
      else
        out := out.push (← elem' a ia); ia := ia + 1; acount := acount + 1; bcount := 0
        if ia + 1 == a.size then return lastOfA out ia ib
        if acount ≥ minGallop then break
    rule "list.sort.gallop"
    minGallop := minGallop + 1
    for _ in [0:total] do
      if minGallop > 1 then minGallop := minGallop - 1
      setMinGallop' minGallop
      let some k ← gallop' false (← elem' b ib) a ia (a.size - ia) 0 | return done out ia ib
      acount := k
      if k > 0 then
        out := out ++ a.extract ia (ia + k); ia := ia + k
        if ia + 1 == a.size then return lastOfA out ia ib
        if ia == a.size then return done out ia ib
      out := out.push (← elem' b ib); ib := ib + 1
      if ib == b.size then return done out ia ib
      let some k ← gallop' true (← elem' a ia) b ib (b.size - ib) 0 | return done out ia ib
      bcount := k
      if k > 0 then
        out := out ++ b.extract ib (ib + k); ib := ib + k
        if ib == b.size then return done out ia ib
      out := out.push (← elem' a ia); ia := ia + 1
      if ia + 1 == a.size then return lastOfA out ia ib
      if acount < 7 && bcount < 7 then break
    minGallop := minGallop + 1
    setMinGallop' minGallop
  unsupported "internal:list.sort.merge-bound") := rfl
end Mine
end
section
open PySem PySem.W PyProof.Rows
set_option maxRecDepth 100000
namespace Mine
noncomputable def SG (st st' : SortSt) : Prop := arrOf st' = arrOf st ∧ kindOf st' = kindOf st ∧ pendingOf st' = pendingOf st ∧ failedOf st' = failedOf st
theorem SG.refl (st : SortSt) : SG st st := ⟨rfl, rfl, rfl, rfl⟩
theorem SG.trans {a b c : SortSt} (x : SG a b) (y : SG b c) : SG a c := ⟨y.1.trans x.1, y.2.1.trans x.2.1, y.2.2.1.trans x.2.2.1, y.2.2.2.trans x.2.2.2⟩
section
variable {prog : Program} {w : World} {A : Around} {E : Value → Shared → Prop} {s : Shared} {a₀ : Array Keyed} {κ0 : SortKind} {rk : Keyed → Nat}
theorem wpS_setMin {g : Nat} {st : SortSt} {Q : Unit → SortSt → Prop} (h : ∀ st', SG st st' → Q () st') : wpS (model prog w) A E s (setMinGallop' g) Q st := by
  show wpS _ _ _ _ (modify fun s => SortSt.mk' (kindOf s) (arrOf s) (pendingOf s) g (failedOf s)) Q st
  exact wpS_modify (h _ ⟨rfl, rfl, rfl, rfl⟩)
theorem wpS_at {arr : Array Keyed} {i : Nat} {st : SortSt} {Q : Keyed → SortSt → Prop} (hi : i < arr.size) (h : Q (arr[i]'hi) st) : wpS (model prog w) A E s (elem' arr i) Q st :=
  wpS_elem (getElem?_pos arr i hi) h
theorem ext_all {xs : Array Keyed} {i : Nat} : (xs.extract i xs.size).toList = xs.toList.drop i := by
  rw [Array.toList_extract]
  simp [List.extract]
  rw [List.take_of_length_le (by simp)]
theorem ext_some {xs : Array Keyed} {i k : Nat} : (xs.extract i (i + k)).toList = (xs.toList.drop i).take k := by
  rw [Array.toList_extract]
  simp [List.extract]
theorem MI.pushB {a b out : Array Keyed} {ia ib : Nat} (M : MI rk a.toList b.toList out.toList ia ib) (sb : Srt rk b.toList) (h : ib < b.size) (hu : ∀ y ∈ a.toList.drop ia, rk (b[ib]'h) ≤ rk y) : MI rk a.toList b.toList (out.push (b[ib]'h)).toList ia (ib + 1) := by
  have := M.stepB sb (k := 1) (by rw [Array.length_toList]; exact Mine.r63 h) (by
    rw [one_take h]
    intro x hx y hy
    rw [List.mem_singleton.mp hx]
    exact hu y hy)
  rw [one_take h] at this
  rw [Array.toList_push]
  exact this
theorem MI.pushA {a b out : Array Keyed} {ia ib : Nat} (M : MI rk a.toList b.toList out.toList ia ib) (sa : Srt rk a.toList) (h : ia < a.size) (hu : ∀ y ∈ b.toList.drop ib, rk (a[ia]'h) ≤ rk y) : MI rk a.toList b.toList (out.push (a[ia]'h)).toList (ia + 1) ib := by
  have := M.stepA sa (k := 1) (by rw [Array.length_toList]; exact Mine.r63 h) (by
    rw [one_take h]
    intro x hx y hy
    rw [List.mem_singleton.mp hx]
    exact hu y hy)
  rw [one_take h] at this
  rw [Array.toList_push]
  exact this
theorem MI.appB {a b out : Array Keyed} {ia ib k : Nat} (M : MI rk a.toList b.toList out.toList ia ib) (sb : Srt rk b.toList) (h : ib + k ≤ b.size) (hu : UpTo rk ((b.toList.drop ib).take k) (a.toList.drop ia)) : MI rk a.toList b.toList (out ++ b.extract ib (ib + k)).toList ia (ib + k) := by
  rw [Array.toList_append, ext_some]
  exact M.stepB sb (by simpa using h) hu
theorem MI.appA {a b out : Array Keyed} {ia ib k : Nat} (M : MI rk a.toList b.toList out.toList ia ib) (sa : Srt rk a.toList) (h : ia + k ≤ a.size) (hu : UpTo rk ((a.toList.drop ia).take k) (b.toList.drop ib)) : MI rk a.toList b.toList (out ++ a.extract ia (ia + k)).toList (ia + k) ib := by
  rw [Array.toList_append, ext_some]
  exact M.stepA sa (by simpa using h) hu
theorem bey_mono {left : Bool} {key : Keyed} {arr : Array Keyed} {base n : Nat} (sa : Srt rk arr.toList) (hn : base + n ≤ arr.size) : ∀ i j, i ≤ j → j < n → bey rk left key arr base j = true → bey rk left key arr base i = true := by
  intro i j h1 h2 h3
  have := srt_KR sa (i := base + i) (j := base + j) (by exact Mine.r68 h1) (by exact Mine.r10 h2 hn)
  unfold bey at h3 ⊢
  cases left with
  | true => simp only [if_true, decide_eq_true_eq] at h3 ⊢; exact Mine.r6 h3 this
  | false => simp only [Bool.false_eq_true, if_false, Bool.not_eq_true', decide_eq_false_iff_not] at h3 ⊢; exact Mine.r77 this h3
theorem chunkA {a b : Array Keyed} {ia ib k : Nat} (sb : Srt rk b.toList) (hb : ib < b.size) (_ : k ≤ a.size - ia) (h : ∀ i, i < k → bey rk false (b[ib]'hb) a ia i = true) : UpTo rk ((a.toList.drop ia).take k) (b.toList.drop ib) := by
  intro x hx y hy
  obtain ⟨j, h1, h2, h3, e⟩ := take_mem (rk := rk) hx
  have := h (j - ia) (by exact Mine.r34 h2 h1)
  unfold bey at this
  simp only [Bool.false_eq_true, if_false, Bool.not_eq_true', decide_eq_false_iff_not] at this
  rw [show ia + (j - ia) = j by exact Mine.r66 h1] at this
  have h4 := drop_all sb (i := ib) (n := rk (b[ib]'hb)) (fun h => by rw [KR_list h]; exact Nat.le_refl _) y hy
  exact Mine.r281 e h4 this
theorem nextA {a : Array Keyed} {key : Keyed} {ia k : Nat} (sa : Srt rk a.toList) (h : ∀ i, k ≤ i → i < a.size - ia → bey rk false key a ia i = false) : ∀ y ∈ a.toList.drop (ia + k), rk key ≤ rk y := by
  refine drop_all sa fun hs => ?_
  have := h k (Nat.le_refl _) (by exact Mine.r69 hs)
  unfold bey at this
  simp only [Bool.false_eq_true, if_false, Bool.not_eq_false', decide_eq_true_eq] at this
  exact Mine.r5 this
theorem chunkB {a b : Array Keyed} {ia ib k : Nat} (sa : Srt rk a.toList) (ha : ia < a.size) (_ : k ≤ b.size - ib) (h : ∀ i, i < k → bey rk true (a[ia]'ha) b ib i = true) : UpTo rk ((b.toList.drop ib).take k) (a.toList.drop ia) := by
  intro x hx y hy
  obtain ⟨j, h1, h2, h3, e⟩ := take_mem (rk := rk) hx
  have := h (j - ib) (by exact Mine.r34 h2 h1)
  unfold bey at this
  simp only [if_true, decide_eq_true_eq] at this
  rw [show ib + (j - ib) = j by exact Mine.r66 h1] at this
  have h4 := drop_all sa (i := ia) (n := rk (a[ia]'ha)) (fun h => by rw [KR_list h]; exact Nat.le_refl _) y hy
  exact Mine.r254 this e h4
theorem nextB {b : Array Keyed} {key : Keyed} {ib k : Nat} (sb : Srt rk b.toList) (h : ∀ i, k ≤ i → i < b.size - ib → bey rk true key b ib i = false) : ∀ y ∈ b.toList.drop (ib + k), rk key ≤ rk y := by
  refine drop_all sb fun hs => ?_
  have := h k (Nat.le_refl _) (by exact Mine.r69 hs)
  unfold bey at this
  simp only [if_true, decide_eq_false_iff_not] at this
  exact Mine.r1 this
noncomputable abbrev ResL := Option (Array Keyed) × Array Keyed × Nat × Nat × Nat × Nat × Nat
noncomputable def loTail (a b : Array Keyed) (mg ac bc ia ib : Nat) (out : Array Keyed) : StateT SortSt Sem (ForInStep ResL) := do
  let x ← elem' a ia
  if ia + 1 + 1 == a.size then pure (.done (some (out.push x ++ b.extract ib b.size ++ a.extract (ia + 1) a.size), out.push x, ia + 1, ib, mg, ac, bc))
  else if decide (ac < 7) && decide (bc < 7) then pure (.done (none, out.push x, ia + 1, ib, mg, ac, bc))
  else pure (.yield (none, out.push x, ia + 1, ib, mg, ac, bc))
noncomputable def loB (a b : Array Keyed) (mg ac bc ia ib : Nat) (out : Array Keyed) : StateT SortSt Sem (ForInStep ResL) := do
  let y ← elem' b ib
  if ib + 1 == b.size then pure (.done (some (out.push y ++ a.extract ia a.size ++ b.extract (ib + 1) b.size), out.push y, ia, ib + 1, mg, ac, bc))
  else do
    let x ← elem' a ia
    let z ← gallop' true x b (ib + 1) (b.size - (ib + 1)) 0
    match z with
    | some k =>
      if k > 0 then
        if ib + 1 + k == b.size then pure (.done (some (out.push y ++ b.extract (ib + 1) (ib + 1 + k) ++ a.extract ia a.size ++ b.extract (ib + 1 + k) b.size), out.push y ++ b.extract (ib + 1) (ib + 1 + k), ia, ib + 1 + k, mg, ac, k))
        else loTail a b mg ac k ia (ib + 1 + k) (out.push y ++ b.extract (ib + 1) (ib + 1 + k))
      else loTail a b mg ac k ia (ib + 1) (out.push y)
    | _ => pure (.done (some (out.push y ++ a.extract ia a.size ++ b.extract (ib + 1) b.size), out.push y, ia, ib + 1, mg, ac, bc))
noncomputable def loA (a b : Array Keyed) (bc ia ib : Nat) (out : Array Keyed) (mg ac : Nat) : StateT SortSt Sem (ForInStep ResL) := do
  setMinGallop' mg
  let y ← elem' b ib
  let z ← gallop' false y a ia (a.size - ia) 0
  match z with
  | some k =>
    if k > 0 then
      if ia + k + 1 == a.size then pure (.done (some (out ++ a.extract ia (ia + k) ++ b.extract ib b.size ++ a.extract (ia + k) a.size), out ++ a.extract ia (ia + k), ia + k, ib, mg, k, bc))
      else if ia + k == a.size then pure (.done (some (out ++ a.extract ia (ia + k) ++ a.extract (ia + k) a.size ++ b.extract ib b.size), out ++ a.extract ia (ia + k), ia + k, ib, mg, k, bc))
      else loB a b mg k bc (ia + k) ib (out ++ a.extract ia (ia + k))
    else loB a b mg k bc ia ib out
  | _ => pure (.done (some (out ++ a.extract ia a.size ++ b.extract ib b.size), out, ia, ib, mg, ac, bc))
noncomputable abbrev DoneL (rk : Keyed → Nat) (a b : Array Keyed) : Prop := ∀ (out : Array Keyed) (ia ib : Nat), MI rk a.toList b.toList out.toList ia ib → (ib = b.size ∨ ia = a.size) → Merged rk a.toList b.toList (out ++ a.extract ia a.size ++ b.extract ib b.size).toList
noncomputable abbrev LastL (rk : Keyed → Nat) (a b : Array Keyed) : Prop := ∀ (out : Array Keyed) (ia ib : Nat), MI rk a.toList b.toList out.toList ia ib → ia + 1 = a.size → Merged rk a.toList b.toList (out ++ b.extract ib b.size ++ a.extract ia a.size).toList
structure QL (rk : Keyed → Nat) (a b : Array Keyed) (k : Nat) (st : SortSt) (Q : ForInStep ResL → SortSt → Prop) : Prop where
  dn : ∀ m out ia ib mg ac bc, Merged rk a.toList b.toList m.toList → Q (.done (some m, out, ia, ib, mg, ac, bc)) st
  go : ∀ out ia ib mg ac bc, MI rk a.toList b.toList out.toList ia ib → ia + 1 < a.size → ib < b.size → k ≤ ia + ib → Q (.done (none, out, ia, ib, mg, ac, bc)) st ∧ Q (.yield (none, out, ia, ib, mg, ac, bc)) st
theorem loTail_spec {a b out : Array Keyed} {st : SortSt} {mg ac bc ia ib k : Nat} {Q : ForInStep ResL → SortSt → Prop} (D : LastL rk a b) (H : QL rk a b k st Q) (sa : Srt rk a.toList) (M : MI rk a.toList b.toList out.toList ia ib) (h1 : ia + 1 < a.size) (h3 : ib < b.size)
    (hk : k ≤ ia + ib) (hl : ∀ h : ia < a.size, ∀ y ∈ b.toList.drop ib, rk (a[ia]'h) ≤ rk y) : wpS (model prog w) A E s (loTail a b mg ac bc ia ib out) Q st := by
  have n2 : ia < a.size := Nat.lt_of_succ_lt h1
  unfold loTail
  refine wpS_bind (wpS_at n2 ?_)
  have M4 := MI.pushA (out := _) M sa n2 (hl n2)
  by_cases e7 : ia + 1 + 1 = a.size
  · rw [if_pos (by simpa using e7)]
    exact wpS_pure (H.dn _ _ _ _ _ _ _ (D _ _ _ M4 e7))
  rw [if_neg (by simpa using e7)]
  have g := H.go _ _ _ mg ac bc M4 (Nat.lt_of_le_of_ne h1 e7) h3 (by exact Mine.r255 hk)
  split
  · exact wpS_pure g.1
  · exact wpS_pure g.2
theorem loB_spec {a b out : Array Keyed} {st : SortSt} {mg ac bc ia ib k : Nat} {Q : ForInStep ResL → SortSt → Prop} (C : Cmp prog w A E s κ0 rk a₀) (hkk : kindOf st = κ0) (ha : ∀ x ∈ a.toList, x ∈ a₀.toList) (hb : ∀ x ∈ b.toList, x ∈ a₀.toList) (D : DoneL rk a b) (F : LastL rk a b) (H : QL rk a b k st Q)
    (sa : Srt rk a.toList) (sb : Srt rk b.toList) (M : MI rk a.toList b.toList out.toList ia ib) (h1 : ia + 1 < a.size) (h3 : ib < b.size)
    (hk : k ≤ ia + ib) (hl : ∀ h : ib < b.size, ∀ y ∈ a.toList.drop ia, rk (b[ib]'h) ≤ rk y) : wpS (model prog w) A E s (loB a b mg ac bc ia ib out) Q st := by
  have n2 : ia < a.size := Nat.lt_of_succ_lt h1
  unfold loB
  refine wpS_bind (wpS_at h3 ?_)
  have M2 := MI.pushB (out := _) M sb h3 (hl h3)
  by_cases e3 : ib + 1 = b.size
  · rw [if_pos (by simpa using e3)]
    exact wpS_pure (H.dn _ _ _ _ _ _ _ (D _ _ _ M2 (.inl e3)))
  rw [if_neg (by simpa using e3)]
  refine wpS_bind (wpS_at n2 ?_)
  refine wpS_bind (gallop_spec C hkk (ha _ (by simp)) hb (by exact Mine.r95 h3) (by exact Mine.r387 h3 e3) (bey_mono sb (by exact Mine.r95 h3)) fun k2 kb1 kb2 kb3 => ?_)
  have cB := chunkB (a := a) (ia := ia) sa n2 kb1 kb2
  have nB := nextB (b := b) sb kb3
  dsimp only
  by_cases e4 : k2 > 0
  · rw [if_pos e4]
    have M3 := M2.appB sb (by exact Mine.r409 kb1 e4) cB
    by_cases e5 : ib + 1 + k2 = b.size
    · rw [if_pos (by simpa using e5)]
      exact wpS_pure (H.dn _ _ _ _ _ _ _ (D _ _ _ M3 (.inl e5)))
    rw [if_neg (by simpa using e5)]
    exact loTail_spec F H sa M3 h1 (by exact Mine.r490 kb1 e4 e5) (by exact Mine.r308 hk) fun _ => nB
  · rw [if_neg e4]
    obtain rfl : k2 = 0 := by exact Mine.r65 e4
    rw [Nat.add_zero] at nB
    exact loTail_spec F H sa M2 h1 (by exact Mine.r40 h3 e3) (by exact Mine.r256 hk) fun _ => nB
theorem loA_spec {a b out : Array Keyed} {st : SortSt} {mg ac bc ia ib k : Nat} {Q : ForInStep ResL → SortSt → Prop} (C : Cmp prog w A E s κ0 rk a₀) (hkk : kindOf st = κ0) (ha : ∀ x ∈ a.toList, x ∈ a₀.toList) (hb : ∀ x ∈ b.toList, x ∈ a₀.toList) (D : DoneL rk a b) (F : LastL rk a b) (H : ∀ st', SG st st' → QL rk a b k st' Q)
    (sa : Srt rk a.toList) (sb : Srt rk b.toList) (M : MI rk a.toList b.toList out.toList ia ib) (h1 : ia + 1 < a.size) (h3 : ib < b.size)
    (hk : k ≤ ia + ib) : wpS (model prog w) A E s (loA a b bc ia ib out mg ac) Q st := by
  unfold loA
  refine wpS_bind (wpS_setMin fun st4 g4 => ?_)
  have hk4 : kindOf st4 = κ0 := g4.2.1.trans hkk
  refine wpS_bind (wpS_at h3 ?_)
  refine wpS_bind (gallop_spec C hk4 (hb _ (by simp)) ha (by exact Mine.r89 h1) (by exact Mine.r229 h1) (bey_mono sa (by exact Mine.r89 h1)) fun k1 ka1 ka2 ka3 => ?_)
  have cA := chunkA (b := b) (ib := ib) sb h3 ka1 ka2
  have nA := nextA (a := a) sa ka3
  dsimp only
  by_cases e1 : k1 > 0
  · rw [if_pos e1]
    have M1 := M.appA sa (by exact Mine.r293 ka1 e1) cA
    by_cases e2 : ia + k1 + 1 = a.size
    · rw [if_pos (by simpa using e2)]
      exact wpS_pure ((H _ g4).dn _ _ _ _ _ _ _ (F _ _ _ M1 e2))
    rw [if_neg (by simpa using e2)]
    by_cases e2b : ia + k1 = a.size
    · rw [if_pos (by simpa using e2b)]
      exact wpS_pure ((H _ g4).dn _ _ _ _ _ _ _ (D _ _ _ M1 (.inr e2b)))
    rw [if_neg (by simpa using e2b)]
    exact loB_spec C hk4 ha hb D F (H _ g4) sa sb M1 (by exact Mine.r501 ka1 e1 e2b e2) h3 (by exact Mine.r214 hk) fun _ => nA
  · rw [if_neg e1]
    obtain rfl : k1 = 0 := by exact Mine.r65 e1
    rw [Nat.add_zero] at nA
    exact loB_spec C hk4 ha hb D F (H _ g4) sa sb M h1 h3 hk fun _ => nA
noncomputable abbrev ResL1 := Option (Array Keyed) × Array Keyed × Nat × Nat × Nat × Nat
noncomputable abbrev ResL0 := Option (Array Keyed) × Array Keyed × Nat × Nat × Nat
noncomputable def loOne (a b : Array Keyed) (mg : Nat) (d : ResL1) : StateT SortSt Sem (ForInStep ResL1) := do
  let y ← elem' b d.2.2.2.1
  let x ← elem' a d.2.2.1
  let z ← lt' y x
  match z with
  | some w =>
    if w = true then do
      let u ← elem' b d.2.2.2.1
      if (d.2.2.2.1 + 1 == b.size) = true then pure (.done (some (d.2.1.push u ++ a.extract d.2.2.1 a.size ++ b.extract (d.2.2.2.1 + 1) b.size), d.2.1.push u, d.2.2.1, d.2.2.2.1 + 1, 0, d.2.2.2.2.2 + 1))
      else if d.2.2.2.2.2 + 1 ≥ mg then pure (.done (none, d.2.1.push u, d.2.2.1, d.2.2.2.1 + 1, 0, d.2.2.2.2.2 + 1))
      else pure (.yield (none, d.2.1.push u, d.2.2.1, d.2.2.2.1 + 1, 0, d.2.2.2.2.2 + 1))
    else do
      let u ← elem' a d.2.2.1
      if (d.2.2.1 + 1 + 1 == a.size) = true then pure (.done (some (d.2.1.push u ++ b.extract d.2.2.2.1 b.size ++ a.extract (d.2.2.1 + 1) a.size), d.2.1.push u, d.2.2.1 + 1, d.2.2.2.1, d.2.2.2.2.1 + 1, 0))
      else if d.2.2.2.2.1 + 1 ≥ mg then pure (.done (none, d.2.1.push u, d.2.2.1 + 1, d.2.2.2.1, d.2.2.2.2.1 + 1, 0))
      else pure (.yield (none, d.2.1.push u, d.2.2.1 + 1, d.2.2.2.1, d.2.2.2.2.1 + 1, 0))
  | _ => pure (.done (some (d.2.1 ++ a.extract d.2.2.1 a.size ++ b.extract d.2.2.2.1 b.size), d.2.1, d.2.2.1, d.2.2.2.1, d.2.2.2.2.1, d.2.2.2.2.2))
noncomputable def loTwo (a b : Array Keyed) (e : ResL) : StateT SortSt Sem (ForInStep ResL) :=
  if e.2.2.2.2.1 > 1 then loA a b e.2.2.2.2.2.2 e.2.2.1 e.2.2.2.1 e.2.1 (e.2.2.2.2.1 - 1) e.2.2.2.2.2.1 else loA a b e.2.2.2.2.2.2 e.2.2.1 e.2.2.2.1 e.2.1 e.2.2.2.2.1 e.2.2.2.2.2.1
noncomputable abbrev LiveL (rk : Keyed → Nat) (a b : Array Keyed) (k : Nat) (out : Array Keyed) (ia ib : Nat) : Prop := MI rk a.toList b.toList out.toList ia ib ∧ ia + 1 < a.size ∧ ib < b.size ∧ k ≤ ia + ib
noncomputable abbrev IL0 (rk : Keyed → Nat) (a b : Array Keyed) (st : SortSt) (x : Nat) (c : ResL0) (sx : SortSt) : Prop := SG st sx ∧ ∃ (out : Array Keyed) (ia ib mg : Nat), c = (none, out, ia, ib, mg) ∧ LiveL rk a b (x + 1) out ia ib
noncomputable abbrev JL0 (rk : Keyed → Nat) (a b : Array Keyed) (st : SortSt) (c : ResL0) (sx : SortSt) : Prop := SG st sx ∧ ∃ (m out : Array Keyed) (ia ib mg : Nat), c = (some m, out, ia, ib, mg) ∧ Merged rk a.toList b.toList m.toList
noncomputable abbrev IL1 (rk : Keyed → Nat) (a b : Array Keyed) (st : SortSt) (x y : Nat) (c : ResL1) (sy : SortSt) : Prop := sy = st ∧ ∃ (out : Array Keyed) (ia ib ac bc : Nat), c = (none, out, ia, ib, ac, bc) ∧ LiveL rk a b (x + 1 + y) out ia ib
noncomputable abbrev JL1 (rk : Keyed → Nat) (a b : Array Keyed) (st : SortSt) (x : Nat) (c : ResL1) (sy : SortSt) : Prop := sy = st ∧ ((∃ (m out : Array Keyed) (ia ib ac bc : Nat), c = (some m, out, ia, ib, ac, bc) ∧ Merged rk a.toList b.toList m.toList) ∨
  (∃ (out : Array Keyed) (ia ib ac bc : Nat), c = (none, out, ia, ib, ac, bc) ∧ LiveL rk a b (x + 2) out ia ib))
noncomputable abbrev IL2 (rk : Keyed → Nat) (a b : Array Keyed) (st : SortSt) (x : Nat) (c : ResL) (sz : SortSt) : Prop := SG st sz ∧ ∃ (out : Array Keyed) (ia ib mg ac bc : Nat), c = (none, out, ia, ib, mg, ac, bc) ∧ LiveL rk a b (x + 2) out ia ib
noncomputable abbrev JL2 (rk : Keyed → Nat) (a b : Array Keyed) (st : SortSt) (x : Nat) (c : ResL) (sz : SortSt) : Prop := SG st sz ∧ ((∃ (m out : Array Keyed) (ia ib mg ac bc : Nat), c = (some m, out, ia, ib, mg, ac, bc) ∧ Merged rk a.toList b.toList m.toList) ∨
  (∃ (out : Array Keyed) (ia ib mg ac bc : Nat), c = (none, out, ia, ib, mg, ac, bc) ∧ LiveL rk a b (x + 2) out ia ib))
theorem doneL {a b : Array Keyed} (sa : Srt rk a.toList) (sb : Srt rk b.toList) : DoneL rk a b := by
  intro out ia ib M e
  have e1 : (out ++ a.extract ia a.size ++ b.extract ib b.size).toList = out.toList ++ a.toList.drop ia ++ b.toList.drop ib := by rw [Array.toList_append, Array.toList_append, ext_all, ext_all]
  rw [e1]
  refine M.ab sa sb fun x hx y hy => ?_
  rcases e with rfl | rfl
  · rw [List.drop_of_length_le (by simp)] at hy; cases hy
  · rw [List.drop_of_length_le (by simp)] at hx; cases hx
theorem lastL {a b : Array Keyed} (sa : Srt rk a.toList) (sb : Srt rk b.toList) (last : ∀ x ∈ b.toList, rk x ≤ KR rk a (a.size - 1)) : LastL rk a b := by
  intro out ia ib M e
  have e1 : (out ++ b.extract ib b.size ++ a.extract ia a.size).toList = out.toList ++ b.toList.drop ib ++ a.toList.drop ia := by rw [Array.toList_append, Array.toList_append, ext_all, ext_all]
  rw [e1]
  refine M.ba sa sb fun x hx y hy => ?_
  obtain ⟨j, j1, j2, j3⟩ := drop_mem (rk := rk) hy
  have : j = a.size - 1 := by exact Mine.r376 j2 j1 e
  rw [j3, this]
  exact last x (List.mem_of_mem_drop hx)
theorem loOne_spec {a b out : Array Keyed} {st : SortSt} {mg ia ib ac bc x y : Nat} {R : ForInStep ResL1 → SortSt → Prop} (C : Cmp prog w A E s κ0 rk a₀) (hk1 : kindOf st = κ0) (ha : ∀ x ∈ a.toList, x ∈ a₀.toList) (hb : ∀ x ∈ b.toList, x ∈ a₀.toList) (D : DoneL rk a b) (F : LastL rk a b)
    (sa : Srt rk a.toList) (sb : Srt rk b.toList) (hd : ∀ c sy, JL1 rk a b st x c sy → R (.done c) sy) (hy : ∀ c sy, IL1 rk a b st x (y + 1) c sy → R (.yield c) sy) (L : LiveL rk a b (x + 1 + y) out ia ib) :
    wpS (model prog w) A E s (loOne a b mg (none, out, ia, ib, ac, bc)) R st := by
  obtain ⟨M, b1, b2, b3⟩ := L
  have n2 : ia < a.size := Nat.lt_of_succ_lt b1
  unfold loOne
  refine wpS_bind (wpS_at b2 (wpS_bind (wpS_at n2 ?_)))
  refine wpS_bind (C _ (hb _ (by simp)) _ (ha _ (by simp)) _ _ hk1 ?_)
  refine wpS_dec (fun hl => ?_) (fun hl => ?_)
  · refine wpS_bind (wpS_at b2 ?_)
    have M1 := M.pushB sb b2 (drop_all sa fun hs => by rw [KR_list hs]; exact Nat.le_of_lt hl)
    refine wpS_beq (fun e => ?_) (fun e => wpS_ite (fun e2 => ?_) (fun e2 => ?_))
    · exact wpS_pure (hd _ _ ⟨rfl, .inl ⟨_, _, _, _, _, _, rfl, D _ _ _ M1 (.inl e)⟩⟩)
    · exact wpS_pure (hd _ _ ⟨rfl, .inr ⟨_, _, _, _, _, rfl, M1, b1, by exact Mine.r40 b2 e, by exact Mine.r416 b3⟩⟩)
    · exact wpS_pure (hy _ _ ⟨rfl, _, _, _, _, _, rfl, M1, b1, by exact Mine.r40 b2 e, by exact Mine.r468 b3⟩)
  · refine wpS_bind (wpS_at n2 ?_)
    have M1 := M.pushA sa n2 (drop_all sb fun hs => by rw [KR_list hs]; exact Nat.le_of_not_lt hl)
    refine wpS_beq (fun e => ?_) (fun e => wpS_ite (fun e2 => ?_) (fun e2 => ?_))
    · exact wpS_pure (hd _ _ ⟨rfl, .inl ⟨_, _, _, _, _, _, rfl, F _ _ _ M1 e⟩⟩)
    · exact wpS_pure (hd _ _ ⟨rfl, .inr ⟨_, _, _, _, _, rfl, M1, by exact Mine.r111 b1 e, b2, by exact Mine.r417 b3⟩⟩)
    · exact wpS_pure (hy _ _ ⟨rfl, _, _, _, _, _, rfl, M1, by exact Mine.r111 b1 e, b2, by exact Mine.r469 b3⟩)
theorem mergeLo_spec {a b : Array Keyed} {st : SortSt} {Q : Array Keyed → SortSt → Prop} (C : Cmp prog w A E s κ0 rk a₀) (hk : kindOf st = κ0) (ha : ∀ x ∈ a.toList, x ∈ a₀.toList) (hb : ∀ x ∈ b.toList, x ∈ a₀.toList)
    (sa : Srt rk a.toList) (sb : Srt rk b.toList) (h1 : 0 < a.size) (h2 : 0 < b.size) (first : ∀ y ∈ a.toList, KR rk b 0 ≤ rk y) (last : ∀ x ∈ b.toList, rk x ≤ KR rk a (a.size - 1))
    (h : ∀ (m : Array Keyed) st', SG st st' → Merged rk a.toList b.toList m.toList → Q m st') : wpS (model prog w) A E s (mergeLo' a b) Q st := by
  have done := doneL sa sb
  have lastOf := lastL sa sb last
  have M0 : MI rk a.toList b.toList [b[0]] 0 1 := by
    have z : MI rk a.toList b.toList [] 0 0 := ⟨Nat.zero_le _, Nat.zero_le _, by simp, .nil, (fun x hx => nomatch hx), (fun x hx => nomatch hx)⟩
    have := z.stepB sb (k := 1) (by rw [Array.length_toList]; exact Mine.r205 h2) (by
      rw [one_take h2]
      intro x hx y hy
      rw [List.mem_singleton.mp hx, ← KR_list (rk := rk) h2]
      exact first y (List.mem_of_mem_drop hy))
    rw [one_take h2] at this
    exact this
  rw [mergeLo'_eq]
  refine wpS_bind (wpS_lift (wpAny_rule ⟨rfl, ?_⟩))
  refine wpS_bind (wpS_at h2 ?_)
  refine wpS_beq (fun e1 => wpS_pure (h _ _ (SG.refl _) (done _ _ _ M0 (.inl e1)))) (fun e1 => wpS_beq (fun e2 => wpS_pure (h _ _ (SG.refl _) (lastOf _ _ _ M0 e2))) (fun e2 => ?_))
  refine wpS_bind (wpS_get ?_)
  refine wpS_loop (IL0 rk a b st) (JL0 rk a b st) ?step ?fin ⟨SG.refl _, _, _, _, _, rfl, M0, by exact Mine.r401 h1 e2, by exact Mine.r282 h2 e1, by exact Mine.r199⟩ ?post
  case post =>
    rintro K hK c sx ⟨g1, m, out, ia, ib, mg, rfl, hm⟩
    subst hK
    exact wpS_pure (h m sx g1 hm)
  case fin =>
    rintro c sx ⟨g1, out, ia, ib, mg, rfl, M, b1, b2, b3⟩
    exact (Mine.r461 b2 b1 b3).elim
  clear M0 first last h h1 h2 e1 e2
  rintro B hB x c sx R - - hd hy ⟨g1, out, ia, ib, mg, rfl, L⟩
  have hk1 : kindOf sx = κ0 := g1.2.1.trans hk
  subst hB
  refine (?_ : wpS _ _ _ _ (forIn [:a.size + b.size] ((none, out, ia, ib, 0, 0) : ResL1) (fun _ d => loOne a b mg d) >>= (_ : ResL1 → StateT SortSt Sem (ForInStep ResL0))) _ _)
  refine wpS_loop (IL1 rk a b sx x) (JL1 rk a b sx x) ?istep ?ifin ⟨rfl, _, _, _, _, _, rfl, L⟩ ?ipost
  case ifin =>
    rintro c sy ⟨e, out, ia, ib, ac, bc, rfl, M, b1, b2, b3⟩
    exact ⟨e, .inr ⟨_, _, _, _, _, rfl, M, b1, b2, by exact Mine.r477 b2 b3⟩⟩
  case istep =>
    rintro B hB y c sy R - - hd hy ⟨rfl, out, ia, ib, ac, bc, rfl, L⟩
    subst hB
    exact loOne_spec C hk1 ha hb done lastOf sa sb hd hy L
  clear L
  rintro K hK c sy ⟨rfl, ⟨m, out, ia, ib, ac, bc, rfl, hm⟩ | ⟨out, ia, ib, ac, bc, rfl, L⟩⟩
  · subst hK
    exact wpS_pure (hd _ _ ⟨g1, m, _, _, _, _, rfl, hm⟩)
  subst hK
  refine wpS_bind (wpS_lift (wpAny_rule ⟨rfl, ?_⟩))
  refine (?_ : wpS _ _ _ _ (forIn [:a.size + b.size] ((none, out, ia, ib, mg + 1, ac, bc) : ResL) (fun _ e => loTwo a b e) >>= (_ : ResL → StateT SortSt Sem (ForInStep ResL0))) _ _)
  refine wpS_loop (fun _ => IL2 rk a b st x) (JL2 rk a b st x) ?gstep ?gfin ⟨g1, _, _, _, _, _, _, rfl, L⟩ ?gpost
  case gfin =>
    rintro c sz ⟨g3, hh⟩
    exact ⟨g3, .inr hh⟩
  case gpost =>
    rintro K hK c sz ⟨g3, ⟨m, out, ia, ib, mg, ac, bc, rfl, hm⟩ | ⟨out, ia, ib, mg, ac, bc, rfl, L⟩⟩
    · subst hK
      exact wpS_pure (hd _ _ ⟨g3, m, _, _, _, _, rfl, hm⟩)
    · subst hK
      refine wpS_bind (wpS_setMin fun st4 g4 => ?_)
      exact wpS_pure (hy _ _ ⟨g3.trans g4, _, _, _, _, rfl, L⟩)
  clear L hd hy
  rintro B hB z c sz R - - hd hy ⟨g3, out, ia, ib, mg, ac, bc, rfl, M, b1, b2, b3⟩
  subst hB
  have H : ∀ mg ac bc, wpS (model prog w) A E s (loA a b bc ia ib out mg ac) R sz := fun mg ac bc =>
    loA_spec C (g3.2.1.trans hk) ha hb done lastOf (fun st' g4 => ⟨fun m out ia ib mg ac bc hm => hd _ _ ⟨g3.trans g4, .inl ⟨m, out, ia, ib, mg, ac, bc, rfl, hm⟩⟩, fun out ia ib mg ac bc M b1 b2 b3 => ⟨hd _ _ ⟨g3.trans g4, .inr ⟨out, ia, ib, mg, ac, bc, rfl, M, b1, b2, b3⟩⟩, hy _ _ ⟨g3.trans g4, out, ia, ib, mg, ac, bc, rfl, M, b1, b2, b3⟩⟩⟩) sa sb M b1 b2 b3
  exact wpS_ite (fun _ => H _ _ _) (fun _ => H _ _ _)
end
end Mine
end
section
open PySem PySem.W PyProof.Rows
set_option maxRecDepth 100000
namespace Mine
noncomputable def mergeHi' : Array Keyed → Array Keyed → StateT SortSt Sem (Array Keyed) := sortPriv% PySem.Builtin.mergeHi
theorem mergeHi'_eq (a b : Array Keyed) : mergeHi' a b = (do
  rule "list.sort.merge-hi"
  let total := a.size + b.size
  let done (out : Array Keyed) (na nb : Nat) := a.extract 0 na ++ b.extract 0 nb ++ out.reverse
  let firstOfB (out : Array Keyed) (na nb : Nat) := b.extract 0 nb ++ a.extract 0 na ++ out.reverse
  let mut na := a.size - 1
  let mut nb := b.size
  let mut out : Array Keyed := #[← elem' a na]
  if na == 0 then return done out na nb
  if nb == 1 then return firstOfB out na nb
  let mut minGallop := gallopOf (← get)
  for _ in [0:total] do
    let mut acount := 0
    let mut bcount := 0
    for _ in [0:total] do
      let some aWins ← lt' (← elem' b (nb - 1)) (← elem' a (na - 1)) | return done out na nb
      if aWins then
        na := na - 1; out := out.push (← elem' a na); acount := acount + 1; bcount := 0
        if na == 0 then return done out na nb
        if acount ≥ minGallop then break
      else
        nb := nb - 1; out := out.push (← elem' b nb); bcount := bcount + 1; acount := 0
        if nb == 1 then return firstOfB out na nb
        if bcount ≥ minGallop then break
    rule "list.sort.gallop"
    minGallop := minGallop + 1
    for _ in [0:total] do
      if minGallop > 1 then minGallop := minGallop - 1
      setMinGallop' minGallop
      let some at_ ← gallop' false (← elem' b (nb - 1)) a 0 na (na - 1) | return done out na nb
      let k := na - at_
      acount := k
      if k > 0 then
        out := out ++ (a.extract at_ na).reverse; na := at_
        if na == 0 then return done out na nb
      nb := nb - 1; out := out.push (← elem' b nb)
      if nb == 1 then return firstOfB out na nb
      let some at_ ← gallop' true (← elem' a (na - 1)) b 0 nb (nb - 1) | return done out na nb
      let k := nb - at_
      bcount := k
      if k > 0 then
        out := out ++ (b.extract at_ nb).reverse; nb := at_
        if nb == 1 then return firstOfB out na nb
        if nb == 0 then return done out na nb
      na := na - 1; out := out.push (← elem' a na)
      if na == 0 then return done out na nb
      if acount < 7 && bcount < 7 then break
    minGallop := minGallop + 1
    setMinGallop' minGallop
  unsupported "internal:list.sort.merge-bound") := rfl
section
variable {rk : Keyed → Nat}
structure MH (rk : Keyed → Nat) (a b out : List Keyed) (na nb : Nat) : Prop where
  la : na ≤ a.length
  lb : nb ≤ b.length
  perm : out.Perm (a.drop na ++ b.drop nb)
  srt : Srt rk out.reverse
  ua : UpTo rk (a.take na) out
  ub : UpTo rk (b.take nb) out
theorem drop_less {l : List Keyed} {i n : Nat} (h : i ≤ n) : l.drop i = (l.take n).drop i ++ l.drop n := by
  conv => lhs; rw [← List.take_append_drop n l]
  by_cases hn : n ≤ l.length
  · rw [List.drop_append_of_le_length (by rw [List.length_take]; exact Mine.r206 h hn)]
  · rw [List.drop_of_length_le (i := n) (by exact Mine.r22 hn)]
    simp
theorem take_in {l : List Keyed} {i n : Nat} (h : i ≤ n) {x : Keyed} (hx : x ∈ l.take i) : x ∈ l.take n := by
  have : l.take i = (l.take n).take i := by rw [List.take_take, Nat.min_eq_left h]
  rw [this] at hx
  exact List.mem_of_mem_take hx
theorem MH.stepA {a b out : List Keyed} {na nb : Nat} (M : MH rk a b out na nb) (sa : Srt rk a) {i : Nat} (hi : i ≤ na) (hu : UpTo rk (b.take nb) ((a.take na).drop i)) : MH rk a b (out ++ ((a.take na).drop i).reverse) i nb := by
  refine ⟨Nat.le_trans hi M.la, M.lb, ?_, ?_, ?_, ?_⟩
  · rw [drop_less (l := a) hi, List.append_assoc]
    have h1 : (out ++ ((a.take na).drop i).reverse).Perm (((a.take na).drop i) ++ out) := by
      refine List.perm_append_comm.trans ?_
      exact (List.reverse_perm _).append_right _
    exact h1.trans (List.Perm.append_left _ M.perm)
  · rw [List.reverse_append, List.reverse_reverse]
    refine ((sa.take na).drop i).append M.srt fun x hx y hy => M.ua x (List.mem_of_mem_drop hx) y (List.mem_reverse.mp hy)
  · intro x hx y hy
    rcases List.mem_append.mp hy with hy | hy
    · exact M.ua x (take_in hi hx) y hy
    · have e : (a.take na).take i = a.take i := by rw [List.take_take, Nat.min_eq_left hi]
      exact (sa.take na).split i x (by rw [e]; exact hx) y (List.mem_reverse.mp hy)
  · intro x hx y hy
    rcases List.mem_append.mp hy with hy | hy
    · exact M.ub x hx y hy
    · exact hu x hx y (List.mem_reverse.mp hy)
theorem MH.stepB {a b out : List Keyed} {na nb : Nat} (M : MH rk a b out na nb) (sb : Srt rk b) {i : Nat} (hi : i ≤ nb) (hu : UpTo rk (a.take na) ((b.take nb).drop i)) : MH rk a b (out ++ ((b.take nb).drop i).reverse) na i := by
  refine ⟨M.la, Nat.le_trans hi M.lb, ?_, ?_, ?_, ?_⟩
  · rw [drop_less (l := b) hi]
    refine (M.perm.append_right _).trans ?_
    rw [List.append_assoc]
    refine List.Perm.append_left _ ?_
    refine List.perm_append_comm.trans ?_
    exact (List.reverse_perm _).append_right _
  · rw [List.reverse_append, List.reverse_reverse]
    refine ((sb.take nb).drop i).append M.srt fun x hx y hy => M.ub x (List.mem_of_mem_drop hx) y (List.mem_reverse.mp hy)
  · intro x hx y hy
    rcases List.mem_append.mp hy with hy | hy
    · exact M.ua x hx y hy
    · exact hu x hx y (List.mem_reverse.mp hy)
  · intro x hx y hy
    rcases List.mem_append.mp hy with hy | hy
    · exact M.ub x (take_in hi hx) y hy
    · have e : (b.take nb).take i = b.take i := by rw [List.take_take, Nat.min_eq_left hi]
      exact (sb.take nb).split i x (by rw [e]; exact hx) y (List.mem_reverse.mp hy)
theorem MH.ab {a b out : List Keyed} {na nb : Nat} (M : MH rk a b out na nb) (sa : Srt rk a) (sb : Srt rk b) (hu : UpTo rk (a.take na) (b.take nb)) : Merged rk a b (a.take na ++ b.take nb ++ out.reverse) := by
  refine ⟨?_, ?_⟩
  · have h1 := (List.reverse_perm out).trans M.perm
    refine (List.Perm.append_left _ h1).trans ?_
    conv => rhs; rw [← List.take_append_drop na a, ← List.take_append_drop nb b]
    rw [List.append_assoc, List.append_assoc]
    refine List.Perm.append_left _ ?_
    rw [← List.append_assoc, ← List.append_assoc]
    exact List.perm_append_comm.append_right _
  · refine ((sa.take na).append (sb.take nb) hu).append M.srt fun x hx y hy => ?_
    rcases List.mem_append.mp hx with hx | hx
    · exact M.ua x hx y (List.mem_reverse.mp hy)
    · exact M.ub x hx y (List.mem_reverse.mp hy)
theorem MH.ba {a b out : List Keyed} {na nb : Nat} (M : MH rk a b out na nb) (sa : Srt rk a) (sb : Srt rk b) (hu : UpTo rk (b.take nb) (a.take na)) : Merged rk a b (b.take nb ++ a.take na ++ out.reverse) := by
  refine ⟨?_, ?_⟩
  · have h1 := (List.reverse_perm out).trans M.perm
    refine (List.Perm.append_left _ h1).trans ?_
    conv => rhs; rw [← List.take_append_drop na a, ← List.take_append_drop nb b]
    refine (List.perm_append_comm.append_right _).trans ?_
    rw [List.append_assoc, List.append_assoc]
    refine List.Perm.append_left _ ?_
    rw [← List.append_assoc, ← List.append_assoc]
    exact List.perm_append_comm.append_right _
  · refine ((sb.take nb).append (sa.take na) hu).append M.srt fun x hx y hy => ?_
    rcases List.mem_append.mp hx with hx | hx
    · exact M.ub x hx y (List.mem_reverse.mp hy)
    · exact M.ua x hx y (List.mem_reverse.mp hy)
theorem ext_mid {xs : Array Keyed} {i n : Nat} : (xs.extract i n).toList = (xs.toList.take n).drop i := by
  rw [Array.toList_extract, List.drop_take]
theorem ext_zero {xs : Array Keyed} {n : Nat} : (xs.extract 0 n).toList = xs.toList.take n := by rw [ext_mid, List.drop_zero]
theorem one_drop {xs : Array Keyed} {i : Nat} (h : i < xs.size) : (xs.toList.take (i + 1)).drop i = [xs[i]'h] := by
  rw [List.drop_take, show i + 1 - i = 1 by exact Mine.r57, one_take h]
theorem up_mem {xs : Array Keyed} {n : Nat} {y : Keyed} (hy : y ∈ xs.toList.take n) : ∃ j, j < n ∧ j < xs.size ∧ rk y = KR rk xs j := by
  obtain ⟨m, hm, e⟩ := List.getElem_of_mem hy
  rw [List.getElem_take] at e
  simp only [List.length_take, Array.length_toList] at hm
  refine ⟨m, by exact Mine.r139 hm, by exact Mine.r53 hm, ?_⟩
  rw [KR_list (by exact Mine.r53 hm), ← e]; simp
theorem up_all {xs : Array Keyed} (h : Srt rk xs.toList) {n : Nat} {v : Nat} (hs : n ≤ xs.size) (hn : 0 < n → KR rk xs (n - 1) ≤ v) : ∀ y ∈ xs.toList.take n, rk y ≤ v := fun y hy => by
  obtain ⟨j, h1, h2, e⟩ := up_mem (rk := rk) hy
  rw [e]
  exact Nat.le_trans (srt_KR h (by exact Mine.r27 h1) (by exact Mine.r236 h1 hs)) (hn (by exact Mine.r129 h1))
theorem MH.pushA {a b out : Array Keyed} {na nb : Nat} (M : MH rk a.toList b.toList out.toList na nb) (sa : Srt rk a.toList) (h0 : 0 < na) (h : na - 1 < a.size) (hu : ∀ y ∈ b.toList.take nb, rk y ≤ rk (a[na - 1]'h)) : MH rk a.toList b.toList (out.push (a[na - 1]'h)).toList (na - 1) nb := by
  have e := one_drop h
  rw [show na - 1 + 1 = na by exact Mine.r92 h0] at e
  have := M.stepA sa (i := na - 1) (by exact Mine.r46) (by
    rw [e]
    intro x hx y hy
    rw [List.mem_singleton.mp hy]
    exact hu x hx)
  rw [e] at this
  rw [Array.toList_push]
  exact this
theorem MH.pushB {a b out : Array Keyed} {na nb : Nat} (M : MH rk a.toList b.toList out.toList na nb) (sb : Srt rk b.toList) (h0 : 0 < nb) (h : nb - 1 < b.size) (hu : ∀ y ∈ a.toList.take na, rk y ≤ rk (b[nb - 1]'h)) : MH rk a.toList b.toList (out.push (b[nb - 1]'h)).toList na (nb - 1) := by
  have e := one_drop h
  rw [show nb - 1 + 1 = nb by exact Mine.r92 h0] at e
  have := M.stepB sb (i := nb - 1) (by exact Mine.r46) (by
    rw [e]
    intro x hx y hy
    rw [List.mem_singleton.mp hy]
    exact hu x hx)
  rw [e] at this
  rw [Array.toList_push]
  exact this
theorem MH.appA {a b out : Array Keyed} {na nb i : Nat} (M : MH rk a.toList b.toList out.toList na nb) (sa : Srt rk a.toList) (h : i ≤ na) (hu : UpTo rk (b.toList.take nb) ((a.toList.take na).drop i)) : MH rk a.toList b.toList (out ++ (a.extract i na).reverse).toList i nb := by
  rw [Array.toList_append, Array.toList_reverse, ext_mid]
  exact M.stepA sa h hu
theorem MH.appB {a b out : Array Keyed} {na nb i : Nat} (M : MH rk a.toList b.toList out.toList na nb) (sb : Srt rk b.toList) (h : i ≤ nb) (hu : UpTo rk (a.toList.take na) ((b.toList.take nb).drop i)) : MH rk a.toList b.toList (out ++ (b.extract i nb).reverse).toList na i := by
  rw [Array.toList_append, Array.toList_reverse, ext_mid]
  exact M.stepB sb h hu
theorem mid_mem {xs : Array Keyed} {i n : Nat} {y : Keyed} (hy : y ∈ (xs.toList.take n).drop i) : ∃ j, i ≤ j ∧ j < n ∧ j < xs.size ∧ rk y = KR rk xs j := by
  obtain ⟨m, hm, e⟩ := List.getElem_of_mem hy
  rw [List.getElem_drop, List.getElem_take] at e
  simp only [List.length_drop, List.length_take, Array.length_toList] at hm
  refine ⟨i + m, by exact Mine.r3, by exact Mine.r85 hm, by exact Mine.r16 hm, ?_⟩
  rw [KR_list (by exact Mine.r16 hm), ← e]; simp
theorem chunkHA {a b : Array Keyed} {na nb i : Nat} (sb : Srt rk b.toList) (h0 : 0 < nb) (hn : nb ≤ b.size) (hb : nb - 1 < b.size) (h : ∀ j, i ≤ j → j < na → bey rk false (b[nb - 1]'hb) a 0 j = false) : UpTo rk (b.toList.take nb) ((a.toList.take na).drop i) := by
  intro x hx y hy
  obtain ⟨j, h1, h2, h3, e⟩ := mid_mem (rk := rk) hy
  have := h j h1 h2
  unfold bey at this
  simp only [Bool.false_eq_true, if_false, Bool.not_eq_false', decide_eq_true_eq, Nat.zero_add] at this
  have h4 := up_all sb (n := nb) (v := rk (b[nb - 1]'hb)) hn (fun _ => by rw [KR_list hb]; exact Nat.le_refl _) x hx
  exact Mine.r257 this e h4
theorem nextHA {a : Array Keyed} {key : Keyed} {i na : Nat} (sa : Srt rk a.toList) (hi : i ≤ na) (hn : na ≤ a.size) (h : ∀ j, j < i → bey rk false key a 0 j = true) : ∀ y ∈ a.toList.take i, rk y ≤ rk key := by
  refine up_all sa (by exact Mine.r28 hi hn) fun h0 => ?_
  have := h (i - 1) (by exact Mine.r9 h0)
  unfold bey at this
  simp only [Bool.false_eq_true, if_false, Bool.not_eq_true', decide_eq_false_iff_not, Nat.zero_add] at this
  exact Mine.r1 this
theorem chunkHB {a b : Array Keyed} {na nb i : Nat} (sa : Srt rk a.toList) (h0 : 0 < na) (hn : na ≤ a.size) (ha : na - 1 < a.size) (h : ∀ j, i ≤ j → j < nb → bey rk true (a[na - 1]'ha) b 0 j = false) : UpTo rk (a.toList.take na) ((b.toList.take nb).drop i) := by
  intro x hx y hy
  obtain ⟨j, h1, h2, h3, e⟩ := mid_mem (rk := rk) hy
  have := h j h1 h2
  unfold bey at this
  simp only [if_true, decide_eq_false_iff_not, Nat.zero_add] at this
  have h4 := up_all sa (n := na) (v := rk (a[na - 1]'ha)) hn (fun _ => by rw [KR_list ha]; exact Nat.le_refl _) x hx
  exact Mine.r283 e h4 this
theorem nextHB {b : Array Keyed} {key : Keyed} {i nb : Nat} (sb : Srt rk b.toList) (hi : i ≤ nb) (hn : nb ≤ b.size) (h : ∀ j, j < i → bey rk true key b 0 j = true) : ∀ y ∈ b.toList.take i, rk y ≤ rk key := by
  refine up_all sb (by exact Mine.r28 hi hn) fun h0 => ?_
  have := h (i - 1) (by exact Mine.r9 h0)
  unfold bey at this
  simp only [if_true, decide_eq_true_eq, Nat.zero_add] at this
  exact Mine.r5 this
variable {prog : Program} {w : World} {A : Around} {E : Value → Shared → Prop} {s : Shared} {a₀ : Array Keyed} {κ0 : SortKind}
end
noncomputable abbrev ResH := Option (Array Keyed) × Nat × Nat × Array Keyed × Nat × Nat × Nat
noncomputable def hiTail (a b : Array Keyed) (mg ac bc na nb : Nat) (out : Array Keyed) : StateT SortSt Sem (ForInStep ResH) := do
  let x ← elem' a (na - 1)
  if na - 1 == 0 then pure (.done (some (a.extract 0 (na - 1) ++ b.extract 0 nb ++ (out.push x).reverse), na - 1, nb, out.push x, mg, ac, bc))
  else if decide (ac < 7) && decide (bc < 7) then pure (.done (none, na - 1, nb, out.push x, mg, ac, bc))
  else pure (.yield (none, na - 1, nb, out.push x, mg, ac, bc))
noncomputable def hiB (a b : Array Keyed) (mg ac bc na nb : Nat) (out : Array Keyed) : StateT SortSt Sem (ForInStep ResH) := do
  let y ← elem' b (nb - 1)
  if nb - 1 == 1 then pure (.done (some (b.extract 0 (nb - 1) ++ a.extract 0 na ++ (out.push y).reverse), na, nb - 1, out.push y, mg, ac, bc))
  else do
    let x ← elem' a (na - 1)
    let z ← gallop' true x b 0 (nb - 1) (nb - 1 - 1)
    match z with
    | some i =>
      if nb - 1 - i > 0 then
        if i == 1 then pure (.done (some (b.extract 0 i ++ a.extract 0 na ++ (out.push y ++ (b.extract i (nb - 1)).reverse).reverse), na, i, out.push y ++ (b.extract i (nb - 1)).reverse, mg, ac, nb - 1 - i))
        else if i == 0 then pure (.done (some (a.extract 0 na ++ b.extract 0 i ++ (out.push y ++ (b.extract i (nb - 1)).reverse).reverse), na, i, out.push y ++ (b.extract i (nb - 1)).reverse, mg, ac, nb - 1 - i))
        else hiTail a b mg ac (nb - 1 - i) na i (out.push y ++ (b.extract i (nb - 1)).reverse)
      else hiTail a b mg ac (nb - 1 - i) na (nb - 1) (out.push y)
    | _ => pure (.done (some (a.extract 0 na ++ b.extract 0 (nb - 1) ++ (out.push y).reverse), na, nb - 1, out.push y, mg, ac, bc))
noncomputable def hiA (a b : Array Keyed) (bc na nb : Nat) (out : Array Keyed) (mg ac : Nat) : StateT SortSt Sem (ForInStep ResH) := do
  setMinGallop' mg
  let y ← elem' b (nb - 1)
  let z ← gallop' false y a 0 na (na - 1)
  match z with
  | some i =>
    if na - i > 0 then
      if i == 0 then pure (.done (some (a.extract 0 i ++ b.extract 0 nb ++ (out ++ (a.extract i na).reverse).reverse), i, nb, out ++ (a.extract i na).reverse, mg, na - i, bc))
      else hiB a b mg (na - i) bc i nb (out ++ (a.extract i na).reverse)
    else hiB a b mg (na - i) bc na nb out
  | _ => pure (.done (some (a.extract 0 na ++ b.extract 0 nb ++ out.reverse), na, nb, out, mg, ac, bc))
section
variable {prog : Program} {w : World} {A : Around} {E : Value → Shared → Prop} {s : Shared} {a₀ : Array Keyed} {κ0 : SortKind} {rk : Keyed → Nat}
noncomputable abbrev DoneH (rk : Keyed → Nat) (a b : Array Keyed) : Prop := ∀ (out : Array Keyed) (na nb : Nat), MH rk a.toList b.toList out.toList na nb → (na = 0 ∨ nb = 0) → Merged rk a.toList b.toList (a.extract 0 na ++ b.extract 0 nb ++ out.reverse).toList
noncomputable abbrev FirstH (rk : Keyed → Nat) (a b : Array Keyed) : Prop := ∀ (out : Array Keyed) (na nb : Nat), MH rk a.toList b.toList out.toList na nb → nb = 1 → Merged rk a.toList b.toList (b.extract 0 nb ++ a.extract 0 na ++ out.reverse).toList
structure QH (rk : Keyed → Nat) (a b : Array Keyed) (k : Nat) (st : SortSt) (Q : ForInStep ResH → SortSt → Prop) : Prop where
  dn : ∀ m na nb out mg ac bc, Merged rk a.toList b.toList m.toList → Q (.done (some m, na, nb, out, mg, ac, bc)) st
  go : ∀ na nb out mg ac bc, MH rk a.toList b.toList out.toList na nb → 0 < na → 1 < nb → na ≤ a.size → nb ≤ b.size → k + na + nb ≤ a.size + b.size → Q (.done (none, na, nb, out, mg, ac, bc)) st ∧ Q (.yield (none, na, nb, out, mg, ac, bc)) st
theorem hiTail_spec {a b out : Array Keyed} {st : SortSt} {mg ac bc na nb k : Nat} {Q : ForInStep ResH → SortSt → Prop} (D : DoneH rk a b) (H : QH rk a b k st Q) (sa : Srt rk a.toList) (M : MH rk a.toList b.toList out.toList na nb) (h0 : 0 < na) (h1 : na ≤ a.size) (h2 : 1 < nb) (h3 : nb ≤ b.size)
    (hk : k + na + nb ≤ a.size + b.size) (hl : ∀ h : na - 1 < a.size, ∀ y ∈ b.toList.take nb, rk y ≤ rk (a[na - 1]'h)) : wpS (model prog w) A E s (hiTail a b mg ac bc na nb out) Q st := by
  have n2 : na - 1 < a.size := by exact Mine.r36 h1 h0
  unfold hiTail
  refine wpS_bind (wpS_at n2 ?_)
  have M4 := M.pushA sa h0 n2 (hl n2)
  by_cases e7 : na - 1 = 0
  · rw [if_pos (by simpa using e7)]
    exact wpS_pure (H.dn _ _ _ _ _ _ _ (D _ _ _ M4 (.inl e7)))
  rw [if_neg (by simpa using e7)]
  have g := H.go _ _ _ mg ac bc M4 (Nat.pos_of_ne_zero e7) h2 (Nat.le_of_lt n2) h3 (by exact Mine.r410 hk)
  split
  · exact wpS_pure g.1
  · exact wpS_pure g.2
theorem hiB_spec {a b out : Array Keyed} {st : SortSt} {mg ac bc na nb k : Nat} {Q : ForInStep ResH → SortSt → Prop} (C : Cmp prog w A E s κ0 rk a₀) (hkk : kindOf st = κ0) (ha : ∀ x ∈ a.toList, x ∈ a₀.toList) (hb : ∀ x ∈ b.toList, x ∈ a₀.toList) (D : DoneH rk a b) (F : FirstH rk a b) (H : QH rk a b k st Q)
    (sa : Srt rk a.toList) (sb : Srt rk b.toList) (M : MH rk a.toList b.toList out.toList na nb) (h0 : 0 < na) (h1 : na ≤ a.size) (h2 : 1 < nb) (h3 : nb ≤ b.size)
    (hk : k + na + nb ≤ a.size + b.size) (hl : ∀ h : nb - 1 < b.size, ∀ y ∈ a.toList.take na, rk y ≤ rk (b[nb - 1]'h)) : wpS (model prog w) A E s (hiB a b mg ac bc na nb out) Q st := by
  have n1 : nb - 1 < b.size := by exact Mine.r37 h3 h2
  have n2 : na - 1 < a.size := by exact Mine.r36 h1 h0
  have n3 : nb - 1 ≤ b.size := Nat.le_of_lt n1
  unfold hiB
  refine wpS_bind (wpS_at n1 ?_)
  have M2 := M.pushB sb (Nat.lt_trans Nat.zero_lt_one h2) n1 (hl n1)
  by_cases e3 : nb - 1 = 1
  · rw [if_pos (by simpa using e3)]
    exact wpS_pure (H.dn _ _ _ _ _ _ _ (F _ _ _ M2 e3))
  rw [if_neg (by simpa using e3)]
  refine wpS_bind (wpS_at n2 ?_)
  refine wpS_bind (gallop_spec C hkk (ha _ (by simp)) hb (by exact Mine.r94 n3) (by exact Mine.r335 h2) (bey_mono sb (by exact Mine.r94 n3)) fun i2 kb1 kb2 kb3 => ?_)
  have cB := chunkHB (b := b) (nb := nb - 1) sa h0 h1 n2 kb3
  have nB := nextHB (b := b) (nb := nb - 1) sb kb1 n3 kb2
  dsimp only
  by_cases e4 : nb - 1 - i2 > 0
  · rw [if_pos e4]
    have M3 := M2.appB sb kb1 cB
    by_cases e5 : i2 = 1
    · rw [if_pos (by simpa using e5)]
      exact wpS_pure (H.dn _ _ _ _ _ _ _ (F _ _ _ M3 e5))
    rw [if_neg (by simpa using e5)]
    by_cases e5b : i2 = 0
    · rw [if_pos (by simpa using e5b)]
      exact wpS_pure (H.dn _ _ _ _ _ _ _ (D _ _ _ M3 (.inr e5b)))
    rw [if_neg (by simpa using e5b)]
    exact hiTail_spec D H sa M3 h0 h1 (by exact Mine.r304 e5b e5) (Nat.le_trans kb1 n3) (by exact Mine.r479 hk e4) fun _ => nB
  · rw [if_neg e4]
    have e : i2 = nb - 1 := by exact Mine.r434 kb1 e4
    exact hiTail_spec D H sa M2 h0 h1 (by exact Mine.r44 h2 e3) n3 (by exact Mine.r411 hk) fun _ => by rw [← e]; exact nB
theorem hiA_spec {a b out : Array Keyed} {st : SortSt} {mg ac bc na nb k : Nat} {Q : ForInStep ResH → SortSt → Prop} (C : Cmp prog w A E s κ0 rk a₀) (hkk : kindOf st = κ0) (ha : ∀ x ∈ a.toList, x ∈ a₀.toList) (hb : ∀ x ∈ b.toList, x ∈ a₀.toList) (D : DoneH rk a b) (F : FirstH rk a b) (H : ∀ st', SG st st' → QH rk a b k st' Q)
    (sa : Srt rk a.toList) (sb : Srt rk b.toList) (M : MH rk a.toList b.toList out.toList na nb) (h0 : 0 < na) (h1 : na ≤ a.size) (h2 : 1 < nb) (h3 : nb ≤ b.size)
    (hk : k + na + nb ≤ a.size + b.size) : wpS (model prog w) A E s (hiA a b bc na nb out mg ac) Q st := by
  have n1 : nb - 1 < b.size := by exact Mine.r37 h3 h2
  unfold hiA
  refine wpS_bind (wpS_setMin fun st4 g4 => ?_)
  have hk4 : kindOf st4 = κ0 := g4.2.1.trans hkk
  refine wpS_bind (wpS_at n1 ?_)
  refine wpS_bind (gallop_spec C hk4 (hb _ (by simp)) ha (by exact Mine.r64 h1) (by exact Mine.r9 h0) (bey_mono sa (by exact Mine.r64 h1)) fun i1 ka1 ka2 ka3 => ?_)
  have cA := chunkHA (a := a) (na := na) sb (by exact Mine.r52 h2) h3 n1 ka3
  have nA := nextHA (a := a) (na := na) sa ka1 h1 ka2
  dsimp only
  by_cases e1 : na - i1 > 0
  · rw [if_pos e1]
    have M1 := M.appA sa ka1 cA
    by_cases e2 : i1 = 0
    · rw [if_pos (by simpa using e2)]
      exact wpS_pure ((H _ g4).dn _ _ _ _ _ _ _ (D _ _ _ M1 (.inl e2)))
    rw [if_neg (by simpa using e2)]
    exact hiB_spec C hk4 ha hb D F (H _ g4) sa sb M1 (Nat.pos_of_ne_zero e2) (Nat.le_trans ka1 h1) h2 h3 (by exact Mine.r451 hk e1) fun _ => nA
  · rw [if_neg e1]
    have e : i1 = na := by exact Mine.r264 ka1 e1
    exact hiB_spec C hk4 ha hb D F (H _ g4) sa sb M h0 h1 h2 h3 hk fun _ => by rw [← e]; exact nA
noncomputable abbrev ResH1 := Option (Array Keyed) × Nat × Nat × Array Keyed × Nat × Nat
noncomputable abbrev ResH0 := Option (Array Keyed) × Nat × Nat × Array Keyed × Nat
noncomputable def hiOne (a b : Array Keyed) (mg : Nat) (d : ResH1) : StateT SortSt Sem (ForInStep ResH1) := do
  let y ← elem' b (d.2.2.1 - 1)
  let x ← elem' a (d.2.1 - 1)
  let z ← lt' y x
  match z with
  | some w =>
    if w = true then do
      let u ← elem' a (d.2.1 - 1)
      if (d.2.1 - 1 == 0) = true then pure (.done (some (a.extract 0 (d.2.1 - 1) ++ b.extract 0 d.2.2.1 ++ (d.2.2.2.1.push u).reverse), d.2.1 - 1, d.2.2.1, d.2.2.2.1.push u, d.2.2.2.2.1 + 1, 0))
      else if d.2.2.2.2.1 + 1 ≥ mg then pure (.done (none, d.2.1 - 1, d.2.2.1, d.2.2.2.1.push u, d.2.2.2.2.1 + 1, 0))
      else pure (.yield (none, d.2.1 - 1, d.2.2.1, d.2.2.2.1.push u, d.2.2.2.2.1 + 1, 0))
    else do
      let u ← elem' b (d.2.2.1 - 1)
      if (d.2.2.1 - 1 == 1) = true then pure (.done (some (b.extract 0 (d.2.2.1 - 1) ++ a.extract 0 d.2.1 ++ (d.2.2.2.1.push u).reverse), d.2.1, d.2.2.1 - 1, d.2.2.2.1.push u, 0, d.2.2.2.2.2 + 1))
      else if d.2.2.2.2.2 + 1 ≥ mg then pure (.done (none, d.2.1, d.2.2.1 - 1, d.2.2.2.1.push u, 0, d.2.2.2.2.2 + 1))
      else pure (.yield (none, d.2.1, d.2.2.1 - 1, d.2.2.2.1.push u, 0, d.2.2.2.2.2 + 1))
  | _ => pure (.done (some (a.extract 0 d.2.1 ++ b.extract 0 d.2.2.1 ++ d.2.2.2.1.reverse), d.2.1, d.2.2.1, d.2.2.2.1, d.2.2.2.2.1, d.2.2.2.2.2))
noncomputable def hiTwo (a b : Array Keyed) (e : ResH) : StateT SortSt Sem (ForInStep ResH) :=
  if e.2.2.2.2.1 > 1 then hiA a b e.2.2.2.2.2.2 e.2.1 e.2.2.1 e.2.2.2.1 (e.2.2.2.2.1 - 1) e.2.2.2.2.2.1 else hiA a b e.2.2.2.2.2.2 e.2.1 e.2.2.1 e.2.2.2.1 e.2.2.2.2.1 e.2.2.2.2.2.1
noncomputable abbrev LiveH (rk : Keyed → Nat) (a b : Array Keyed) (k na nb : Nat) (out : Array Keyed) : Prop := MH rk a.toList b.toList out.toList na nb ∧ 0 < na ∧ 1 < nb ∧ na ≤ a.size ∧ nb ≤ b.size ∧ k + na + nb ≤ a.size + b.size
noncomputable abbrev IH0 (rk : Keyed → Nat) (a b : Array Keyed) (st : SortSt) (x : Nat) (c : ResH0) (sx : SortSt) : Prop := SG st sx ∧ ∃ (na nb : Nat) (out : Array Keyed) (mg : Nat), c = (none, na, nb, out, mg) ∧ LiveH rk a b (x + 1) na nb out
noncomputable abbrev JH0 (rk : Keyed → Nat) (a b : Array Keyed) (st : SortSt) (c : ResH0) (sx : SortSt) : Prop := SG st sx ∧ ∃ (m : Array Keyed) (na nb : Nat) (out : Array Keyed) (mg : Nat), c = (some m, na, nb, out, mg) ∧ Merged rk a.toList b.toList m.toList
noncomputable abbrev IH1 (rk : Keyed → Nat) (a b : Array Keyed) (st : SortSt) (x y : Nat) (c : ResH1) (sy : SortSt) : Prop := sy = st ∧ ∃ (na nb : Nat) (out : Array Keyed) (ac bc : Nat), c = (none, na, nb, out, ac, bc) ∧ LiveH rk a b (x + 1 + y) na nb out
noncomputable abbrev JH1 (rk : Keyed → Nat) (a b : Array Keyed) (st : SortSt) (x : Nat) (c : ResH1) (sy : SortSt) : Prop := sy = st ∧ ((∃ (m : Array Keyed) (na nb : Nat) (out : Array Keyed) (ac bc : Nat), c = (some m, na, nb, out, ac, bc) ∧ Merged rk a.toList b.toList m.toList) ∨
  (∃ (na nb : Nat) (out : Array Keyed) (ac bc : Nat), c = (none, na, nb, out, ac, bc) ∧ LiveH rk a b (x + 2) na nb out))
noncomputable abbrev IH2 (rk : Keyed → Nat) (a b : Array Keyed) (st : SortSt) (x : Nat) (c : ResH) (sz : SortSt) : Prop := SG st sz ∧ ∃ (na nb : Nat) (out : Array Keyed) (mg ac bc : Nat), c = (none, na, nb, out, mg, ac, bc) ∧ LiveH rk a b (x + 2) na nb out
noncomputable abbrev JH2 (rk : Keyed → Nat) (a b : Array Keyed) (st : SortSt) (x : Nat) (c : ResH) (sz : SortSt) : Prop := SG st sz ∧ ((∃ (m : Array Keyed) (na nb : Nat) (out : Array Keyed) (mg ac bc : Nat), c = (some m, na, nb, out, mg, ac, bc) ∧ Merged rk a.toList b.toList m.toList) ∨
  (∃ (na nb : Nat) (out : Array Keyed) (mg ac bc : Nat), c = (none, na, nb, out, mg, ac, bc) ∧ LiveH rk a b (x + 2) na nb out))
theorem doneH {a b : Array Keyed} (sa : Srt rk a.toList) (sb : Srt rk b.toList) : DoneH rk a b := by
  intro out na nb M e
  rw [Array.toList_append, Array.toList_append, ext_zero, ext_zero, Array.toList_reverse]
  refine M.ab sa sb fun x hx y hy => ?_
  rcases e with rfl | rfl
  · rw [List.take_zero] at hx; cases hx
  · rw [List.take_zero] at hy; cases hy
theorem firstH {a b : Array Keyed} (sa : Srt rk a.toList) (sb : Srt rk b.toList) (first : ∀ y ∈ a.toList, KR rk b 0 ≤ rk y) : FirstH rk a b := by
  intro out na nb M e
  rw [Array.toList_append, Array.toList_append, ext_zero, ext_zero, Array.toList_reverse]
  refine M.ba sa sb fun x hx y hy => ?_
  subst e
  obtain ⟨j, j1, j2, j3⟩ := up_mem (rk := rk) hx
  have : j = 0 := by exact Mine.r140 j1
  rw [j3, this]
  exact first y (List.mem_of_mem_take hy)
theorem hiOne_spec {a b out : Array Keyed} {st : SortSt} {mg na nb ac bc x y : Nat} {R : ForInStep ResH1 → SortSt → Prop} (C : Cmp prog w A E s κ0 rk a₀) (hk1 : kindOf st = κ0) (ha : ∀ x ∈ a.toList, x ∈ a₀.toList) (hb : ∀ x ∈ b.toList, x ∈ a₀.toList) (D : DoneH rk a b) (F : FirstH rk a b)
    (sa : Srt rk a.toList) (sb : Srt rk b.toList) (hd : ∀ c sy, JH1 rk a b st x c sy → R (.done c) sy) (hy : ∀ c sy, IH1 rk a b st x (y + 1) c sy → R (.yield c) sy) (L : LiveH rk a b (x + 1 + y) na nb out) :
    wpS (model prog w) A E s (hiOne a b mg (none, na, nb, out, ac, bc)) R st := by
  obtain ⟨M, b1, b2, b4, b5, b3⟩ := L
  have n1 : nb - 1 < b.size := by exact Mine.r37 b5 b2
  have n2 : na - 1 < a.size := by exact Mine.r36 b4 b1
  unfold hiOne
  refine wpS_bind (wpS_at n1 (wpS_bind (wpS_at n2 ?_)))
  refine wpS_bind (C _ (hb _ (by simp)) _ (ha _ (by simp)) _ _ hk1 ?_)
  refine wpS_dec (fun hl => ?_) (fun hl => ?_)
  · refine wpS_bind (wpS_at n2 ?_)
    have M1 := M.pushA sa b1 n2 (up_all sb b5 fun _ => by rw [KR_list n1]; exact Nat.le_of_lt hl)
    refine wpS_beq (fun e => ?_) (fun e => wpS_ite (fun e2 => ?_) (fun e2 => ?_))
    · exact wpS_pure (hd _ _ ⟨rfl, .inl ⟨_, _, _, _, _, _, rfl, D _ _ _ M1 (.inl e)⟩⟩)
    · exact wpS_pure (hd _ _ ⟨rfl, .inr ⟨_, _, _, _, _, rfl, M1, Nat.pos_of_ne_zero e, b2, Nat.le_of_lt n2, b5, by exact Mine.r506 b3 b1⟩⟩)
    · exact wpS_pure (hy _ _ ⟨rfl, _, _, _, _, _, rfl, M1, Nat.pos_of_ne_zero e, b2, Nat.le_of_lt n2, b5, by exact Mine.r517 b3 b1⟩)
  · refine wpS_bind (wpS_at n1 ?_)
    have M1 := M.pushB sb (Nat.lt_trans Nat.zero_lt_one b2) n1 (up_all sa b4 fun _ => by rw [KR_list n2]; exact Nat.le_of_not_lt hl)
    refine wpS_beq (fun e => ?_) (fun e => wpS_ite (fun e2 => ?_) (fun e2 => ?_))
    · exact wpS_pure (hd _ _ ⟨rfl, .inl ⟨_, _, _, _, _, _, rfl, F _ _ _ M1 e⟩⟩)
    · exact wpS_pure (hd _ _ ⟨rfl, .inr ⟨_, _, _, _, _, rfl, M1, b1, by exact Mine.r44 b2 e, b4, Nat.le_of_lt n1, by exact Mine.r507 b3 b2⟩⟩)
    · exact wpS_pure (hy _ _ ⟨rfl, _, _, _, _, _, rfl, M1, b1, by exact Mine.r44 b2 e, b4, Nat.le_of_lt n1, by exact Mine.r518 b3 b2⟩)
theorem mergeHi_spec {a b : Array Keyed} {st : SortSt} {Q : Array Keyed → SortSt → Prop} (C : Cmp prog w A E s κ0 rk a₀) (hk : kindOf st = κ0) (ha : ∀ x ∈ a.toList, x ∈ a₀.toList) (hb : ∀ x ∈ b.toList, x ∈ a₀.toList)
    (sa : Srt rk a.toList) (sb : Srt rk b.toList) (h1 : 0 < a.size) (h2 : 0 < b.size) (first : ∀ y ∈ a.toList, KR rk b 0 ≤ rk y) (last : ∀ x ∈ b.toList, rk x ≤ KR rk a (a.size - 1))
    (h : ∀ (m : Array Keyed) st', SG st st' → Merged rk a.toList b.toList m.toList → Q m st') : wpS (model prog w) A E s (mergeHi' a b) Q st := by
  have n1 : a.size - 1 < a.size := Nat.sub_lt h1 Nat.zero_lt_one
  have done := doneH sa sb
  have firstOf := firstH sa sb first
  have M0 : MH rk a.toList b.toList (#[a[a.size - 1]'n1] : Array Keyed).toList (a.size - 1) b.size := by
    have z : MH rk a.toList b.toList (#[] : Array Keyed).toList a.size b.size := ⟨by simp, by simp, by simp, .nil, (fun x hx y hy => nomatch hy), (fun x hx y hy => nomatch hy)⟩
    exact z.pushA sa h1 n1 fun y hy => by rw [← KR_list (rk := rk)]; exact last y (List.mem_of_mem_take hy)
  rw [mergeHi'_eq]
  refine wpS_bind (wpS_lift (wpAny_rule ⟨rfl, ?_⟩))
  refine wpS_bind (wpS_at n1 ?_)
  refine wpS_beq (fun e1 => wpS_pure (h _ _ (SG.refl _) (done _ _ _ M0 (.inl e1)))) (fun e1 => wpS_beq (fun e2 => wpS_pure (h _ _ (SG.refl _) (firstOf _ _ _ M0 e2))) (fun e2 => ?_))
  refine wpS_bind (wpS_get ?_)
  refine wpS_loop (IH0 rk a b st) (JH0 rk a b st) ?step ?fin ⟨SG.refl _, _, _, _, _, rfl, M0, Nat.pos_of_ne_zero e1, by exact Mine.r284 h2 e2, Nat.le_of_lt n1, Nat.le_refl _, by exact Mine.r456 e1⟩ ?post
  case post =>
    rintro K hK c sx ⟨g1, m, na, nb, out, mg, rfl, hm⟩
    subst hK
    exact wpS_pure (h m sx g1 hm)
  case fin =>
    rintro c sx ⟨g1, na, nb, out, mg, rfl, M, b1, b2, b4, b5, b3⟩
    exact (Mine.r388 b3).elim
  clear M0 first last h h1 h2 n1 e1 e2
  rintro B hB x c sx R - - hd hy ⟨g1, na, nb, out, mg, rfl, L⟩
  have hk1 : kindOf sx = κ0 := g1.2.1.trans hk
  subst hB
  refine (?_ : wpS _ _ _ _ (forIn [:a.size + b.size] ((none, na, nb, out, 0, 0) : ResH1) (fun _ d => hiOne a b mg d) >>= (_ : ResH1 → StateT SortSt Sem (ForInStep ResH0))) _ _)
  refine wpS_loop (IH1 rk a b sx x) (JH1 rk a b sx x) ?istep ?ifin ⟨rfl, _, _, _, _, _, rfl, L⟩ ?ipost
  case ifin =>
    rintro c sy ⟨e, na, nb, out, ac, bc, rfl, M, b1, b2, b4, b5, b3⟩
    exact ⟨e, .inr ⟨_, _, _, _, _, rfl, M, b1, b2, b4, b5, by exact Mine.r492 b3⟩⟩
  case istep =>
    rintro B hB y c sy R - - hd hy ⟨rfl, na, nb, out, ac, bc, rfl, L⟩
    subst hB
    exact hiOne_spec C hk1 ha hb done firstOf sa sb hd hy L
  clear L
  rintro K hK c sy ⟨rfl, ⟨m, na, nb, out, ac, bc, rfl, hm⟩ | ⟨na, nb, out, ac, bc, rfl, L⟩⟩
  · subst hK
    exact wpS_pure (hd _ _ ⟨g1, m, _, _, _, _, rfl, hm⟩)
  subst hK
  refine wpS_bind (wpS_lift (wpAny_rule ⟨rfl, ?_⟩))
  refine (?_ : wpS _ _ _ _ (forIn [:a.size + b.size] ((none, na, nb, out, mg + 1, ac, bc) : ResH) (fun _ e => hiTwo a b e) >>= (_ : ResH → StateT SortSt Sem (ForInStep ResH0))) _ _)
  refine wpS_loop (fun _ => IH2 rk a b st x) (JH2 rk a b st x) ?gstep ?gfin ⟨g1, _, _, _, _, _, _, rfl, L⟩ ?gpost
  case gfin =>
    rintro c sz ⟨g3, hh⟩
    exact ⟨g3, .inr hh⟩
  case gpost =>
    rintro K hK c sz ⟨g3, ⟨m, na, nb, out, mg, ac, bc, rfl, hm⟩ | ⟨na, nb, out, mg, ac, bc, rfl, L⟩⟩
    · subst hK
      exact wpS_pure (hd _ _ ⟨g3, m, _, _, _, _, rfl, hm⟩)
    · subst hK
      refine wpS_bind (wpS_setMin fun st4 g4 => ?_)
      exact wpS_pure (hy _ _ ⟨g3.trans g4, _, _, _, _, rfl, L⟩)
  clear L hd hy
  rintro B hB z c sz R - - hd hy ⟨g3, na, nb, out, mg, ac, bc, rfl, M, b1, b2, b4, b5, b3⟩
  subst hB
  have H : ∀ mg ac bc, wpS (model prog w) A E s (hiA a b bc na nb out mg ac) R sz := fun mg ac bc =>
    hiA_spec C (g3.2.1.trans hk) ha hb done firstOf (fun st' g4 => ⟨fun m na nb out mg ac bc hm => hd _ _ ⟨g3.trans g4, .inl ⟨m, na, nb, out, mg, ac, bc, rfl, hm⟩⟩, fun na nb out mg ac bc M b1 b2 b4 b5 b3 => ⟨hd _ _ ⟨g3.trans g4, .inr ⟨na, nb, out, mg, ac, bc, rfl, M, b1, b2, b4, b5, b3⟩⟩, hy _ _ ⟨g3.trans g4, na, nb, out, mg, ac, bc, rfl, M, b1, b2, b4, b5, b3⟩⟩⟩) sa sb M b1 b4 b2 b5 b3
  exact wpS_ite (fun _ => H _ _ _) (fun _ => H _ _ _)
end
end Mine
end
section
open PySem PySem.W PyProof.Rows
set_option maxRecDepth 100000
namespace Mine
theorem mergeAt'_eq (i : Nat) : mergeAt' i = (do
  let s ← get
  let (some (sa, na, power), some (sb, nb, _)) := ((pendingOf s)[i]?, (pendingOf s)[i + 1]?) | unsupported "internal:list.sort.pending"
  set (setPending s (((pendingOf s).setIfInBounds i (sa, na + nb, power)).eraseIdxIfInBounds (i + 1)))
  let some k ← gallop' false (← elem' (arrOf s) sb) (arrOf s) sa na 0 | return false
  let (sa, na) := (sa + k, na - k)
  if na == 0 then return true
  let some nb ← gallop' true (← elem' (arrOf s) (sa + na - 1)) (arrOf s) sb nb (nb - 1) | return false
  if nb == 0 then return true
  let x := (arrOf s).extract sa sb
  let y := (arrOf s).extract sb (sb + nb)
  let merged ← if na ≤ nb then mergeLo' x y else mergeHi' x y
  modify fun s => setArr s (merged.toList.zipIdx.foldl (fun a (p, j) => a.setIfInBounds (sa + j) p) (arrOf s))
  return (failedOf (← get)).isNone) := rfl
section
variable {rk : Keyed → Nat}
theorem set_take {α : Type} {l : List α} {i : Nat} {p : α} (h : i < l.length) : (l.set i p).take (i + 1) = l.take i ++ [p] := by
  rw [List.set_eq_take_append_cons_drop, if_pos h, List.take_append]
  simp only [List.length_take]
  rw [Nat.min_eq_left (Nat.le_of_lt h), List.take_of_length_le (by simp; exact Mine.r136), show i + 1 - i = 1 by exact Mine.r57]
  rfl
theorem set_fold : ∀ (m : List Keyed) (t sa : Nat) (xs : Array Keyed), sa + t + m.length ≤ xs.size →
    ((m.zipIdx t).foldl (fun a (q : Keyed × Nat) => a.setIfInBounds (sa + q.2) q.1) xs).toList = xs.toList.take (sa + t) ++ m ++ xs.toList.drop (sa + t + m.length)
  | [], t, sa, xs, _ => by simp
  | p :: m, t, sa, xs, h => by
    rw [List.zipIdx_cons, List.foldl_cons]
    simp only [List.length_cons] at h
    have ih := set_fold m (t + 1) sa (xs.setIfInBounds (sa + t) p) (by rw [Array.size_setIfInBounds]; exact Mine.r392 h)
    rw [ih, Array.toList_setIfInBounds, show sa + (t + 1) = sa + t + 1 by exact Mine.r243, set_take (by rw [Array.length_toList]; exact Mine.r309 h), List.drop_set_of_lt (by exact Mine.r207)]
    rw [show sa + t + 1 + m.length = sa + t + (p :: m).length by simp only [List.length_cons]; exact Mine.r336]
    simp
theorem asc_srt {xs : Array Keyed} {lo hi : Nat} (h : Asc rk xs lo hi) : Srt rk ((xs.toList.take hi).drop lo) := by
  unfold Srt
  rw [List.pairwise_iff_getElem]
  intro i j hi' hj' hij
  simp only [List.length_drop, List.length_take, Array.length_toList] at hi' hj'
  have := h (lo + i) (lo + j) (by exact Mine.r3) (by exact Mine.r168 hij) (by exact Mine.r85 hj')
  rw [KR_list (by exact Mine.r16 hi'), KR_list (by exact Mine.r16 hj')] at this
  simpa using this
theorem bey_asc {left : Bool} {key : Keyed} {arr : Array Keyed} {base n : Nat} (sa : Asc rk arr base (base + n)) : ∀ i j, i ≤ j → j < n → bey rk left key arr base j = true → bey rk left key arr base i = true := by
  intro i j h1 h2 h3
  have := sa (base + i) (base + j) (by exact Mine.r3) (by exact Mine.r68 h1) (by exact Mine.r169 h2)
  unfold bey at h3 ⊢
  cases left with
  | true => simp only [if_true, decide_eq_true_eq] at h3 ⊢; exact Mine.r6 h3 this
  | false => simp only [Bool.false_eq_true, if_false, Bool.not_eq_true', decide_eq_false_iff_not] at h3 ⊢; exact Mine.r77 this h3
theorem asc_whole {xs : Array Keyed} {n1 : Nat} (h1 : Asc rk xs 0 n1) (h2 : Asc rk xs n1 xs.size) (hm : 0 < n1 → n1 < xs.size → KR rk xs (n1 - 1) ≤ KR rk xs n1) : Srt rk xs.toList := by
  have := asc_srt (rk := rk) (xs := xs) (lo := 0) (hi := xs.size) fun i j a b c => by
    by_cases hj : j < n1
    · exact h1 i j a b hj
    by_cases hi : n1 ≤ i
    · exact h2 i j hi b c
    have x1 := h1 i (n1 - 1) a (by exact Mine.r174 hi) (by exact Mine.r175 hi)
    have x2 := hm (by exact Mine.r137 hi) (by exact Mine.r184 c hj)
    have x3 := h2 n1 j (Nat.le_refl _) (by exact Mine.r1 hj) c
    exact Mine.r258 x1 x2 x3
  rw [List.drop_zero, List.take_of_length_le (by simp)] at this
  exact this
variable {prog : Program} {w : World} {A : Around} {E : Value → Shared → Prop} {s : Shared} {a₀ : Array Keyed} {κ0 : SortKind}
theorem wpS_set {σ : Type} {M : Model} {A : Around} {E : Value → Shared → Prop} {s : Shared} {x : σ} {Q : PUnit → σ → Prop} {st : σ} (h : Q ⟨⟩ x) : wpS M A E s (set x : StateT σ Sem PUnit) Q st := by
  unfold wpS; rw [StateT.run_set]; exact wpAny_pure ⟨rfl, h⟩
theorem srt_parts {P X Y Z m : List Keyed} (hP : Srt rk (P ++ X)) (hZ : Srt rk (Y ++ Z)) (hPY : UpTo rk P (Y ++ Z)) (hXZ : UpTo rk X Z) (hm : m.Perm (X ++ Y)) (sm : Srt rk m) : Srt rk (P ++ m ++ Z) := by
  have p1 := List.pairwise_append.mp hP
  have z1 := List.pairwise_append.mp hZ
  refine Srt.append (Srt.append p1.1 sm fun x hx y hy => ?_) z1.2.1 fun x hx y hy => ?_
  · rcases List.mem_append.mp (hm.mem_iff.mp hy) with hy | hy
    · exact p1.2.2 x hx y hy
    · exact hPY x hx y (List.mem_append_left _ hy)
  · rcases List.mem_append.mp hx with hx | hx
    · exact hPY x hx y (List.mem_append_right _ hy)
    · rcases List.mem_append.mp (hm.mem_iff.mp hx) with hx | hx
      · exact hXZ x hx y hy
      · exact z1.2.2 x hx y hy
theorem mergeAt_spec {st : SortSt} {n1 n2 p q : Nat} {Q : Bool → SortSt → Prop} (C : Cmp prog w A E s κ0 rk a₀) (hB : SB κ0 a₀ #[(0, n1, p), (n1, n2, q)] st) (hn : n1 + n2 = a₀.size) (h1 : 0 < n1) (h2 : 0 < n2) (s1 : Asc rk (arrOf st) 0 n1) (s2 : Asc rk (arrOf st) n1 (n1 + n2))
    (h : ∀ st', SB κ0 a₀ #[(0, n1 + n2, p)] st' → Srt rk (arrOf st').toList → Q true st') : wpS (model prog w) A E s (mergeAt' 0) Q st := by
  rw [mergeAt'_eq]
  refine wpS_bind (wpS_get ?_)
  rw [hB.pend]
  show wpS _ _ _ _ (do set _; _) _ _
  have hsz := hB.size
  have hmem : ∀ x ∈ (arrOf st).toList, x ∈ a₀.toList := fun x hx => (Array.perm_iff_toList_perm.mp hB.perm).mem_iff.mp hx
  refine wpS_bind (wpS_set ?_)
  have hkk : kindOf st = κ0 := hB.kind
  refine wpS_bind (wpS_at (show n1 < (arrOf st).size by exact Mine.r329 hsz hn h2) ?_)
  refine wpS_bind (gallop_spec C hkk (hmem _ (by simp)) hmem (by exact Mine.r300 hsz hn) h1 (bey_asc (by rw [Nat.zero_add]; exact s1)) fun k k1 k2 k3 => ?_)
  dsimp only
  have hp1 : (#[(0, n1, p), (n1, n2, q)].setIfInBounds 0 (0, n1 + n2, p)).eraseIdxIfInBounds (0 + 1) = #[(0, n1 + n2, p)] := by simp [Array.eraseIdxIfInBounds]
  have hB1 : SB κ0 a₀ #[(0, n1 + n2, p)] (setPending st ((#[(0, n1, p), (n1, n2, q)].setIfInBounds 0 (0, n1 + n2, p)).eraseIdxIfInBounds (0 + 1))) := ⟨hB.perm, hB.kind, hB.failed, hp1⟩
  have s2' : Asc rk (arrOf st) n1 (arrOf st).size := by rw [hsz, ← hn]; exact s2
  by_cases e1 : n1 - k = 0
  · rw [if_pos (by simpa using e1)]
    refine wpS_pure (h _ hB1 (asc_whole (n1 := n1) s1 s2' fun _ _ => ?_))
    have := k2 (n1 - 1) (by exact Mine.r343 e1 (by assumption))
    unfold bey at this
    simp only [Bool.false_eq_true, if_false, Bool.not_eq_true', decide_eq_false_iff_not, Nat.zero_add] at this
    rw [← KR_list (rk := rk)] at this
    exact Nat.le_of_not_lt this
  rw [if_neg (by simpa using e1)]
  have ek : 0 + k + (n1 - k) - 1 = n1 - 1 := by exact Mine.r442 e1
  refine wpS_bind (wpS_at (show 0 + k + (n1 - k) - 1 < (arrOf st).size by exact Mine.r116 hsz hn ek h2) ?_)
  have ekey : (arrOf st)[0 + k + (n1 - k) - 1]'(by exact Mine.r116 hsz hn ek h2) = (arrOf st)[n1 - 1]'(by exact Mine.r380 hsz hn h2) := by congr 1
  rw [ekey]
  refine wpS_bind (gallop_spec C hkk (hmem _ (by simp)) hmem (by exact Mine.r265 hsz hn) (by exact Mine.r9 h2) (bey_asc s2) fun c c1 c2 c3 => ?_)
  dsimp only
  by_cases e2 : c = 0
  · rw [if_pos (by simpa using e2)]
    refine wpS_pure (h _ hB1 (asc_whole (n1 := n1) s1 s2' fun _ _ => ?_))
    have := c3 0 (by exact Mine.r141 e2) h2
    unfold bey at this
    simp only [if_true, decide_eq_false_iff_not, Nat.add_zero] at this
    rw [← KR_list (rk := rk)] at this
    exact Nat.le_of_not_lt this
  rw [if_neg (by simpa using e2)]
  -- the parts
  have kA : ∀ i, k ≤ i → i < n1 → KR rk (arrOf st) n1 < KR rk (arrOf st) i := fun i a b => by
    have := k3 i a b
    unfold bey at this
    simp only [Bool.false_eq_true, if_false, Bool.not_eq_false', decide_eq_true_eq, Nat.zero_add] at this
    rw [← KR_list (rk := rk)] at this
    exact this
  have kP : ∀ i, i < k → KR rk (arrOf st) i ≤ KR rk (arrOf st) n1 := fun i a => by
    have := k2 i a
    unfold bey at this
    simp only [Bool.false_eq_true, if_false, Bool.not_eq_true', decide_eq_false_iff_not, Nat.zero_add] at this
    rw [← KR_list (rk := rk)] at this
    exact Nat.le_of_not_lt this
  have cB : ∀ i, i < c → KR rk (arrOf st) (n1 + i) < KR rk (arrOf st) (n1 - 1) := fun i a => by
    have := c2 i a
    unfold bey at this
    simp only [if_true, decide_eq_true_eq] at this
    rw [← KR_list (rk := rk)] at this
    exact this
  have cZ : ∀ i, c ≤ i → i < n2 → KR rk (arrOf st) (n1 - 1) ≤ KR rk (arrOf st) (n1 + i) := fun i a b => by
    have := c3 i a b
    unfold bey at this
    simp only [if_true, decide_eq_false_iff_not] at this
    rw [← KR_list (rk := rk)] at this
    exact Nat.le_of_not_lt this
  rw [Nat.zero_add]
  have hx : ((arrOf st).extract k n1).toList = ((arrOf st).toList.take n1).drop k := ext_mid
  have hy : ((arrOf st).extract n1 (n1 + c)).toList = ((arrOf st).toList.take (n1 + c)).drop n1 := ext_mid
  have szx : ((arrOf st).extract k n1).size = n1 - k := by rw [Array.size_extract]; exact Mine.r356 hsz hn
  have szy : ((arrOf st).extract n1 (n1 + c)).size = c := by rw [Array.size_extract]; exact Mine.r413 hsz c1 hn
  have sx : Srt rk ((arrOf st).extract k n1).toList := by rw [hx]; exact asc_srt fun i j a b d => s1 i j (by exact Mine.r20) b d
  have sy : Srt rk ((arrOf st).extract n1 (n1 + c)).toList := by rw [hy]; exact asc_srt fun i j a b d => s2 i j a b (by exact Mine.r266 d c1)
  have mx : ∀ x ∈ ((arrOf st).extract k n1).toList, x ∈ a₀.toList := fun x hx' => by rw [hx] at hx'; exact hmem x (List.mem_of_mem_take (List.mem_of_mem_drop hx'))
  have my : ∀ x ∈ ((arrOf st).extract n1 (n1 + c)).toList, x ∈ a₀.toList := fun x hy' => by rw [hy] at hy'; exact hmem x (List.mem_of_mem_take (List.mem_of_mem_drop hy'))
  have ky0 : KR rk ((arrOf st).extract n1 (n1 + c)) 0 = KR rk (arrOf st) n1 := KR_congr (by rw [Array.getElem?_extract, if_pos (by exact Mine.r488 hsz hn h2 e2), Nat.add_zero])
  have kxl : KR rk ((arrOf st).extract k n1) (((arrOf st).extract k n1).size - 1) = KR rk (arrOf st) (n1 - 1) := by
    rw [szx]
    exact KR_congr (by rw [Array.getElem?_extract, if_pos (by exact Mine.r484 hsz hn e1)]; congr 1; exact Mine.r393 e1)
  have first : ∀ y ∈ ((arrOf st).extract k n1).toList, KR rk ((arrOf st).extract n1 (n1 + c)) 0 ≤ rk y := fun y hy' => by
    rw [hx] at hy'
    obtain ⟨j, j1, j2, j3, e⟩ := mid_mem (rk := rk) hy'
    rw [ky0, e]
    exact Nat.le_of_lt (kA j j1 j2)
  have last : ∀ x ∈ ((arrOf st).extract n1 (n1 + c)).toList, rk x ≤ KR rk ((arrOf st).extract k n1) (((arrOf st).extract k n1).size - 1) := fun x hx' => by
    rw [hy] at hx'
    obtain ⟨j, j1, j2, j3, e⟩ := mid_mem (rk := rk) hx'
    rw [kxl, e, show j = n1 + (j - n1) by exact Mine.r162 j1]
    exact Nat.le_of_lt (cB _ (by exact Mine.r34 j2 j1))
  have fin : ∀ (m : Array Keyed) (st1 : SortSt), SG (setPending st ((#[(0, n1, p), (n1, n2, q)].setIfInBounds 0 (0, n1 + n2, p)).eraseIdxIfInBounds (0 + 1))) st1 → Merged rk ((arrOf st).extract k n1).toList ((arrOf st).extract n1 (n1 + c)).toList m.toList →
      Q true (PyProof.Rows.setArr st1 (m.toList.zipIdx.foldl (fun a (x : Keyed × Nat) => a.setIfInBounds (k + x.2) x.1) (arrOf st1))) := by
    intro m st1 g1 hm
    have ea : arrOf st1 = arrOf st := g1.1
    have hml : m.toList.length = n1 - k + c := by
      have := hm.1.length_eq
      rw [List.length_append] at this
      simp only [Array.length_toList] at this ⊢
      rw [this, szx, szy]
    have hset := set_fold m.toList 0 k (arrOf st) (by rw [hml]; exact Mine.r523 hsz c1 hn ek h1)
    rw [Nat.add_zero, hml, show k + (n1 - k + c) = n1 + c by exact Mine.r357 e1] at hset
    have hwhole : (arrOf st).toList = (arrOf st).toList.take k ++ (((arrOf st).toList.take n1).drop k ++ ((arrOf st).toList.take (n1 + c)).drop n1) ++ (arrOf st).toList.drop (n1 + c) := by
      rw [List.append_assoc, List.append_assoc, ← drop_less (by exact Mine.r3), ← drop_less (by exact Mine.r176 e1), List.take_append_drop]
    have hperm : (m.toList.zipIdx.foldl (fun a (x : Keyed × Nat) => a.setIfInBounds (k + x.2) x.1) (arrOf st)).Perm (arrOf st) := by
      rw [Array.perm_iff_toList_perm, hset]
      conv => rhs; rw [hwhole]
      refine List.Perm.append_right _ (List.Perm.append_left _ ?_)
      rw [← hx, ← hy]
      exact hm.1
    have hsrt : Srt rk (m.toList.zipIdx.foldl (fun a (x : Keyed × Nat) => a.setIfInBounds (k + x.2) x.1) (arrOf st)).toList := by
      rw [hset]
      have hzz : ∀ y ∈ ((arrOf st).toList.take (n1 + c)).drop n1 ++ (arrOf st).toList.drop (n1 + c), ∃ j, n1 ≤ j ∧ j < (arrOf st).size ∧ rk y = KR rk (arrOf st) j := fun y hy' => by
        rw [← drop_less (by exact Mine.r3)] at hy'
        exact drop_mem hy'
      refine srt_parts (X := ((arrOf st).toList.take n1).drop k) (Y := ((arrOf st).toList.take (n1 + c)).drop n1) ?_ ?_ ?_ ?_ (by rw [← hx, ← hy]; exact hm.1) hm.2
      · have e : (arrOf st).toList.take k ++ ((arrOf st).toList.take n1).drop k = ((arrOf st).toList.take n1).drop 0 := by
          rw [List.drop_zero]
          conv => rhs; rw [← List.take_append_drop k ((arrOf st).toList.take n1)]
          rw [List.take_take, Nat.min_eq_left k1]
        rw [e]
        exact asc_srt s1
      · rw [← drop_less (by exact Mine.r3)]
        have := asc_srt s2'
        rw [List.take_of_length_le (by simp)] at this
        exact this
      · intro x hx' y hy'
        obtain ⟨i, i1, i2, e⟩ := up_mem (rk := rk) hx'
        obtain ⟨j, j1, j2, e'⟩ := hzz y hy'
        rw [e, e']
        exact Nat.le_trans (kP i i1) (s2' n1 j (Nat.le_refl _) j1 j2)
      · intro x hx' y hy'
        obtain ⟨i, i1, i2, i3, e⟩ := mid_mem (rk := rk) hx'
        obtain ⟨j, j1, j2, e'⟩ := drop_mem (rk := rk) hy'
        rw [e, e']
        refine Nat.le_trans (s1 i (n1 - 1) (by exact Mine.r20) (by exact Mine.r27 i2) (by exact Mine.r153 i2)) ?_
        have := cZ (j - n1) (by exact Mine.r170 j1) (by exact Mine.r429 j2 hsz hn j1)
        rw [show n1 + (j - n1) = j by exact Mine.r208 j1] at this
        exact this
    rw [ea]
    refine h _ ⟨?_, ?_, ?_, ?_⟩ hsrt
    · exact hperm.trans hB.perm
    · exact g1.2.1.trans hB.kind
    · exact g1.2.2.2.trans hB.failed
    · exact g1.2.2.1.trans hp1
  by_cases e3 : n1 - k ≤ c
  · rw [if_pos e3]
    refine wpS_bind (mergeLo_spec C hkk mx my sx sy (by exact Mine.r337 szx e1) (by exact Mine.r90 szy e2) first last fun m st1 g1 hm => ?_)
    refine wpS_bind (wpS_modify (wpS_bind (wpS_get ?_)))
    have hf : failedOf st1 = none := g1.2.2.2.trans hB.failed
    show wpS _ _ _ _ (pure (failedOf st1).isNone) _ _
    rw [hf]
    exact wpS_pure (fin m st1 g1 hm)
  · rw [if_neg e3]
    refine wpS_bind (mergeHi_spec C hkk mx my sx sy (by exact Mine.r315 szx e3) (by exact Mine.r90 szy e2) first last fun m st1 g1 hm => ?_)
    refine wpS_bind (wpS_modify (wpS_bind (wpS_get ?_)))
    have hf : failedOf st1 = none := g1.2.2.2.trans hB.failed
    show wpS _ _ _ _ (pure (failedOf st1).isNone) _ _
    rw [hf]
    exact wpS_pure (fin m st1 g1 hm)
end
end Mine
end
section
open PySem PySem.W PyProof.Rows
set_option maxRecDepth 100000
namespace Mine
theorem minRun_spec {n : Nat} (h2 : 2 ≤ n) (h : n < 128) : n ≤ 2 * minRun' n n 0 ∧ minRun' n n 0 ≤ n ∧ 1 ≤ minRun' n n 0 := by
  obtain ⟨f, hf⟩ : ∃ f, n = f + 2 := ⟨n - 2, by exact Mine.r273 h2⟩
  have e1 : minRun' (f + 2) n 0 = if n < 64 then n + 0 else minRun' (f + 1) (n / 2) (max 0 (n % 2)) := minRun'_succ _ _ _
  have e2 : minRun' (f + 1) (n / 2) (max 0 (n % 2)) = if n / 2 < 64 then n / 2 + max 0 (n % 2) else minRun' f (n / 2 / 2) (max (max 0 (n % 2)) (n / 2 % 2)) := minRun'_succ _ _ _
  have e3 : minRun' n n 0 = minRun' (f + 2) n 0 := by rw [hf]
  rw [e3, e1]
  by_cases h6 : n < 64
  · rw [if_pos h6]; exact Mine.r495 hf
  · rw [if_neg h6, e2, if_pos (by exact Mine.r230 h)]; exact Mine.r526 h6
section
variable {rk : Keyed → Nat} {prog : Program} {w : World} {A : Around} {E : Value → Shared → Prop} {s : Shared} {a₀ : Array Keyed} {κ0 : SortKind}
theorem SB.setPending {pd : Array (Nat × Nat × Nat)} {st : SortSt} (h : SB κ0 a₀ pd st) (pd' : Array (Nat × Nat × Nat)) : SB κ0 a₀ pd' (setPending st pd') := ⟨h.perm, h.kind, h.failed, rfl⟩
theorem Asc.kept {lo hi : Nat} {xs ys : Array Keyed} (h : Asc rk xs lo hi) (k : Kept rk hi xs ys) : Asc rk ys lo hi := fun i j a b c => by rw [k i (by exact Mine.r6 c b), k j c]; exact h i j a b c
inductive At (rk : Keyed → Nat) (κ0 : SortKind) (a₀ : Array Keyed) (mr : Nat) : Nat → Nat → SortSt → Prop where
  | none {st} : SB κ0 a₀ #[] st → At rk κ0 a₀ mr 0 0 st
  | one {x n1 st} : SB κ0 a₀ #[(0, n1, 0)] st → Asc rk (arrOf st) 0 n1 → 1 ≤ n1 → n1 ≤ a₀.size → mr ≤ n1 → (x = 1 ∨ n1 = a₀.size) → At rk κ0 a₀ mr x n1 st
  | two {x n1 n2 pw st} : SB κ0 a₀ #[(0, n1, pw), (n1, n2, 0)] st → Asc rk (arrOf st) 0 n1 → Asc rk (arrOf st) n1 (n1 + n2) → 1 ≤ n1 → 1 ≤ n2 → n1 + n2 = a₀.size → At rk κ0 a₀ mr x a₀.size st
noncomputable def AtEnd (rk : Keyed → Nat) (κ0 : SortKind) (a₀ : Array Keyed) (st : SortSt) : Prop :=
  (∃ p, SB κ0 a₀ #[p] st ∧ Srt rk (arrOf st).toList) ∨ ∃ n1 n2 pw, SB κ0 a₀ #[(0, n1, pw), (n1, n2, 0)] st ∧ Asc rk (arrOf st) 0 n1 ∧ Asc rk (arrOf st) n1 (n1 + n2) ∧ 1 ≤ n1 ∧ 1 ≤ n2 ∧ n1 + n2 = a₀.size
theorem asc_all {xs : Array Keyed} (h : Asc rk xs 0 xs.size) : Srt rk xs.toList := by
  have := asc_srt h
  rw [List.drop_zero, List.take_of_length_le (by simp)] at this
  exact this
theorem runs_spec {st : SortSt} {Q : Unit → SortSt → Prop} (C : Cmp prog w A E s κ0 rk a₀) (hB : SB κ0 a₀ #[] st) (h2 : 2 ≤ a₀.size) (h128 : a₀.size < 128)
    (h : ∀ st', (arrOf st').Perm a₀ → failedOf st' = none → Srt rk (arrOf st').toList → Q () st') : wpS (model prog w) A E s sortRuns' Q st := by
  obtain ⟨m1, m2, m3⟩ := minRun_spec h2 h128
  rw [sortRuns'_eq]
  refine wpS_bind (wpS_get ?_)
  dsimp only
  rw [hB.size]
  generalize minRun' a₀.size a₀.size 0 = mr at *
  refine wpS_loop (fun x c st' => ∃ lo, c = (none, lo) ∧ At rk κ0 a₀ mr x lo st') (fun c st' => ∃ lo, c = (none, lo) ∧ AtEnd rk κ0 a₀ st') ?step ?fin ⟨0, rfl, .none hB⟩ ?post
  case fin =>
    rintro c st' ⟨lo, rfl, hA⟩
    refine ⟨lo, rfl, ?_⟩
    generalize hx : max 0 a₀.size = x at *
    cases hA with
    | none => exact (Mine.r104 m2 m3 hx).elim
    | one b1 b2 b3 b4 b5 b6 =>
      have : lo = a₀.size := by exact Mine.r472 b4 b6 b3 hx
      subst this
      exact .inl ⟨_, b1, asc_all (by rw [b1.size]; exact b2)⟩
    | two b1 b2 b3 b4 b5 b6 => exact .inr ⟨_, _, _, b1, b2, b3, b4, b5, b6⟩
  case post =>
    rintro K hK c st' ⟨lo, rfl, hE⟩
    subst hK
    dsimp only
    refine wpS_loop (fun x c sy => c = (none, ()) ∧ ((x = 0 ∧ AtEnd rk κ0 a₀ sy) ∨ ∃ p, SB κ0 a₀ #[p] sy ∧ Srt rk (arrOf sy).toList))
      (fun c sy => c = (none, ()) ∧ ∃ p, SB κ0 a₀ #[p] sy ∧ Srt rk (arrOf sy).toList) ?pstep ?pfin ⟨rfl, .inl ⟨rfl, hE⟩⟩ ?ppost
    case pfin =>
      rintro c sy ⟨rfl, ⟨hx, _⟩ | hh⟩
      · exact (Mine.r104 m2 m3 hx).elim
      · exact ⟨rfl, hh⟩
    case ppost =>
      rintro K hK c sy ⟨rfl, p, b1, b2⟩
      subst hK
      exact wpS_pure (h _ b1.perm b1.failed b2)
    case pstep =>
      clear h hE
      rintro B hFB x c sy R - - hd hy ⟨rfl, hh⟩
      have one : AtEnd rk κ0 a₀ sy := by
        rcases hh with ⟨_, hh⟩ | hh
        · exact hh
        · exact .inl hh
      clear hh
      rcases one with ⟨p, b1, b2⟩ | ⟨n1, n2, pw, b1, b2, b3, b4, b5, b6⟩
      · subst hFB
        refine wpS_bind (wpS_get (wpS_then (by rw [b1.pend]; exact Nat.le_refl 1) (wpS_pure (hd _ _ ⟨rfl, p, b1, b2⟩))))
      · subst hFB
        refine wpS_bind (wpS_get (wpS_else (by rw [b1.pend]; exact Nat.not_succ_le_self 1) ?_))
        rw [b1.pend]
        refine wpS_bind (show wpS _ _ _ _ (mergeAt' 0) _ _ from mergeAt_spec C b1 b6 b4 b5 b2 b3 fun st9 b7 b8 => ?_)
        exact wpS_else (fun e => nomatch e) (wpS_pure (hy _ _ ⟨rfl, .inr ⟨_, b7, b8⟩⟩))
  case step =>
    clear h hB
    rintro B hFB x c st' R - hx hd hy ⟨lo, rfl, hA⟩
    cases hA with
    | two b1 b2 b3 b4 b5 b6 =>
      subst hFB
      exact wpS_then (Nat.le_refl _) (wpS_pure (hd _ _ ⟨_, rfl, .inr ⟨_, _, _, b1, b2, b3, b4, b5, b6⟩⟩))
    | none b1 =>
      have push : ∀ (n : Nat) (sx : SortSt), SB κ0 a₀ #[] sx → Asc rk (arrOf sx) 0 n → 1 ≤ n → n ≤ a₀.size → mr ≤ n → ∃ lo, ((Option.none : Option Unit), 0 + n) = (Option.none, lo) ∧ At rk κ0 a₀ mr (0 + 1) lo (PyProof.Rows.setPending sx ((pendingOf sx).push (0, n, 0))) := fun n sx c1 c2 c3 c4 c5 =>
        ⟨_, rfl, by rw [Nat.zero_add, Nat.zero_add]; exact .one (by rw [c1.pend]; exact c1.setPending _) c2 c3 c4 c5 (.inl rfl)⟩
      subst hFB
      refine wpS_else (fun e => by exact Mine.r193 e hx) ?_
      refine wpS_bind (count_spec C (by exact Mine.r148) (by exact Mine.r209 hx) b1 fun m sx c1 c2 c3 c4 _ => ?_)
      rw [Nat.zero_add] at c4
      refine wpS_ite (fun hlt => ?_) (fun hlt => ?_)
      · refine wpS_bind (wpS_lift (wpAny_rule ⟨rfl, ?_⟩))
        have hmn : min (a₀.size - 0) mr = mr := by exact Mine.r200 m2
        refine wpS_bind (bin_spec C (by exact Mine.r201) (by exact Mine.r402 hlt hmn) c1 (by rw [Nat.zero_add]; exact c4) fun sz d1 d2 _ => ?_)
        rw [Nat.zero_add, hmn] at d2
        refine wpS_else (fun e => nomatch e) ?_
        refine wpS_bind (wpS_get ?_)
        have hb : (pendingOf sz).back? = none := by rw [d1.pend]; rfl
        rw [hb]
        dsimp only
        rw [hmn]
        exact wpS_bind (wpS_modify (wpS_pure (hy _ _ (push mr sz d1 d2 m3 m2 (Nat.le_refl _)))))
      · refine wpS_bind (wpS_get ?_)
        have hb : (pendingOf sx).back? = none := by rw [c1.pend]; rfl
        rw [hb]
        dsimp only
        exact wpS_bind (wpS_modify (wpS_pure (hy _ _ (push m sx c1 c4 c2 (by exact Mine.r154 c3) (by exact Mine.r1 hlt)))))
    | one b1 b2 b3 b4 b5 b6 =>
      by_cases hge : lo ≥ a₀.size
      · have : lo = a₀.size := by exact Mine.r62 b4 hge
        subst this
        subst hFB
        exact wpS_then hge (wpS_pure (hd _ _ ⟨_, rfl, .inl ⟨_, b1, asc_all (by rw [b1.size]; exact b2)⟩⟩))
      have hx1 : x = 1 := by exact Mine.r351 b6 hge
      have fin : ∀ (n : Nat) (sx : SortSt), n = a₀.size - lo → SB κ0 a₀ #[(0, lo, 0)] sx → Asc rk (arrOf sx) 0 lo → Asc rk (arrOf sx) lo (lo + n) → ∃ l2, ((Option.none : Option Unit), lo + n) = (Option.none, l2) ∧
          At rk κ0 a₀ mr (x + 1) l2 (PyProof.Rows.setPending (PyProof.Rows.setPending sx ((pendingOf sx).modify ((pendingOf sx).size - 1) fun p => (p.1, p.2.1, power' a₀.size (2 * 0 + lo) (2 * 0 + lo + lo + n) a₀.size))) ((pendingOf (PyProof.Rows.setPending sx ((pendingOf sx).modify ((pendingOf sx).size - 1) fun p => (p.1, p.2.1, power' a₀.size (2 * 0 + lo) (2 * 0 + lo + lo + n) a₀.size)))).push (lo, n, 0))) := by
        intro n sx e c1 c2 c3
        refine ⟨_, rfl, ?_⟩
        subst e
        rw [show lo + (a₀.size - lo) = a₀.size by exact Mine.r29 hge]
        refine .two (n1 := lo) (n2 := a₀.size - lo) (pw := power' a₀.size (2 * 0 + lo) (2 * 0 + lo + lo + (a₀.size - lo)) a₀.size) ⟨c1.perm, c1.kind, c1.failed, ?_⟩ c2 (by rwa [show lo + (a₀.size - lo) = a₀.size by exact Mine.r29 hge] at c3 ⊢) b3 (by exact Mine.r71 hge) (by exact Mine.r29 hge)
        show ((pendingOf sx).modify ((pendingOf sx).size - 1) _).push _ = _
        rw [c1.pend]
        rfl
      subst hFB
      refine wpS_else hge ?_
      refine wpS_bind (count_spec C (by exact Mine.r189 hge) (by exact Mine.r71 hge) b1 fun m sx c1 c2 c3 c4 c5 => ?_)
      have c6 := b2.kept c5
      refine wpS_ite (fun hlt => ?_) (fun hlt => ?_)
      · refine wpS_bind (wpS_lift (wpAny_rule ⟨rfl, ?_⟩))
        have hmn : min (a₀.size - lo) mr = a₀.size - lo := Nat.min_eq_left (by exact Mine.r294 b5 m1)
        refine wpS_bind (bin_spec C (by exact Mine.r366 c3 c2) (by exact Mine.r418 c3 hmn) c1 c4 fun sz d1 d2 d3 => ?_)
        have d4 := c6.kept d3
        refine wpS_else (fun e => nomatch e) ?_
        refine wpS_bind (wpS_get ?_)
        have hb : (pendingOf sz).back? = some (0, lo, 0) := by rw [d1.pend]; rfl
        rw [hb]
        dsimp only
        refine wpS_loop (fun _ c sy => c = (Option.none, ()) ∧ sy = sz) (fun c sy => c = (Option.none, ()) ∧ sy = sz) ?qstep (fun _ _ hh => hh) ⟨rfl, rfl⟩ ?qpost
        case qstep =>
          rintro B hFB y c sy R - - hd hy ⟨rfl, rfl⟩
          subst hFB
          refine wpS_bind (wpS_get ?_)
          rw [d1.pend, if_neg (show ¬ ((#[(0, lo, 0)] : Array (Nat × Nat × Nat)).size > 1) from Nat.lt_irrefl 1)]
          exact wpS_pure (hd _ _ ⟨rfl, rfl⟩)
        case qpost =>
          rintro K hK c sy ⟨rfl, rfl⟩
          subst hK
          exact wpS_bind (wpS_modify (wpS_bind (wpS_modify (wpS_pure (hy _ _ (fin _ _ hmn d1 d4 d2))))))
      · refine wpS_bind (wpS_get ?_)
        have hb : (pendingOf sx).back? = some (0, lo, 0) := by rw [c1.pend]; rfl
        rw [hb]
        dsimp only
        refine wpS_loop (fun _ c sy => c = (Option.none, ()) ∧ sy = sx) (fun c sy => c = (Option.none, ()) ∧ sy = sx) ?qstep (fun _ _ hh => hh) ⟨rfl, rfl⟩ ?qpost
        case qstep =>
          rintro B hFB y c sy R - - hd hy ⟨rfl, rfl⟩
          subst hFB
          refine wpS_bind (wpS_get ?_)
          rw [c1.pend, if_neg (show ¬ ((#[(0, lo, 0)] : Array (Nat × Nat × Nat)).size > 1) from Nat.lt_irrefl 1)]
          exact wpS_pure (hd _ _ ⟨rfl, rfl⟩)
        case qpost =>
          rintro K hK c sy ⟨rfl, rfl⟩
          subst hK
          exact wpS_bind (wpS_modify (wpS_bind (wpS_modify (wpS_pure (hy _ _ (fin _ _ (by exact Mine.r452 b5 c3 m1 hlt) c1 c6 c4))))))
end
end Mine
end
section
open PySem PySem.W PyProof.Rows PySem.Spec PySem.Calls
set_option maxRecDepth 100000
namespace Mine
section
variable {rk : Keyed → Nat} {prog : Program} {w : World} {A : Around} {E : Value → Shared → Prop} {s : Shared} {κ0 : SortKind}
noncomputable def Sorted1 (rk : Keyed → Nat) (vs : List Value) (out : Array Value) : Prop := ∃ ps : List Keyed, out.toList = ps.map (·.2) ∧ ps.Perm (vs.zip vs) ∧ Srt rk ps
theorem list_sort_R {a : Addr} {vs : List Value} {n : Nat} {P : PySem.Fin → Shared → Prop} (ho : s.heap.get? a = some (seqObj "list" vs.toArray n)) (h128 : vs.length < 128)
    (hkk : 2 ≤ vs.length → ∀ (s1 : Shared) (Q' : SortKind → Shared → Prop), (∀ b o, b ≠ a → s.heap.get? b = some o → s1.heap.get? b = some o) → Q' κ0 s1 → wpAny (model prog w) A (keyKind' vs.toArray) Q' E s1)
    (hC : 2 ≤ vs.length → ∀ (s1 : Shared), (∀ b o, b ≠ a → s.heap.get? b = some o → s1.heap.get? b = some o) → Cmp prog w A E s1 κ0 rk (pairsOf vs))
    (h : ∀ out : Array Value, Sorted1 rk vs out → P (.done (.ret .none)) { s with heap := sortedHeap s.heap a vs out }) :
    wpAny (model prog w) A (Builtin.«list.sort» ⟨[.ref a], []⟩) P E s := by
  rw [list_sort_plain]
  have ha : a < s.heap.objs.size := Heap.lt_size ho
  refine wpAny_bind (listItems_at ho rfl ?_)
  refine wpAny_bind (listUpdate_at ho rfl ?_)
  obtain ⟨e1, ho1⟩ : ∃ e1, (s.heap.update a (Obj.mapSeq fun _ => #[])).get? a = some (seqObj "list" #[] e1) := ⟨_, get?_update_seq ho (fun _ => #[])⟩
  refine wpAny_bind (seqEpoch_at ho1 rfl ?_)
  refine wpAny_bind (wpAny_newTuple ?_ (by show vs.length ≤ _; rw [sizeLine_eq]; exact Mine.r30 h128))
  refine wpAny_bind (wpAny_newList ?_ (Nat.zero_le _))
  refine wpAny_holding ?_
  have keep : ∀ b o, b ≠ a → s.heap.get? b = some o → (((s.heap.update a (Obj.mapSeq fun _ => #[])).push (seqObj "tuple" vs.toArray 0)).push (seqObj "list" #[] 0)).get? b = some o := fun b o hb e => by
    have hlt : b < s.heap.objs.size := Heap.lt_size e
    rw [Heap.get?_push_ne _ _ _ (by rw [size_push', Heap.size_update]; exact Nat.ne_of_lt (Nat.lt_succ_of_lt hlt)), Heap.get?_push_ne _ _ _ (by rw [Heap.size_update]; exact Nat.ne_of_lt hlt), Heap.get?_update_ne _ _ _ _ hb]
    exact e
  have ho6 : (((s.heap.update a (Obj.mapSeq fun _ => #[])).push (seqObj "tuple" vs.toArray 0)).push (seqObj "list" #[] 0)).get? a = some (seqObj "list" #[] e1) := by
    rw [Heap.get?_push_ne _ _ _ (by rw [size_push', Heap.size_update]; exact Nat.ne_of_lt (Nat.lt_succ_of_lt ha)), Heap.get?_push_ne _ _ _ (by rw [Heap.size_update]; exact Nat.ne_of_lt ha)]
    exact ho1
  show wpAny (model prog w) A _ P E { s with heap := ((s.heap.update a (Obj.mapSeq fun _ => #[])).push (seqObj "tuple" vs.toArray 0)).push (seqObj "list" #[] 0) }
  dsimp only
  have hsz : vs.toArray.size = vs.length := by simp
  by_cases h2 : vs.toArray.size < 2
  · rw [if_pos h2, if_pos h2]
    refine wpAny_bind (wpAny_pure ?_)
    rw [StateT.run_pure]
    refine wpAny_bind (wpAny_pure ?_)
    dsimp only
    refine wpAny_bind (seqEpoch_at ho6 rfl ?_)
    refine wpAny_bind (listUpdate_at ho6 rfl ?_ (hsz2 := by rw [Array.size_map]; show (pairsOf vs).size ≤ _; rw [pairsOf_size, sizeLine_eq]; exact Mine.r338 h2 hsz))
    simp only [bne_self_eq_false, Bool.false_eq_true, if_false]
    refine wpAny_pure (h _ ⟨vs.zip vs, by rw [Array.toList_map]; show List.map _ (pairsOf vs).toList = _; rw [pairsOf_toList], List.Perm.refl _, ?_⟩)
    have hl : (vs.zip vs).length < 2 := by rw [List.length_zip]; exact Mine.r288 h2 hsz
    match vs.zip vs, hl with
    | [], _ => exact .nil
    | [x], _ => exact List.pairwise_singleton _ _
    | x :: y :: r, hl => exact absurd hl (by simp only [List.length_cons]; exact Mine.r32)
  · rw [if_neg h2, if_neg h2]
    have h2' : 2 ≤ vs.length := by exact Mine.r244 hsz h2
    refine wpAny_bind (hkk h2' _ _ keep ?_)
    refine wpAny_bind (wpAny_mono (runs_spec (rk := rk) (κ0 := κ0) (a₀ := pairsOf vs) (st := SortSt.mk' κ0 (vs.toArray.zip vs.toArray) #[] 7 none)
      (Q := fun _ st' => (arrOf st').Perm (pairsOf vs) ∧ failedOf st' = none ∧ Srt rk (arrOf st').toList)
      (hC h2' _ keep) ⟨Array.Perm.refl _, rfl, rfl, rfl⟩ (by rw [pairsOf_size]; exact h2') (by rw [pairsOf_size]; exact h128) fun st' a1 a2 a3 => ⟨a1, a2, a3⟩) ?_ fun _ _ e => e)
    rintro ⟨⟨⟩, st'⟩ s' ⟨rfl, hp, hf, hs⟩
    dsimp only
    refine wpAny_bind (seqEpoch_at ho6 rfl ?_)
    refine wpAny_bind (listUpdate_at ho6 rfl ?_ (hsz2 := by refine Nat.le_trans (Nat.le_of_eq ((Array.size_map ..).trans (hp.size_eq.trans (pairsOf_size _)))) ?_; rw [sizeLine_eq]; exact Mine.r278 h128))
    rw [hf]
    simp only [bne_self_eq_false, Bool.false_eq_true, if_false]
    exact wpAny_pure (h _ ⟨(arrOf st').toList, by rw [Array.toList_map], by rw [← pairsOf_toList]; exact Array.perm_iff_toList_perm.mp hp, hs⟩)
variable {h₀ : Heap} {L : Addr} {m : Str → Option Value} {news : List (Addr × Obj)}
theorem sorted_R {l : Addr} {vs : List Value} {Q : Value → Shared → Prop} (F : Fr h₀ L s.heap m) (N : News h₀ L s.heap news) (hl : s.heap.IsList l vs.toArray) (h128 : vs.length < 128)
    (hkk : 2 ≤ vs.length → ∀ (s1 : Shared) (Q' : SortKind → Shared → Prop), (∀ b o, s.heap.get? b = some o → s1.heap.get? b = some o) → Q' κ0 s1 → wpAny (model prog w) A.in1.in1 (keyKind' vs.toArray) Q' (fun _ _ => False) s1)
    (hC : 2 ≤ vs.length → ∀ (s1 : Shared), (∀ b o, s.heap.get? b = some o → s1.heap.get? b = some o) → Cmp prog w A.in1.in1 (fun _ _ => False) s1 κ0 rk (pairsOf vs))
    (h : ∀ (D : Addr) (out : List Value) (c : Nat) (h' : Heap), Fr h₀ L h' m → News h₀ L h' ((D, W.listOf out.toArray c) :: news) → (∀ q ∈ news, q.1 < D) → Sorted1 rk vs out.toArray → Q (.ref D) { s with heap := h' }) :
    wpAny (model prog w) A (call (.builtin "sorted") [.ref l]) Q E s := by
  refine Calls.call_function_entry kind_sorted plain_sorted entry_sorted (args_sorted1 _) ?_
  unfold Builtin.«sorted»
  refine wpAny_bind (m := checkCount "sorted" 1 1 _) (wpAny_pure ?_)
  refine wpAny_bind (collect_list hl ?_ (by rw [sizeLine_eq]; exact Mine.r30 h128))
  refine wpAny_bind (wpAny_newList ?_ (by rw [sizeLine_eq]; exact Mine.r30 h128))
  have hsz : ((s.heap.push (seqObj "list" #[] 0)).update s.heap.objs.size (Obj.mapSeq (· ++ vs.toArray))).objs.size = s.heap.objs.size + 1 := by
    rw [Heap.size_update, size_push']
  have hoL : (((s.heap.push (seqObj "list" #[] 0)).update s.heap.objs.size (Obj.mapSeq (· ++ vs.toArray))).push (seqObj "list" vs.toArray 0)).get? (s.heap.objs.size + 1) = some (seqObj "list" vs.toArray 0) := by
    rw [← hsz]; exact Heap.get?_push_size _ rfl
  have keep : ∀ b o, s.heap.get? b = some o → (((s.heap.push (seqObj "list" #[] 0)).update s.heap.objs.size (Obj.mapSeq (· ++ vs.toArray))).push (seqObj "list" vs.toArray 0)).get? b = some o ∧ b ≠ s.heap.objs.size + 1 := fun b o q => by
    have hlt : b < s.heap.objs.size := Heap.lt_size q
    refine ⟨?_, Nat.ne_of_lt (Nat.lt_succ_of_lt hlt)⟩
    rw [Heap.get?_push_ne _ _ _ (by rw [hsz]; exact Nat.ne_of_lt (Nat.lt_succ_of_lt hlt)), Heap.get?_update_ne _ _ _ _ (Nat.ne_of_lt hlt), Heap.get?_push_ne _ _ _ (Nat.ne_of_lt hlt)]
    exact q
  show wpAny _ _ _ _ _ { s with heap := ((s.heap.push (seqObj "list" #[] 0)).update s.heap.objs.size (Obj.mapSeq (· ++ vs.toArray))).push (seqObj "list" vs.toArray 0) }
  rw [hsz]
  refine wpAny_bind (wpAny_holding (wpAny_call_entry slot_list_sort ⟨_, hoL, rfl⟩ entry_list_sort ?body (args_list_sort _)))
  case body =>
    refine wpAny_mono (list_sort_R (rk := rk) (κ0 := κ0) (E := fun _ _ => False) (P := fun fin s' => ∃ out : Array Value, fin = .done (.ret .none) ∧ Sorted1 rk vs out ∧ s' = { s with heap := sortedAll s.heap vs out }) hoL h128
      (fun h2 s1 Q' hk hq => hkk h2 s1 Q' (fun b o e => hk b o (keep b o e).2 (keep b o e).1) hq) (fun h2 s1 hk => hC h2 s1 fun b o e => hk b o (keep b o e).2 (keep b o e).1)
      fun out ho => ⟨out, rfl, ho, rfl⟩) ?_ fun _ _ x => x.elim
    rintro fin s' ⟨out, rfl, ho, rfl⟩
    refine ⟨_, rfl, wpAny_pure ⟨_, rfl, ?_⟩⟩
    obtain ⟨e, he⟩ := sortedAll_at s.heap vs out
    have := h (s.heap.objs.size + 1) out.toList e (sortedAll s.heap vs out) (F.kept fun _ _ => sortedAll_old) (by rw [Array.toArray_toList]; exact N.kept_cons F (fun _ _ => sortedAll_old) (Nat.le_succ _) he) (fun p hp => Nat.lt_succ_of_lt (Heap.lt_size (N p hp).1)) (by rw [Array.toArray_toList]; exact ho)
    exact this
end
end Mine
end
section
open PySem PySem.W PyProof.Rows PySem.Spec PySem.Calls
set_option maxRecDepth 100000
namespace Mine
inductive Rel2 {α β : Type} (R : α → β → Prop) : List α → List β → Prop where
  | nil : Rel2 R [] []
  | cons {a b l r} : R a b → Rel2 R l r → Rel2 R (a :: l) (b :: r)
section
variable {α β : Type} {R : α → β → Prop}
theorem Rel2.length {l : List α} {r : List β} (h : Rel2 R l r) : l.length = r.length := by
  induction h with
  | nil => rfl
  | cons _ _ ih => simp [ih]
theorem Rel2.mem {l : List α} {r : List β} (h : Rel2 R l r) {a : α} (ha : a ∈ l) : ∃ b ∈ r, R a b := by
  induction h with
  | nil => cases ha
  | cons h1 _ ih =>
    rcases List.mem_cons.mp ha with rfl | ha
    · exact ⟨_, .head _, h1⟩
    · obtain ⟨b, hb, hr⟩ := ih ha
      exact ⟨b, .tail _ hb, hr⟩
theorem Rel2.mono {S : α → β → Prop} {l : List α} {r : List β} (h : Rel2 R l r) (k : ∀ a b, R a b → S a b) : Rel2 S l r := by
  induction h with
  | nil => exact .nil
  | cons h1 _ ih => exact .cons (k _ _ h1) ih
theorem Rel2.append {l l' : List α} {r r' : List β} (h : Rel2 R l r) (h' : Rel2 R l' r') : Rel2 R (l ++ l') (r ++ r') := by
  induction h with
  | nil => exact h'
  | cons h1 _ ih => exact .cons h1 ih
theorem Rel2.get {l : List α} {r : List β} (h : Rel2 R l r) : ∀ {i : Nat} {a : α}, l[i]? = some a → ∃ b, r[i]? = some b ∧ R a b := by
  induction h with
  | nil => intro i a e; simp at e
  | cons h1 _ ih =>
    intro i a e
    cases i with
    | zero => simp at e; subst e; exact ⟨_, rfl, h1⟩
    | succ i => exact ih (by simpa using e)
theorem Rel2.perm {l l' : List α} (p : l.Perm l') : ∀ {r : List β}, Rel2 R l r → ∃ r', r'.Perm r ∧ Rel2 R l' r' := by
  induction p with
  | nil => intro r h; exact ⟨r, List.Perm.refl _, h⟩
  | cons a _ ih =>
    intro r h
    cases h with
    | cons h1 h2 =>
      obtain ⟨r', p1, q1⟩ := ih h2
      exact ⟨_ :: r', p1.cons _, .cons h1 q1⟩
  | swap a b l =>
    intro r h
    cases h with
    | cons h1 h2 => cases h2 with
      | cons h3 h4 => exact ⟨_, List.Perm.swap _ _ _, .cons h3 (.cons h1 h4)⟩
  | trans _ _ ih1 ih2 =>
    intro r h
    obtain ⟨r', p1, q1⟩ := ih1 h
    obtain ⟨r2, p2, q2⟩ := ih2 q1
    exact ⟨r2, p2.trans p1, q2⟩
end
section
variable {prog : Program} {w : World} {A : Around} {E : Value → Shared → Prop} {s : Shared}
theorem lt_pair {x y : Addr} {ox oy : Obj} {n k : Nat} {i j : Int} {a c : Str} {t1 t2 u1 u2 : Tok} {Q : Bool → Shared → Prop} (hx : s.heap.get? x = some ox) (dx : ox.data = .seq #[.int i t1, .str a t2] n) (hy : s.heap.get? y = some oy) (dy : oy.data = .seq #[.int j u1, .str c u2] k)
    (he : i = j → a = c) (h : Q (decide (i < j)) s) : wpAny (model prog w) A (keyLt' (tuples' true) (.ref x) (.ref y)) Q E s := by
  refine kat_lt hx dx hy dy ?_
  show KatLex prog w A true (decide (2 < 2)) Q [(Value.int i t1, Value.int j u1), (Value.str a t2, Value.str c u2)] 0 s
  refine kat_cons (wpAny_eqBool_int ?_)
  by_cases e : i = j
  · subst e
    rw [beq_self_eq_true]
    refine kat_yes (kat_cons (eqBool_str ?_))
    rw [he rfl, beq_self_eq_true]
    refine kat_yes (kat_nil ?_)
    rw [decide_eq_false (by exact Mine.r118)] at h
    exact h
  · rw [beq_eq_false_iff_ne.mpr e]
    exact kat_no (oneLt_int h)
theorem lt_triple {x y : Addr} {ox oy : Obj} {n k : Nat} {i j p q : Int} {a c : Str} {t1 t2 t3 u1 u2 u3 : Tok} {Q : Bool → Shared → Prop} (hx : s.heap.get? x = some ox) (dx : ox.data = .seq #[.int i t1, .int p t3, .str a t2] n) (hy : s.heap.get? y = some oy) (dy : oy.data = .seq #[.int j u1, .int q u3, .str c u2] k)
    (he : i = j → p = q → a = c) (h : Q (decide (i < j ∨ (i = j ∧ p < q))) s) : wpAny (model prog w) A (keyLt' (tuples' true) (.ref x) (.ref y)) Q E s := by
  refine kat_lt hx dx hy dy ?_
  show KatLex prog w A true (decide (3 < 3)) Q [(Value.int i t1, Value.int j u1), (Value.int p t3, Value.int q u3), (Value.str a t2, Value.str c u2)] 0 s
  refine kat_cons (wpAny_eqBool_int ?_)
  by_cases e : i = j
  · subst e
    rw [beq_self_eq_true]
    refine kat_yes (kat_cons (wpAny_eqBool_int ?_))
    by_cases e2 : p = q
    · subst e2
      rw [beq_self_eq_true]
      refine kat_yes (kat_cons (eqBool_str ?_))
      rw [he rfl rfl, beq_self_eq_true]
      refine kat_yes (kat_nil ?_)
      rw [decide_eq_false (by exact Mine.r215)] at h
      exact h
    · rw [beq_eq_false_iff_ne.mpr e2]
      refine kat_no (kat_one _ _ (lt_int ?_))
      have : decide (i < i ∨ (i = i ∧ p < q)) = decide (p < q) := by
        by_cases z : p < q <;> simp [z]
      rw [this] at h
      exact h
  · rw [beq_eq_false_iff_ne.mpr e]
    have : decide (i < j ∨ (i = j ∧ p < q)) = decide (i < j) := by
      by_cases z : i < j <;> simp [z, e]
    rw [this] at h
    exact kat_no (oneLt_int h)
end
noncomputable def rk2 (h : Heap) (p : Keyed) : Nat := match p.1 with
  | .ref a => match h.get? a with
    | some o => match o.data with
      | .seq xs _ => match xs[0]? with
        | some (Value.int i _) => i.toNat
        | _ => 0
      | _ => 0
    | none => 0
  | _ => 0
noncomputable def rk3 (h : Heap) (p : Keyed) : Nat := match p.1 with
  | .ref a => match h.get? a with
    | some o => match o.data with
      | .seq xs _ => match xs[0]?, xs[1]? with
        | some (Value.int i _), some (Value.int k _) => i.toNat * 16 + (k + 16).toNat
        | _, _ => 0
      | _ => 0
    | none => 0
  | _ => 0
noncomputable def PairAt (news : List (Addr × Obj)) (v : Value) (d : Nat × Str) : Prop := ∃ a o t u n, v = .ref a ∧ (a, o) ∈ news ∧ o.cls = .type "tuple" ∧ o.data = .seq #[.int (d.1 : Int) t, .str d.2 u] n
noncomputable def TripleAt (news : List (Addr × Obj)) (v : Value) (d : Nat × Nat × Str) : Prop := ∃ a o t t' u n, v = .ref a ∧ (a, o) ∈ news ∧ o.cls = .type "tuple" ∧ o.data = .seq #[.int (d.1 : Int) t, .int (-(d.2.1 : Int)) t', .str d.2.2 u] n
section
variable {prog : Program} {w : World} {A : Around} {E : Value → Shared → Prop} {s : Shared} {h₀ : Heap} {L : Addr} {m : Str → Option Value} {news : List (Addr × Obj)}
theorem kat_tups {vs : List Value} {h : Heap} (hv : ∀ v ∈ vs, ∃ a o xs n i t, v = .ref a ∧ h.get? a = some o ∧ o.cls = .type "tuple" ∧ o.data = .seq xs n ∧ xs[0]? = some (.int i t)) : ∃ fs : List Value, fs.length = vs.length ∧ KatTups h vs fs ∧ ∀ f ∈ fs, ∃ i t, f = .int i t := by
  induction vs with
  | nil => exact ⟨[], rfl, trivial, fun f hf => nomatch hf⟩
  | cons v r ih =>
    obtain ⟨fs, e, k, q⟩ := ih fun u hu => hv u (.tail _ hu)
    obtain ⟨a, o, xs, n, i, t, rfl, h1, h2, h3, h4⟩ := hv v (.head _)
    refine ⟨.int i t :: fs, by simp [e], KatTups.cons h1 h2 h3 h4 k, fun f hf => ?_⟩
    rcases List.mem_cons.mp hf with rfl | hf
    · exact ⟨i, t, rfl⟩
    · exact q f hf
theorem kind_tups {vs : List Value} {Q : SortKind → Shared → Prop} (h2 : 2 ≤ vs.length) (hv : ∀ v ∈ vs, ∃ a o xs n i t, v = .ref a ∧ s.heap.get? a = some o ∧ o.cls = .type "tuple" ∧ o.data = .seq xs n ∧ xs[0]? = some (.int i t)) (h : Q (tuples' true) s) : wpAny (model prog w) A (keyKind' vs.toArray) Q E s := by
  obtain ⟨fs, e, k, q⟩ := kat_tups hv
  refine kat_kind (T := .type "int") k (by exact Mine.r216 e h2) (fun f hf => ?_) (by rfl) h
  obtain ⟨i, t, rfl⟩ := q f hf
  exact .now
theorem keys_of_zip {vs : List Value} {x : Keyed} (hx : x ∈ (pairsOf vs).toList) : x.1 = x.2 ∧ x.1 ∈ vs := by
  rw [pairsOf_toList] at hx
  exact mem_zip_self hx
theorem cmp_of {rk : Keyed → Nat} {vs : List Value} (h : ∀ v ∈ vs, ∀ u ∈ vs, ∀ (Q : Bool → Shared → Prop) (E' : Value → Shared → Prop), Q (decide (rk (v, v) < rk (u, u))) s → wpAny (model prog w) A (keyLt' (tuples' true) v u) Q E' s) : Cmp prog w A E s (tuples' true) rk (pairsOf vs) := by
  intro x hx y hy st Q hk hq
  obtain ⟨e1, m1⟩ := keys_of_zip hx
  obtain ⟨e2, m2⟩ := keys_of_zip hy
  rw [lt'_eq]
  refine wpS_bind (wpS_get ?_)
  rw [hk]
  refine wpS_bind (wpS_lift (wpAny_attempt (h x.1 m1 y.1 m2 _ _ ?_)))
  refine ⟨rfl, ?_⟩
  have ex : (x.1, x.1) = x := by rw [Prod.ext_iff]; exact ⟨rfl, e1⟩
  have ey : (y.1, y.1) = y := by rw [Prod.ext_iff]; exact ⟨rfl, e2⟩
  rw [ex, ey]
  exact wpS_pure hq
theorem rel_sorted {β : Type} {R : Value → β → Prop} {rk : Keyed → Nat} {key : β → Nat} : ∀ {ps : List Keyed} {ds : List β}, Rel2 R (ps.map (·.2)) ds → (∀ p ∈ ps, ∀ d, R p.2 d → rk p = key d) → Srt rk ps → ds.Pairwise fun a b => key a ≤ key b
  | [], _, .nil, _, _ => .nil
  | p :: r, _, .cons (b := d) h1 h2, k, hs => by
    have hs' := List.pairwise_cons.mp hs
    refine List.pairwise_cons.mpr ⟨fun d' hd' => ?_, rel_sorted h2 (fun q hq => k q (.tail _ hq)) hs'.2⟩
    have : ∃ q ∈ r, R q.2 d' := by
      clear hs hs' k
      generalize hl : r.map (·.2) = l at h2
      induction h2 generalizing r with
      | nil => cases hd'
      | cons g1 g2 ih =>
        cases r with
        | nil => cases hl
        | cons q r' =>
          cases hl
          rcases List.mem_cons.mp hd' with rfl | hd'
          · exact ⟨q, .head _, g1⟩
          · obtain ⟨z, hz, hr⟩ := ih r' hd' rfl
            exact ⟨z, .tail _ hz, hr⟩
    obtain ⟨q, hq, hr⟩ := this
    rw [← k p (.head _) d h1, ← k q (.tail _ hq) d' hr]
    exact hs'.1 q hq
theorem sorted_pairs {l : Addr} {vs : List Value} {ds : List (Nat × Str)} {Q : Value → Shared → Prop} (F : Fr h₀ L s.heap m) (N : News h₀ L s.heap news) (hl : s.heap.IsList l vs.toArray) (hd : Rel2 (PairAt news) vs ds) (h128 : ds.length < 128)
    (hu : ∀ d ∈ ds, ∀ e ∈ ds, d.1 = e.1 → d = e)
    (h : ∀ (D : Addr) (out : List Value) (es : List (Nat × Str)) (c : Nat) (h' : Heap), Fr h₀ L h' m → News h₀ L h' ((D, W.listOf out.toArray c) :: news) → (∀ q ∈ news, q.1 < D) → Rel2 (PairAt news) out es → es.Perm ds → es.Pairwise (fun a b => a.1 ≤ b.1) → Q (.ref D) { s with heap := h' }) :
    wpAny (model prog w) A (call (.builtin "sorted") [.ref l]) Q E s := by
  have hk : ∀ v d, PairAt news v d → rk2 s.heap (v, v) = d.1 := by
    rintro v d ⟨a, o, t, u, n, rfl, h1, h2, h3⟩
    have := (N _ h1).1
    dsimp only at this
    unfold rk2
    simp [this, h3]
  refine sorted_R (rk := rk2 s.heap) (κ0 := tuples' true) F N hl (by rw [hd.length]; exact h128) (fun h2 s1 Q' kp hq => kind_tups h2 (fun v hv => ?_) hq) (fun h2 s1 kp => cmp_of fun v hv u hu' Q' E' hq => ?_) fun D out c h' F' N' hlt ho => ?_
  · obtain ⟨d, _, a, o, t, u, n, rfl, h1, h2, h3⟩ := hd.mem hv
    exact ⟨a, o, _, n, d.1, t, rfl, kp _ _ (N _ h1).1, h2, h3, rfl⟩
  · obtain ⟨d, hd1, hp1⟩ := hd.mem hv
    obtain ⟨e, he1, hp2⟩ := hd.mem hu'
    rw [hk v d hp1, hk u e hp2] at hq
    obtain ⟨a, o, t, u, n, rfl, h1, h2, h3⟩ := hp1
    obtain ⟨a', o', t', u', n', rfl, h1', h2', h3'⟩ := hp2
    refine lt_pair (kp _ _ (N _ h1).1) h3 (kp _ _ (N _ h1').1) h3' (fun z => by rw [hu d hd1 e he1 (Int.ofNat.inj z)]) ?_
    rw [show decide (((d.1 : Nat) : Int) < (e.1 : Int)) = decide (d.1 < e.1) by simp]
    exact hq
  · obtain ⟨ps, e1, p1, s1⟩ := ho
    have hz : ∀ p ∈ ps, p.1 = p.2 := fun p hp => (mem_zip_self (p1.mem_iff.mp hp)).1
    have e1' : out = ps.map (·.2) := by simpa using e1
    subst e1'
    have hperm : (ps.map (·.2)).Perm vs := by
      have := p1.map (·.2)
      rw [List.map_snd_zip (Nat.le_refl _)] at this
      exact this
    obtain ⟨es, q1, q2⟩ := Rel2.perm hperm.symm hd
    refine h D _ es c h' F' N' hlt q2 q1 (rel_sorted q2 (fun p hp d hr => ?_) s1)
    rw [← hk p.2 d hr]
    have : p = (p.2, p.2) := by rw [Prod.ext_iff]; exact ⟨hz p hp, rfl⟩
    rw [← this]
theorem sorted_triples {l : Addr} {vs : List Value} {ds : List (Nat × Nat × Str)} {Q : Value → Shared → Prop} (F : Fr h₀ L s.heap m) (N : News h₀ L s.heap news) (hl : s.heap.IsList l vs.toArray) (hd : Rel2 (TripleAt news) vs ds) (h128 : ds.length < 128)
    (h16 : ∀ d ∈ ds, d.2.1 ≤ 15) (hu : ∀ d ∈ ds, ∀ e ∈ ds, d.1 = e.1 → d.2.1 = e.2.1 → d = e)
    (h : ∀ (D : Addr) (out : List Value) (es : List (Nat × Nat × Str)) (c : Nat) (h' : Heap), Fr h₀ L h' m → News h₀ L h' ((D, W.listOf out.toArray c) :: news) → (∀ q ∈ news, q.1 < D) → Rel2 (TripleAt news) out es → es.Perm ds → es.Pairwise (fun a b => a.1 * 16 + (16 - a.2.1) ≤ b.1 * 16 + (16 - b.2.1)) → Q (.ref D) { s with heap := h' }) :
    wpAny (model prog w) A (call (.builtin "sorted") [.ref l]) Q E s := by
  have hk : ∀ v d, d ∈ ds → TripleAt news v d → rk3 s.heap (v, v) = d.1 * 16 + (16 - d.2.1) := by
    rintro v d hd ⟨a, o, t, t', u, n, rfl, h1, h2, h3⟩
    have := (N _ h1).1
    have z := h16 d hd
    dsimp only at this
    unfold rk3
    simp [this, h3]
    omega
  have hd' : Rel2 (fun v d => TripleAt news v d ∧ d ∈ ds) vs ds := by
    have gen : ∀ {l : List Value} {r : List (Nat × Nat × Str)}, Rel2 (TripleAt news) l r → (∀ d ∈ r, d ∈ ds) → Rel2 (fun v d => TripleAt news v d ∧ d ∈ ds) l r := by
      intro l r hr
      induction hr with
      | nil => intro _; exact .nil
      | cons g1 _ ih => intro hm; exact .cons ⟨g1, hm _ (.head _)⟩ (ih fun d hd => hm d (.tail _ hd))
    exact gen hd fun d hd => hd
  refine sorted_R (rk := rk3 s.heap) (κ0 := tuples' true) F N hl (by rw [hd.length]; exact h128) (fun h2 s1 Q' kp hq => kind_tups h2 (fun v hv => ?_) hq) (fun h2 s1 kp => cmp_of fun v hv u hu' Q' E' hq => ?_) fun D out c h' F' N' hlt ho => ?_
  · obtain ⟨d, _, a, o, t, t', u, n, rfl, h1, h2, h3⟩ := hd.mem hv
    exact ⟨a, o, _, n, d.1, t, rfl, kp _ _ (N _ h1).1, h2, h3, rfl⟩
  · obtain ⟨d, hd1, hp1⟩ := hd.mem hv
    obtain ⟨e, he1, hp2⟩ := hd.mem hu'
    rw [hk v d hd1 hp1, hk u e he1 hp2] at hq
    obtain ⟨a, o, t, t', u, n, rfl, h1, h2, h3⟩ := hp1
    obtain ⟨a', o', t2, t2', u', n', rfl, h1', h2', h3'⟩ := hp2
    refine lt_triple (kp _ _ (N _ h1).1) h3 (kp _ _ (N _ h1').1) h3' (fun z z2 => by rw [hu d hd1 e he1 (Int.ofNat.inj z) (by exact Mine.r301 z2)]) ?_
    have z1 := h16 d hd1
    have z2 := h16 e he1
    rw [show decide (((d.1 : Nat) : Int) < (e.1 : Int) ∨ ((d.1 : Nat) : Int) = (e.1 : Int) ∧ -((d.2.1 : Nat) : Int) < -((e.2.1 : Nat) : Int)) = decide (d.1 * 16 + (16 - d.2.1) < e.1 * 16 + (16 - e.2.1)) from decide_eq_decide.mpr (by exact Mine.r527 z2)]
    exact hq
  · obtain ⟨ps, e1, p1, s1⟩ := ho
    have hz : ∀ p ∈ ps, p.1 = p.2 := fun p hp => (mem_zip_self (p1.mem_iff.mp hp)).1
    have e1' : out = ps.map (·.2) := by simpa using e1
    subst e1'
    have hperm : (ps.map (·.2)).Perm vs := by
      have := p1.map (·.2)
      rw [List.map_snd_zip (Nat.le_refl _)] at this
      exact this
    obtain ⟨es, q1, q2⟩ := Rel2.perm hperm.symm hd'
    refine h D _ es c h' F' N' hlt (q2.mono fun _ _ z => z.1) q1 (rel_sorted q2 (fun p hp d hr => ?_) s1)
    rw [← hk p.2 d hr.2 hr.1]
    have : p = (p.2, p.2) := by rw [Prod.ext_iff]; exact ⟨hz p hp, rfl⟩
    rw [← this]
end
end Mine
end
section
open PySem PySem.W PyProof.Rows PySem.Spec PySem.Calls
set_option maxRecDepth 100000
namespace Mine
section
open LCg
variable {prog : Program} {w : World} {A : Around} {E : Value → Shared → Prop} {s s₂ : Shared} {h₀ : Heap} {L : Addr} {m : Str → Option Value} {env : Env}
variable {i1 : Expr} {x y z : Str} {px py pz p0 tp : Pos} {kk : Nat} {scope : Scope} {pos : Pos} {cl : List (Str × Addr)}
noncomputable abbrev comp3E (x y z : Str) (px py pz p0 tp : Pos) (kk : Nat) (i1 : Expr) (scope : Scope) (pos : Pos) : Expr := .ListComp (.Name z p0) [⟨.Tuple [.Name x px, .Name y py, .Name z pz] kk tp, i1, [], 0⟩] scope pos
inductive TripAt (news : List (Addr × Obj)) (Rl : Value → Prop) (v : Value) : Prop
  | mk (t : Addr) (ot : Obj) (v1 v2 v3 : Value) (nt : Nat) (e : v = .ref t) (h1 : (t, ot) ∈ news) (h2 : ot.cls = .type "tuple") (h3 : ot.data = .seq #[v1, v2, v3] nt) (h4 : Rl v3)
inductive At3 (h₀ : Heap) (L : Addr) (m : Str → Option Value) (s₂ : Shared) (news : List (Addr × Obj)) (items : Array Value) (I D0 C D : Addr) (Rl : Nat → Value → Prop) (k : Nat) (s' : Shared) : Prop
  | mk (h' : Heap) (tk i : Nat) (ys : List Value) (oC' : Obj) (m' : Str → Option Value) (e : s' = { s₂ with heap := h', toks := tk }) (h1 : i ≤ items.size) (h2 : k = items.size + 1 - i) (h3 : ys.length = i) (h4 : ∀ j v, ys[j]? = some v → Rl j v) (h5 : h'.IsListIter I D0 i ∧ h'.IsList D0 items) (F : Fr h₀ L h' m) (hC : NsObj oC' m') (N : News h₀ L h' ((C, oC') :: (D, lst ys) :: news))
theorem block3 {D0 I : Addr} {items : Array Value} {news : List (Addr × Obj)} {Rl : Nat → Value → Prop} {RR : Value → Addr → Result → Shared → Prop}
    (S1 : Src9 prog w A h₀ L (fun _ : Unit => news) I items.size (fun i v => items[i]? = some v) (fun i h => h.IsListIter I D0 i ∧ h.IsList D0 items)) (hh : A.handled = none) (hsz : items.size ≤ sizeLine)
    (hT : ∀ i v, items[i]? = some v → TripAt news (Rl i) v)
    (hcell : ∀ z ∈ scope.names, z.2 ≠ .cell) (hkind : scope.kind = .function) (hx : scope.names.lookup x = some .local) (hy : scope.names.lookup y = some .local) (hz : scope.names.lookup z = some .local) (hzd : (z == ("__debug__" : Str)) = false)
    (hst : s₂.heap.IsListIter I D0 0 ∧ s₂.heap.IsList D0 items) (F : Fr h₀ L s₂.heap m) (N : News h₀ L s₂.heap news) (hIL : L ≠ I) (hI0 : h₀.get? I = none) (off : OffI I news)
    (hRR : ∀ D C h tk m' ys, Fr h₀ L h m → News h₀ L h ((D, lst ys) :: news) → OffI D news → h.Ns C m' → h₀.get? C = none → C ≠ L → C ≠ D → OffI C news → ys.length = items.size → (∀ j v, ys[j]? = some v → Rl j v) → RR (.ref D) C (.ok .next) { s₂ with heap := h, toks := tk }) :
    wpAny (model prog w) A (newList []) (fun acc s₃ => wpAny (model prog w) A (newFunctionEnv scope env.globals cl [] env.qual none .none (some env)) (fun cenv s₄ =>
      codeAny (model prog w) A (.compStart (comp3E x y z px py pz p0 tp kk i1 scope pos) 0 (.ref I) acc { cenv with scope := relabel scope env }) (RR acc cenv.locals) s₄) E s₃) E s₂ := by
  refine wpAny_newObj_type (wpAny_newFunctionEnv hcell (by intro y hy; simp at hy) (fun h₁ hns₁ hsb₁ => ?_) hkind)
  dsimp only at hns₁ hsb₁ ⊢
  generalize hH2 : s₂.heap.push { cls := .type "list", dict := none, data := .seq ([] : List Value).toArray } = H2 at hns₁ hsb₁ ⊢
  have hC : H2.objs.size = s₂.heap.objs.size + 1 := by rw [← hH2, Heap.size_push]
  have hDC : s₂.heap.objs.size ≠ H2.objs.size := by rw [hC]; exact Nat.ne_of_lt (Nat.lt_succ_self _)
  have below : ∀ b, b < s₂.heap.objs.size → b ≠ H2.objs.size ∧ b ≠ s₂.heap.objs.size := fun b hb => ⟨by rw [hC]; exact Nat.ne_of_lt (Nat.lt_succ_of_lt hb), Nat.ne_of_lt hb⟩
  obtain ⟨oI, heI⟩ := S1.obj _ _ hst
  have hIlt : I < s₂.heap.objs.size := Heap.lt_size heI
  have old : ∀ b o, s₂.heap.get? b = some o → h₁.get? b = some o := fun b o e => hsb₁.extBut b o (below b (Heap.lt_size e)).1 (Heap.get?_push_of_some _ (hH2 ▸ Heap.get?_push_of_some _ e))
  have hacc : h₁.get? s₂.heap.objs.size = some (lst []) := hsb₁.extBut _ _ hDC (Heap.get?_push_of_some _ (hH2 ▸ Heap.get?_push_size _ rfl))
  have fresh : ∀ a, s₂.heap.objs.size ≤ a → s₂.heap.get? a = none := fun a ha => by
    cases e : s₂.heap.get? a with
    | none => rfl
    | some o' => exact absurd (Heap.lt_size e) (Nat.not_lt.mpr ha)
  have fresh₀ : ∀ a, s₂.heap.objs.size ≤ a → h₀.get? a = none := fun a ha => by
    cases e : h₀.get? a with
    | none => rfl
    | some o' => have := F.keep a o' e; rw [fresh a ha] at this; cases this
  have hD₀ : h₀.get? s₂.heap.objs.size = none := fresh₀ _ (Nat.le_refl _)
  have hC₀ : h₀.get? H2.objs.size = none := fresh₀ _ (by rw [hC]; exact Nat.le_succ _)
  have hLlt : L < s₂.heap.objs.size := F.ns.lt
  have hDL : s₂.heap.objs.size ≠ L := Ne.symm (below L hLlt).2
  have hCL : H2.objs.size ≠ L := Ne.symm (below L hLlt).1
  obtain ⟨oC, heC, hoC⟩ := ns_obj hns₁
  have F1 : Fr h₀ L h₁ m := F.keeps old
  have NL1 : News h₀ L h₁ news := fun p hp => ⟨old _ _ (N p hp).1, (N p hp).2⟩
  have hst1 := S1.stay _ _ _ _ () hst heI (old _ _ heI) F1.keep NL1
  have oC9 : OffI H2.objs.size news := fun p hp => (below _ (Heap.lt_size (N p hp).1)).1
  have oD9 : OffI s₂.heap.objs.size news := fun p hp => (below _ (Heap.lt_size (N p hp).1)).2
  have hIC := (below I hIlt).1
  have hID := (below I hIlt).2
  obtain ⟨fp, W⟩ := S1.walks
  have N1 : News h₀ L h₁ ((H2.objs.size, oC) :: (s₂.heap.objs.size, lst []) :: news) := fun p hp => by
    rcases List.mem_cons.mp hp with rfl | hp
    · exact ⟨heC, hCL, hC₀⟩
    rcases List.mem_cons.mp hp with rfl | hp
    · exact ⟨hacc, hDL, hD₀⟩
    · exact NL1 p hp
  generalize H2.objs.size = C at *
  generalize s₂.heap.objs.size = D at *
  have loop : ∀ s₃ : Shared, s₃ = { s₂ with heap := h₁, toks := s₂.toks + ([] : List (Str × Value)).length } →
      codeAny (model prog w) A (.compLoop (comp3E x y z px py pz p0 tp kk i1 scope pos) 0 (.ref I) (.ref D) (compEnvC scope cl C env)) (RR (.ref D) C) s₃ := by
    rintro s₃ rfl
    refine kcp_loop
      (At3 h₀ L m s₂ news items I D0 C D Rl) ?_ (items.size + 1)
      ⟨h₁, _, 0, [], oC, _, rfl, Nat.zero_le _, rfl, rfl, (fun j v hj => by simp at hj), hst1, F1, hoC, N1⟩
    rintro k s' ⟨h', tk, i, ys, oC', m', rfl, hi, rfl, hyl, hrl, hst', F', hoC', N'⟩
    have offN : ∀ p ∈ (C, oC') :: (D, lst ys) :: news, p.1 ≠ I := fun p hp => by
      rcases List.mem_cons.mp hp with rfl | hp
      · exact Ne.symm hIC
      rcases List.mem_cons.mp hp with rfl | hp
      · exact Ne.symm hID
      · exact off p hp
    by_cases hlt : i < items.size
    · refine W.item i _ _ _ hlt hst' fun v h₂ tk₂ hPv hst₂ hk₂ => ?_
      obtain ⟨t, ot, v₁, v₂, v₃, nt, rfl, hmt, hct, hdt, hv₃⟩ := hT i v hPv
      have F₂ : Fr h₀ L h₂ m := LCg.fr_but F' hk₂ hIL hI0
      have N₂ := LCg.news_but N' hk₂ offN
      have zC := N₂ (C, oC') (.head _)
      have ht : IsTup h₂ t #[v₁, v₂, v₃] := ⟨ot, (N₂ _ (.tail _ (.tail _ hmt))).1, hct, nt, hdt⟩
      obtain ⟨oI2, heI2⟩ := S1.obj _ _ hst₂
      refine wpAny_letOwnedTupleGo_listiter hst₂.1 ?_
      refine assign_Tuple_tuple hh ht rfl rfl fun h₃ he => ?_
      have he' : ∀ b o, h₂.get? b = some o → h₃.get? b = some o := fun b o e => he b o (Nat.ne_of_lt (Heap.lt_size e)) e
      refine assignInOrder_cons (wpAny_assign_Name (wpAny_storeName_local (lookup_relabel_local hx) ((hoC'.ns zC.1).at' fun o e => he' _ o e) (fun h₄ hn₄ hs₄ => ?_) (by simp [compEnvC, relabel, hkind])))
      refine assignInOrder_cons (wpAny_assign_Name (wpAny_storeName_local (lookup_relabel_local hy) hn₄ (fun h₅ hn₅ hs₅ => ?_) (by simp [compEnvC, relabel, hkind])))
      refine assignInOrder_cons (wpAny_assign_Name (wpAny_storeName_local (lookup_relabel_local hz) hn₅ (fun h₆ hn₆ hs₆ => ?_) (by simp [compEnvC, relabel, hkind])))
      refine assignInOrder_nil ?_
      have old6 : ∀ b o, b ≠ C → h₂.get? b = some o → h₆.get? b = some o := fun b o hb e => hs₆.extBut b o hb (hs₅.extBut b o hb (hs₄.extBut b o hb (he' b o e)))
      have F₆ : Fr h₀ L h₆ m := (((F₂.keeps he').change hs₄ zC.2.1 zC.2.2).change hs₅ zC.2.1 zC.2.2).change hs₆ zC.2.1 zC.2.2
      refine wpAny_Name (wpAny_loadName_local hkind (lookup_relabel_local hz) hn₆ (if_pos rfl) ?_) hzd
      obtain ⟨oC6, heC6, hoC6⟩ := ns_obj hn₆
      have hst₆ := S1.stay _ _ _ _ () hst₂ heI2 (old6 _ _ hIC heI2) F₆.keep (fun p hp => ⟨old6 _ _ (oC9 p hp) (N₂ p (.tail _ (.tail _ hp))).1, (N₂ p (.tail _ (.tail _ hp))).2⟩)
      have zD : h₆.get? D = some (lst ys) := old6 _ _ hDC (N₂ (D, lst ys) (.tail _ (.head _))).1
      refine append_at (hsz := by show ys.toArray.size ≤ sizeLine; rw [List.size_toArray, hyl]; exact Nat.le_trans hi hsz) zD fun h₇ hs₇ hD₇ => ?_
      refine ⟨items.size + 1 - (i + 1), by exact Mine.r43 hlt, h₇, _, i + 1, ys ++ [v₃], oC6, _, rfl, hlt, rfl, by rw [List.length_append, List.length_singleton, hyl], fun j v hj => ?_, ?_, F₆.change hs₇ hDL hD₀, hoC6, fun p hp => ?_⟩
      · by_cases hlt2 : j < ys.length
        · rw [List.getElem?_append_left hlt2] at hj
          exact hrl j v hj
        · rw [List.getElem?_append_right (by exact Mine.r1 hlt2)] at hj
          have hj0 : j - ys.length = 0 := by
            rcases Nat.eq_zero_or_pos (j - ys.length) with h | h
            · exact h
            · rw [List.getElem?_eq_none (by simp only [List.length_singleton]; exact h)] at hj; cases hj
          rw [hj0] at hj
          have : v₃ = v := by simpa using hj
          subst this
          have : j = i := by exact Mine.r41 hyl hj0 hlt2
          subst this
          exact hv₃
      · exact S1.stay _ _ _ _ () hst₆ (old6 _ _ hIC heI2) (hs₇.extBut _ _ hID (old6 _ _ hIC heI2)) (F₆.change hs₇ hDL hD₀).keep (fun p hp => ⟨hs₇.extBut _ _ (oD9 p hp) (old6 _ _ (oC9 p hp) (N₂ p (.tail _ (.tail _ hp))).1), (N₂ p (.tail _ (.tail _ hp))).2⟩)
      · rcases List.mem_cons.mp hp with rfl | hp
        · exact ⟨hs₇.extBut _ _ (Ne.symm hDC) heC6, hCL, hC₀⟩
        rcases List.mem_cons.mp hp with rfl | hp
        · exact ⟨hD₇.trans (congrArg some (lst_snoc ys v₃)), hDL, hD₀⟩
        · exact ⟨hs₇.extBut _ _ (oD9 p hp) (old6 _ _ (oC9 p hp) (N₂ p (.tail _ (.tail _ hp))).1), (N₂ p (.tail _ (.tail _ hp))).2⟩
    · obtain rfl : i = items.size := Nat.le_antisymm hi (Nat.not_lt.mp hlt)
      refine W.done _ _ _ hst' fun h₂ tk₂ hk₂ => ?_
      have N₂ := LCg.news_but N' hk₂ offN
      exact hRR D C h₂ tk₂ m' ys (LCg.fr_but F' hk₂ hIL hI0) (fun p hp => N₂ p (.tail _ hp)) oD9 (hoC'.ns (N₂ _ (.head _)).1) hC₀ hCL (Ne.symm hDC) oC9 hyl hrl
  exact codeAny_compStart_list (loop _ rfl) (W.self 0 _ _ _ hst1 (loop _ rfl))
theorem comp3_eval {Q : Value → Shared → Prop} {hF : Heap} (_F : Fr h₀ L hF m)
    (hclos : closureFor scope env = pure cl) (hcell : ∀ z ∈ scope.names, z.2 ≠ .cell) (hkind : scope.kind = .function) (hnames : ∀ z ∈ scope.names, z.2 = .local → scope.names.lookup z.1 = some .local) (hx : scope.names.lookup x = some .local) (hy : scope.names.lookup y = some .local) (hz : scope.names.lookup z = some .local) (hzd : (z == ("__debug__" : Str)) = false) (hh : A.handled = none)
    (h : wpAny (model prog w) A (eval i1 env) (fun xv s₁ => ∃ (D0 : Addr) (items : Array Value) (c : Nat) (news : List (Addr × Obj)) (Rl : Nat → Value → Prop), xv = .ref D0 ∧ (D0, W.listOf items c) ∈ news ∧ items.size ≤ sizeLine ∧ Fr h₀ L s₁.heap m ∧ News h₀ L s₁.heap news ∧
      (∀ i v, items[i]? = some v → TripAt news (Rl i) v) ∧
      ∀ s₂ : Shared, (∃ g, s₂ = { s₁ with heap := g }) → ∀ ys : List Value, ys.length = items.size → (∀ j v, ys[j]? = some v → Rl j v) → FinE h₀ L m s₂ Q ys news) E s)
    (hs : ∀ z, foldedSetIterable i1 env z = pure z := by intro _; rfl) :
    wpAny (model prog w) A (eval (comp3E x y z px py pz p0 tp kk i1 scope pos) env) Q E s := by
  rw [eval_ListComp]
  refine wpAny_comprehension_free (use := none) rfl hs hclos hkind hnames (wpAny_mono h (fun xv s₁ h₁ => ?_) fun _ _ e => e)
  obtain ⟨D0, items, c, news, Rl, rfl, hD0, hsz, F, N, hT, fin⟩ := h₁
  refine pyIter_list9 F N hD0 fun I h' F1 N1 off hIL hI0 hst hne => ?_
  refine block3 (src_list9 hh hne fun _ => ⟨c, hD0⟩) hh hsz hT hcell hkind hx hy hz hzd hst F1 N1 hIL hI0 off ?_
  intro D C h tk m' ys F' N' o5 hn hC₀ hCL hCD offC hyl hrl
  refine ⟨m', hn, fun h'' hs'' => fin _ ⟨h', rfl⟩ ys hyl hrl D h'' tk (F'.change hs'' hCL hC₀) (fun p hp => ?_) ?_⟩
  · refine ⟨hs''.extBut _ _ ?_ (N' p hp).1, (N' p hp).2⟩
    rcases List.mem_cons.mp hp with rfl | hp
    · exact Ne.symm hCD
    · exact offC p hp
  · exact off1_of o5
end
end Mine
end
section
open PySem PySem.W PyProof.Rows PySem.Spec PySem.Calls
set_option maxRecDepth 100000
namespace Mine
theorem strs_app {a b : List Value} {x y : List Str} (h : StrsAre a x) (k : StrsAre b y) : StrsAre (a ++ b) (x ++ y) := h.append' k
theorem MOk.next {w : World} {FX : List Addr} {back : List Wd} {d : DM} {n : Nat} {a : Wd} {o : Option Bool} {vals lv' : List Value} {ns : List Nat} {z lz' : Nat} {D5 : Addr} {oM3 o3n : Obj} {uS uI uH uW : Option Value} {t : Tok} (M : MOk w FX back d n) (h : lawU[n]? = some a) (hb : ∀ v ∈ back, Is1 v)
    (ho : o = wb ((runsW W0 back).2 a)) (hp : ns.Perm (hits a (runsW W0 back).1 0)) (hi : IntsAre vals (ns.map Int.ofNat)) (hdict : oM3.IsDictOf (PySem.strKind P7 w) (kvsM d.ks ++ [(wordStr a, .ref D5)])) (hoff : ∀ b ∈ FX, b ≠ D5) (hk : ∀ e ∈ d.ks, e.a ≠ D5)
    (hlv : lv' = match o with | none => d.lv | some b => d.lv ++ [.str (wordStr (a ++ [b])) t]) (hc : ∃ c, o3n.data = .cell c) : MOk w FX back ⟨lv', lz', oM3, o3n, d.ks ++ [⟨a, D5, vals, z, ns⟩], uS, uI, uH, uW⟩ (n + 1) := by
  have hw := wait_is hb ho
  refine ⟨?_, ?_, ?_, ?_, ?_, ?_, hc⟩
  · rw [List.map_append, M.words, take_next h]; rfl
  · dsimp only [kvsM]
    rw [List.map_append]; exact hdict
  · intro e he
    rcases List.mem_append.mp he with he | he
    · exact M.each e he
    · rw [List.mem_singleton.mp he]; exact ⟨hp, hi⟩
  · intro e he b hb
    rcases List.mem_append.mp he with he | he
    · exact M.off e he b hb
    · rw [List.mem_singleton.mp he]; exact hoff b hb
  · rw [List.map_append, List.nodup_append]
    refine ⟨M.adds, by simp, fun x hx y hy => ?_⟩
    obtain ⟨e, he, rfl⟩ := List.mem_map.mp hx
    simp only [List.map_cons, List.map_nil, List.mem_singleton] at hy
    rw [hy]; exact hk e he
  · dsimp only
    rw [take_next h, List.filterMap_append, List.map_append]
    cases o with
    | none =>
      have e : ([a].filterMap (runsW W0 back).2) = [] := by
        rw [List.filterMap_cons, hw]; rfl
      rw [e, hlv, List.map_nil, List.append_nil]
      exact M.left
    | some b =>
      have e : ([a].filterMap (runsW W0 back).2) = [a ++ [b]] := by
        rw [List.filterMap_cons, hw]; rfl
      rw [e, hlv]
      exact strs_app M.left (.cons _ _ .nil)
section
variable {a1 a2 a3 a4 a5 a6 a7 a8 a9 a10 a11 a12 a13 a14 a15 a16 b1 b2 b3 : Addr × Obj} {T XG : List (Addr × Obj)} {ks : List ME} {e : ME}
theorem permW (h : lME e = b3) : ∀ q ∈ a1 :: a2 :: a3 :: a4 :: a5 :: a6 :: a7 :: a8 :: a9 :: a10 :: a11 :: a12 :: a13 :: a14 :: a15 :: a16 :: (XG ++ (ks ++ [e]).map lME), q ∈ b1 :: b2 :: b3 :: a1 :: a2 :: a3 :: a4 :: a5 :: a6 :: a7 :: a8 :: a9 :: a10 :: a11 :: a12 :: a13 :: a14 :: a15 :: a16 :: (T ++ (XG ++ ks.map lME)) := fun q hq => by
  rcases List.mem_append.mp (show q ∈ [a1, a2, a3, a4, a5, a6, a7, a8, a9, a10, a11, a12, a13, a14, a15, a16] ++ (XG ++ (ks ++ [e]).map lME) from hq) with hq | hq
  · exact List.mem_append_left (T ++ (XG ++ ks.map lME)) (.tail b1 (.tail b2 (.tail b3 hq)))
  · have right : ∀ {q}, q ∈ XG ++ ks.map lME → q ∈ b1 :: b2 :: b3 :: a1 :: a2 :: a3 :: a4 :: a5 :: a6 :: a7 :: a8 :: a9 :: a10 :: a11 :: a12 :: a13 :: a14 :: a15 :: a16 :: (T ++ (XG ++ ks.map lME)) := fun {q} hq =>
      List.mem_append_right [b1, b2, b3, a1, a2, a3, a4, a5, a6, a7, a8, a9, a10, a11, a12, a13, a14, a15, a16] (List.mem_append_right T hq)
    rcases List.mem_append.mp hq with hq | hq
    · exact right (List.mem_append_left _ hq)
    · rw [List.map_append] at hq
      rcases List.mem_append.mp hq with hq | hq
      · exact right (List.mem_append_right _ hq)
      · rw [List.mem_singleton.mp hq]; rw [h]; exact .tail _ (.tail _ (.head _))
theorem snocW : ∀ q ∈ a1 :: a2 :: a3 :: a4 :: a5 :: a6 :: a7 :: a8 :: a9 :: a10 :: a11 :: a12 :: a13 :: a14 :: a15 :: (XG ++ (ks ++ [e]).map lME), q = lME e ∨ q ∈ a1 :: a2 :: a3 :: a4 :: a5 :: a6 :: a7 :: a8 :: a9 :: a10 :: a11 :: a12 :: a13 :: a14 :: a15 :: (XG ++ ks.map lME) := fun q hq => by
  rcases List.mem_append.mp (show q ∈ [a1, a2, a3, a4, a5, a6, a7, a8, a9, a10, a11, a12, a13, a14, a15] ++ (XG ++ (ks ++ [e]).map lME) from hq) with hq | hq
  · exact .inr (List.mem_append_left (XG ++ ks.map lME) hq)
  · rcases List.mem_append.mp hq with hq | hq
    · exact .inr (List.mem_append_right [a1, a2, a3, a4, a5, a6, a7, a8, a9, a10, a11, a12, a13, a14, a15] (List.mem_append_left _ hq))
    · rw [List.map_append] at hq
      rcases List.mem_append.mp hq with hq | hq
      · exact .inr (List.mem_append_right [a1, a2, a3, a4, a5, a6, a7, a8, a9, a10, a11, a12, a13, a14, a15] (List.mem_append_right _ hq))
      · exact .inl (List.mem_singleton.mp hq)
theorem skipW {w i t : Addr × Obj} {X : List (Addr × Obj)} : ∀ q ∈ a1 :: a2 :: a3 :: a4 :: a5 :: a6 :: a7 :: a8 :: a9 :: a10 :: a11 :: a12 :: t :: X, q ∈ a1 :: a2 :: a3 :: a4 :: a5 :: a6 :: a7 :: a8 :: a9 :: a10 :: a11 :: a12 :: w :: i :: t :: X := fun q hq => by
  rcases List.mem_append.mp (show q ∈ [a1, a2, a3, a4, a5, a6, a7, a8, a9, a10, a11, a12] ++ (t :: X) from hq) with hq | hq
  · exact List.mem_append_left (w :: i :: t :: X) hq
  · exact List.mem_append_right [a1, a2, a3, a4, a5, a6, a7, a8, a9, a10, a11, a12] (.tail _ (.tail _ hq))
end
end Mine
end
section
open PySem PySem.W PyProof.Rows PySem.Spec PySem.Calls
set_option maxRecDepth 100000
namespace Mine
noncomputable def dueW (ks : List ME) : List (Nat × Nat × Wd) := ks.flatMap fun e => e.ns.map fun i => (i, e.w.length, e.w)
noncomputable def dueS (ks : List ME) : List (Nat × Nat × Str) := ks.flatMap fun e => e.ns.map fun i => (i, e.w.length, wordStr e.w)
theorem dueS_map (ks : List ME) : dueS ks = (dueW ks).map fun p => (p.1, p.2.1, wordStr p.2.2) := by
  unfold dueS dueW
  rw [List.map_flatMap]
  congr 1
  funext e
  rw [List.map_map]
  rfl
theorem dueS_snoc (ks : List ME) (e : ME) : dueS (ks ++ [e]) = dueS ks ++ e.ns.map fun i => (i, e.w.length, wordStr e.w) := by
  unfold dueS
  rw [List.flatMap_append]
  simp
theorem dueS_take (ks : List ME) (i : Nat) : (dueS (ks.take i)).length ≤ (dueS ks).length := by
  have : dueS ks = dueS (ks.take i) ++ dueS (ks.drop i) := by unfold dueS; rw [← List.flatMap_append, List.take_append_drop]
  rw [this, List.length_append]; exact Nat.le_add_right _ _
theorem due_perm {ks : List ME} {cs : List (List Wd)} (hw : ks.map (·.w) = lawU) (he : ∀ e ∈ ks, e.ns.Perm (hits e.w cs 0)) (h1 : DescAll cs) (h2 : ∀ c ∈ cs, ∀ x ∈ c, x ∈ lawU) : (dueW ks).Perm (trip cs 0) := by
  refine List.Perm.trans ?_ (trip_perm h1 h2)
  rw [← hw, List.flatMap_map]
  exact flat_perm fun e h => (he e h).map _
theorem strict_key {α : Type} {key : α → Nat} {l : List α} (h : l.Pairwise fun a b => key a < key b) {x y : α} (hx : x ∈ l) (hy : y ∈ l) (e : key x = key y) : x = y := by
  induction l with
  | nil => cases hx
  | cons a r ih =>
    have h' := List.pairwise_cons.mp h
    rcases List.mem_cons.mp hx with ex | hx
    · rcases List.mem_cons.mp hy with ey | hy
      · rw [ex, ey]
      · have := h'.1 y hy; rw [ex] at e; exact (Mine.r24 this e).elim
    · rcases List.mem_cons.mp hy with ey | hy
      · have := h'.1 x hx; rw [ey] at e; exact (Mine.r23 this e).elim
      · exact ih h'.2 hx hy
theorem step_asked {hs : Wd → Wd} {c : CSt} : (cstep hs c).asked.length + csize (cstep hs c) ≤ c.asked.length + csize c := by
  by_cases h : c.todo = []
  · rw [cstep_nil h]; exact Nat.le_refl _
  · have h1 := cstep_less (hs := hs) h
    have h2 : (cstep hs c).asked.length = c.asked.length + 1 := by
      unfold cstep
      rw [List.getLast?_eq_some_getLast h]
      dsimp only
      split
      · simp
      · split <;> simp
    exact Mine.r332 h1 h2
theorem runs_asked {hs : Wd → Wd} : ∀ (n : Nat) (c : CSt), (cruns hs n c).asked.length ≤ c.asked.length + csize c
  | 0, c => Nat.le_add_right _ _
  | n + 1, c => by
    rw [cruns]
    exact Nat.le_trans (runs_asked n _) step_asked
theorem due_len {ks : List ME} {back : List Wd} (hw : ks.map (·.w) = lawU) (he : ∀ e ∈ ks, e.ns.Perm (hits e.w (runsW W0 back).1 0)) (h : ∀ v ∈ back, Is1 v ∧ v.length ≤ 4) : (dueW ks).length ≤ 2 * back.length := by
  obtain ⟨h1, h2⟩ := runs_U h
  have e1 := (due_perm hw he h1 h2).length_eq
  have e2 := congrArg List.length (trip_words (cs := (runsW W0 back).1) (k := 0))
  rw [List.length_map] at e2
  have e3 := congrArg List.length (fin_runs back [] [] (fun v hv => (h v hv).1) (fun _ _ z => nomatch z)).1
  rw [List.nil_append] at e3
  have e4 := runs_asked (hs := List.dropLast) (csize ⟨back.reverse, [], []⟩) ⟨back.reverse, [], []⟩
  have e5 : (cfin List.dropLast ⟨back.reverse, [], []⟩).asked.length ≤ 2 * back.length := by
    refine Nat.le_trans e4 ?_
    simp [csize]
  rw [e1, e2]
  refine Nat.le_trans (Nat.le_of_eq ?_) e5
  rw [e3]
  rfl
theorem due_low {ks : List ME} (hw : ks.map (·.w) = lawU) : ∀ p ∈ dueW ks, 1 ≤ p.2.1 ∧ p.2.1 ≤ 4 := fun p hp => by
  obtain ⟨e, he, hp⟩ := List.mem_flatMap.mp hp
  obtain ⟨i, _, rfl⟩ := List.mem_map.mp hp
  have : e.w ∈ lawU := by rw [← hw]; exact List.mem_map_of_mem he
  have := is1_lawU this
  exact ⟨List.length_pos_iff.mpr this.1.ne, this.2⟩
theorem due_uniq {ks : List ME} {back : List Wd} (hw : ks.map (·.w) = lawU) (he : ∀ e ∈ ks, e.ns.Perm (hits e.w (runsW W0 back).1 0)) (h : ∀ v ∈ back, Is1 v ∧ v.length ≤ 4) : ∀ d ∈ dueS ks, ∀ e ∈ dueS ks, d.1 = e.1 → d.2.1 = e.2.1 → d = e := by
  obtain ⟨h1, h2⟩ := runs_U h
  have p := due_perm hw he h1 h2
  have st := trip_strict (k := 0) h1 fun c hc x hx => by
    have := is1_lawU (h2 c hc x hx)
    exact ⟨List.length_pos_iff.mpr this.1.ne, this.2⟩
  intro d hd e he e1 e2
  rw [dueS_map] at hd he
  obtain ⟨x, hx, rfl⟩ := List.mem_map.mp hd
  obtain ⟨y, hy, rfl⟩ := List.mem_map.mp he
  dsimp only at e1 e2
  rw [strict_key st (p.mem_iff.mp hx) (p.mem_iff.mp hy) (by unfold key3; rw [e1, e2])]
theorem map_pre {α β : Type} {f : α → β} {m : List α} {l : List β} (h : l.Perm (m.map f)) : ∃ r : List α, r.Perm m ∧ l = r.map f := by
  have g : ∀ m : List α, Rel2 (fun a b => a = f b) (m.map f) m := by
    intro m
    induction m with
    | nil => exact .nil
    | cons a r ih => exact .cons rfl ih
  obtain ⟨r, hr, hrel⟩ := Rel2.perm h.symm (g m)
  refine ⟨r, hr, ?_⟩
  clear h hr
  induction hrel with
  | nil => rfl
  | cons e _ ih => rw [List.map_cons, e, ih]
theorem due_asked {ks : List ME} {back : List Wd} {es : List (Nat × Nat × Str)} (hw : ks.map (·.w) = lawU) (he : ∀ e ∈ ks, e.ns.Perm (hits e.w (runsW W0 back).1 0)) (h : ∀ v ∈ back, Is1 v ∧ v.length ≤ 4)
    (hp : es.Perm (dueS ks)) (hs : es.Pairwise fun a b => a.1 * 16 + (16 - a.2.1) ≤ b.1 * 16 + (16 - b.2.1)) : es.map (fun p => p.2.2) = ((cfin List.dropLast ⟨back.reverse, [], []⟩).asked).map wordStr := by
  obtain ⟨h1, h2⟩ := runs_U h
  rw [dueS_map] at hp
  obtain ⟨ew, q1, rfl⟩ := map_pre hp
  rw [List.pairwise_map] at hs
  have e : ew = trip (runsW W0 back).1 0 := by
    refine perm_strict (key := key3) (q1.trans (due_perm hw he h1 h2)) hs (trip_strict h1 fun c hc x hx => ?_)
    have := is1_lawU (h2 c hc x hx)
    exact ⟨List.length_pos_iff.mpr this.1.ne, this.2⟩
  rw [List.map_map, show ((fun p : Nat × Nat × Str => p.2.2) ∘ fun p : Nat × Nat × Wd => (p.1, p.2.1, wordStr p.2.2)) = wordStr ∘ fun p => p.2.2 from rfl, ← List.map_map, e, trip_words, (fin_runs back [] [] (fun v hv => (h v hv).1) (fun _ _ z => nomatch z)).1, List.nil_append]
  rfl
section
variable {prog : Program} {w : World} {K : Type} [DecidableEq K] {knd : KeyKind prog w K} {D : Addr} {o : Obj} {kvs : List (K × Value)}
theorem dict_at (h : o.IsDictOf knd kvs) : ∃ ep, ∀ g : Heap, g.get? D = some o → g.DictAt knd D kvs ep := by
  obtain ⟨es, ep, r⟩ := h
  exact ⟨ep, fun g hg => ⟨o, es, hg, r⟩⟩
end
theorem str_key {prog : Program} {w : World} {k : Str} {v : Value} (h : (PySem.strKind prog w).is k v = true) : ∃ t, v = .str k t := by
  cases v with
  | str x t =>
    have : x = k := by simpa [PySem.strKind, Value.isStrOf] using h
    exact ⟨t, by rw [this]⟩
  | _ => simp [PySem.strKind, Value.isStrOf] at h
inductive StopIf : Prop where
  | mk : StopIf
noncomputable def TupO (o : Obj) : Prop := o.cls = .type "tuple" ∧ ∃ xs n, o.data = .seq xs n
section
variable {a1 a2 a3 a4 a5 a6 a7 a8 a9 a10 a11 a12 a13 a14 a15 a16 a17 a18 b1 n : Addr × Obj} {T X : List (Addr × Obj)}
theorem rotT18 : ∀ q ∈ a1 :: a2 :: a3 :: a4 :: a5 :: a6 :: a7 :: a8 :: a9 :: a10 :: a11 :: a12 :: a13 :: a14 :: a15 :: a16 :: a17 :: a18 :: ((n :: T) ++ X), q ∈ n :: a1 :: a2 :: a3 :: a4 :: a5 :: a6 :: a7 :: a8 :: a9 :: a10 :: a11 :: a12 :: a13 :: a14 :: a15 :: a16 :: a17 :: a18 :: (T ++ X) := fun _ hq => (List.perm_middle (l₁ := [a1, a2, a3, a4, a5, a6, a7, a8, a9, a10, a11, a12, a13, a14, a15, a16, a17, a18]) (l₂ := T ++ X) (a := n)).mem_iff.mp hq
theorem insT15 : ∀ q ∈ a1 :: a2 :: a3 :: a4 :: a5 :: a6 :: a7 :: a8 :: a9 :: a10 :: a11 :: a12 :: a13 :: a14 :: a15 :: ((n :: T) ++ X), q = n ∨ q ∈ a1 :: a2 :: a3 :: a4 :: a5 :: a6 :: a7 :: a8 :: a9 :: a10 :: a11 :: a12 :: a13 :: a14 :: a15 :: (T ++ X) := fun _ hq => List.mem_cons.mp ((List.perm_middle (l₁ := [a1, a2, a3, a4, a5, a6, a7, a8, a9, a10, a11, a12, a13, a14, a15]) (l₂ := T ++ X) (a := n)).mem_iff.mp hq)
theorem split13 : ∀ q ∈ a1 :: a2 :: a3 :: a4 :: a5 :: a6 :: a7 :: a8 :: a9 :: a10 :: a11 :: a12 :: a13 :: (T ++ X), q ∈ T ∨ q ∈ a1 :: a2 :: a3 :: a4 :: a5 :: a6 :: a7 :: a8 :: a9 :: a10 :: a11 :: a12 :: a13 :: X := fun q hq => by
  rcases List.mem_append.mp (show q ∈ [a1, a2, a3, a4, a5, a6, a7, a8, a9, a10, a11, a12, a13] ++ (T ++ X) from hq) with hq | hq
  · exact .inr (List.mem_append_left X hq)
  · exact (List.mem_append.mp hq).elim (fun k => .inl k) fun k => .inr (List.mem_append_right [a1, a2, a3, a4, a5, a6, a7, a8, a9, a10, a11, a12, a13] k)
theorem split14 : ∀ q ∈ a1 :: a2 :: a3 :: a4 :: a5 :: a6 :: a7 :: a8 :: a9 :: a10 :: a11 :: a12 :: a13 :: a14 :: (T ++ X), q ∈ T ∨ q ∈ a1 :: a2 :: a3 :: a4 :: a5 :: a6 :: a7 :: a8 :: a9 :: a10 :: a11 :: a12 :: a13 :: a14 :: X := fun q hq => by
  rcases List.mem_append.mp (show q ∈ [a1, a2, a3, a4, a5, a6, a7, a8, a9, a10, a11, a12, a13, a14] ++ (T ++ X) from hq) with hq | hq
  · exact .inr (List.mem_append_left X hq)
  · exact (List.mem_append.mp hq).elim (fun k => .inl k) fun k => .inr (List.mem_append_right [a1, a2, a3, a4, a5, a6, a7, a8, a9, a10, a11, a12, a13, a14] k)
theorem skip14 : ∀ q ∈ a1 :: a2 :: a3 :: a4 :: a5 :: a6 :: a7 :: a8 :: a9 :: a10 :: a11 :: a12 :: a13 :: a14 :: X, q ∈ a1 :: a2 :: a3 :: a4 :: a5 :: a6 :: a7 :: a8 :: a9 :: a10 :: a11 :: a12 :: a13 :: a14 :: (T ++ X) := fun q hq => by
  rcases List.mem_append.mp (show q ∈ [a1, a2, a3, a4, a5, a6, a7, a8, a9, a10, a11, a12, a13, a14] ++ X from hq) with hq | hq
  · exact List.mem_append_left (T ++ X) hq
  · exact List.mem_append_right [a1, a2, a3, a4, a5, a6, a7, a8, a9, a10, a11, a12, a13, a14] (List.mem_append_right T hq)
end
theorem strs_rel : ∀ {ys : List Value} {xs : List Str}, ys.length = xs.length → (∀ (j : Nat) v, ys[j]? = some v → ∃ t, (xs[j]?).map (fun x => Value.str x t) = some v) → StrsAre ys xs
  | [], [], _, _ => .nil
  | y :: ys, x :: xs, hl, h => by
    obtain ⟨t, e⟩ := h 0 y rfl
    have e' : Value.str x t = y := by simpa using e
    subst e'
    exact .cons _ t (strs_rel (by simpa using hl) fun j v hj => h (j + 1) v (by simpa using hj))
theorem head_tri {h₀ h : Heap} {L A : Addr} {n k : Int} {tn tz t8 : Tok} {x : Str} {r : List (Addr × Obj)} (N : News h₀ L h ((A, { cls := .type "tuple", data := .seq #[.int n tn, .int k tz, .str x t8] }) :: r)) : ∃ o : Obj, o.cls = .type "tuple" ∧ o.data = .seq #[.int n tn, .int k tz, .str x t8] 0 ∧ News h₀ L h ((A, o) :: r) := ⟨_, rfl, rfl, N⟩
theorem words_strOk7 {l : List Wd} : ∀ x ∈ l.map wordStr, PyData.strOk x = true := fun x hx => by
  obtain ⟨v, _, rfl⟩ := List.mem_map.mp hx
  exact word_ok v
theorem TripleAt.up {a b : List (Addr × Obj)} (h : ∀ p ∈ a, p ∈ b) {v : Value} {d : Nat × Nat × Str} (x : TripleAt a v d) : TripleAt b v d := by
  obtain ⟨t, o, t1, t2, u, n, e1, e2, r⟩ := x
  exact ⟨t, o, t1, t2, u, n, e1, h _ e2, r⟩
section
variable {prog : Program} {w : World} {A : Around} {E : Value → Shared → Prop} {s s1 : Shared} {env : Env} {tg : Expr} {body : List Stmt} {Q : Flow → Shared → Prop} {h₀ : Heap} {L : Addr} {δ : Type}
noncomputable def Sh.TurnEnd (T : Flow → Shared → Prop) (f : Flow) (s' : Shared) : Prop := T f s'
theorem over_srcQ (mF : δ → Str → Option Value) (LED : δ → List (Addr × Obj)) (P : Addr → Nat → δ → Prop) (d0 : δ) {I : Addr} {n : Nat} {P1 : Nat → Value → Prop} {St : Nat → Heap → Prop} {m : Str → Option Value} {news : List (Addr × Obj)}
    (S : Src9 prog w A h₀ L LED I n P1 St) (F : Fr h₀ L s.heap m) (N : News h₀ L s.heap news) (off : ∀ p ∈ news, p.1 ≠ I) (hIL : L ≠ I) (hI0 : h₀.get? I = none) (hst : St 0 s.heap)
    (hs : ∃ h tk, s = { s1 with heap := h, toks := tk }) (hm : ∀ y, mF d0 y = m y) (hl : ∀ p ∈ LED d0, p ∈ news) (hP : P I 0 d0)
    (hgo : ∀ i v (s : Shared) (Q : Unit → Shared → Prop) (E : Value → Shared → Prop), P1 i v → St (i + 1) s.heap → Q () s → wpAny (model prog w) A (letOwnedTupleGo tg (.ref I) v) Q E s)
    (turn : ∀ (T' : Flow → Shared → Prop) (E' : Value → Shared → Prop), PassesOwn (model prog w) A env E' → ∀ oI i d h tk v, i < n → P1 i v → Fr h₀ L h (mF d) → News h₀ L h ((I, oI) :: LED d) → (∀ p ∈ LED d, p.1 ≠ I) → P I i d → (∀ f s', TurnEnd h₀ L s1 mF LED P I oI (i + 1) Q f s' → T' f s') →
      wpAny (model prog w) A (assign tg env v) (fun _ s₂ => wpAny (model prog w) A (execs body env) (Sh.TurnEnd T') E' s₂) E' { s1 with heap := h, toks := tk })
    (fin : ∀ d h tk, Fr h₀ L h (mF d) → News h₀ L h (LED d) → P I n d → wpAny (model prog w) A (execs [] env) Q E { s1 with heap := h, toks := tk })
    (hE : PassesOwn (model prog w) A env E) :
    codeAny (model prog w) A (.forLoop tg (.ref I) body [] env) (fun r s' => match r with | .ok f => Q f s' | .error e => cameBackBy (model prog w) A env E e s') s :=
  over_src mF LED P d0 S F N off hIL hI0 hst hs hm hl hP hgo (fun oI i d h tk v a b c e f g => turn (TurnEnd h₀ L s1 mF LED P I oI (i + 1) Q) E hE oI i d h tk v a b c e f g (fun _ _ z => z)) fin hE
end
inductive StopEx : Prop where
  | mk : StopEx
theorem gen_post {M : Model} {A : Around} {E : Value → Shared → Prop} {s : Shared} {α : Type} {t : Sem α} {Q : α → Shared → Prop} {env : Env} (hE : PassesOwn M A env E) (hM : ∀ v, PassesOwnAt M (A.mark v) A env E)
    (h : ∀ (Q' : α → Shared → Prop) (E' : Value → Shared → Prop), PassesOwn M A env E' → (∀ v, PassesOwnAt M (A.mark v) A env E') → (∀ v s', Q v s' → Q' v s') → wpAny M A t Q' E' s) : wpAny M A t Q E s := h Q E hE hM fun _ _ z => z
end Mine
end
section
open PySem PySem.W PyProof.Rows
set_option maxRecDepth 100000
local macro_rules | `(tactic| walk_at "mine pad") => `(tactic| k_all)
local macro_rules | `(tactic| walk_at "mine pad") => `(tactic| k_all)
local macro_rules | `(tactic| walk_at "mine pad") => `(tactic| k_all)
local macro_rules | `(tactic| walk_at "exec For Name Call cons nil") => `(tactic| kwk_ne)
local macro_rules | `(tactic| walk_at "pyIter ref") => `(tactic| ((with_reducible show wpAny _ _ (pyIter _) (fun it s₂ => PySem.codeAny _ _ _ _ _) _ _); kwk_ne))
local macro_rules | `(tactic| walk_at "binaryOp Pow int int") => `(tactic| kwk_ne)
local macro_rules | `(tactic| walk_at "subscriptTail") => `(tactic| ((with_reducible show wpAny _ _ (subscriptTail _ _ (Value.str _ _) (Value.int _ _)) _ _ _); kwk_ne))
local macro_rules | `(tactic| walk_at "TurnEnd") => `(tactic| kwk_ne)
namespace Mine
theorem fr_ab8 {h₀ h : Heap} {L : Addr} {a b : Str} {f g : Str → Option Value} (F : Fr h₀ L h f) (ha : g a = f a) (hb : g b = f b) (ho : ∀ y, y ≠ a → y ≠ b → g y = f y) : Fr h₀ L h g := fr_ext F fun y => by
  by_cases h1 : y = a
  · rw [h1, ha]
  by_cases h2 : y = b
  · rw [h2, hb]
  exact ho y h1 h2
theorem fr_two_eq8 {a b y : Str} {m : Str → Option Value} : (if y = a then m a else if y = b then m b else m y) = m y := by
  by_cases h1 : y = a
  · rw [if_pos h1, h1]
  rw [if_neg h1]
  by_cases h2 : y = b
  · rw [if_pos h2, h2]
  rw [if_neg h2]
set_option maxHeartbeats 8000000 in
set_option pp.deepTerms false in
set_option pp.deepTerms.threshold 8 in
theorem word07 (w : World) {mean : ExcName → Option Value} {mg mb : Str → Option Value} {x : Int} {t : Tok} {dp un : Nat} {gd : Option (List Code)} {env : Env} {outer : List Env} {A₀ : Around} {base h₀ : Heap} {L : Addr} {m : Str → Option Value}
    {rest : List (Addr × Obj)} {s : Shared} {Q E : Value → Shared → Prop} {loose : List Str} {pgm : Program}
    (B : Below A₀ base outer h₀) (F : Fr h₀ L s.heap m) (X : (hd.heap_1 w.params).In h₀) (N : News h₀ L s.heap rest) (T : Top pgm loose mean mg mb h₀) (hfX : env.frame = some L) (hk : env.scope.kind = .function)
    (hdp : dp + 30 < recursionLimit) (hu : un + 1000 < cLine)
    (rS : ∀ (h' : Heap) (tk' : Nat) (v : Wd) (t' : Tok), Fr h₀ L h' m → News h₀ L h' rest → (∃ r : Wd, v = true :: r) → v.length ≤ 4 → Q (.str (wordStr v) t') { s with heap := h', toks := tk' }) :
    wpAny (model P7 w) (atN dp un gd env outer) (call (.ref 599) [.int x t]) Q E s := by
  have hq : PySem.Challenge.rw_km0038_07 = PySem.Challenge.rw_km0038_07 ∧ hd.heap_1 = hd.heap_1 := ⟨rfl, rfl⟩
  revert hq
  k_fill
  intro hq
  w_on
  refine wpAny_call ?_
  k_dflt (refine' PySem.W.code_def ?k1 ?k2 ?k3 ?k4 ?k5 ?kA ?kF ?kK ?k6 ?k7 ?k8 ?k9 ?kB ?_ ?c2 ?c3 ?c4 ?c5; (case kA => exact rfl); (case kF => exact hfX); (case kK => exact hk); (case k1 => k_asm); (case k2 => k_asm); (case k3 => k_asm); (case k4 => k_asm); (case k5 => k_asm); (case k6 => k_is); (case k7 => k_is); (case k8 => k_room); (case k9 => first | exact BindsTo.of_eq rfl | exact binds_K (by k_in) rfl (by k_is) rfl rfl rfl); (case c5 => decide); (case kB => exact locs rfl); (case c2 => exact rfl); (case c3 => exact rfl); (case c4 => exact rfl); k_whole; intro g' L' h' FG' F' N' B' X' T'; (try dsimp only); (try k_lift B'); (try k_fold))
  w_strict k_steps
  unfold Stop
  refine wpAny_For ?_
  w_strict k_steps
  unfold Stop
  rename Fr g' L' _ _ => F1
  rename News g' L' _ _ => N1
  obtain ⟨n, hn, hn4⟩ : ∃ n : Nat, x.fmod 4 = (n : Int) ∧ n < 4 := ⟨(x.fmod 4).toNat, by have := Int.fmod_nonneg_of_pos x (b := 4) (by decide); lia, by have := Int.fmod_lt_of_pos x (b := 4) (by decide); have := Int.fmod_nonneg_of_pos x (b := 4) (by decide); lia⟩
  rename IsRange _ _ _ _ _ _ _ _ => hR
  rw [hn] at hR
  obtain ⟨m₀, hm₀, F1b⟩ := fr_name F1
  have h2 : Builtin.Range.small 0 n 1 = true ∧ Builtin.Range.rangeSize 0 n 1 = n := small63 (Nat.lt_trans hn4 (by decide))
  refine over_range (s1 := s) (fun (d : Option Value × Option Value) y => if y = Str.ofString "turn" then d.1 else if y = Str.ofString "word" then d.2 else m₀ y) (fun _ => rest)
    (fun _ i d => ∃ (r : Wd) (t : Tok), d.2 = some (.str (wordStr (true :: r)) t) ∧ r.length = i) ⟨m₀ (Str.ofString "turn"), m₀ (Str.ofString "word")⟩ n F1b N1 ⟨_, _, rfl⟩ (fun y => ?hm1) (fun p hp => hp) ?hP1 hR h2.1 h2.2 ?turn1 ?fin1 ?hE1 rfl
  case hE1 => first | passes_own | with_unfolding_all passes_own
  case hm1 => exact fr_two_eq8
  case hP1 =>
    intro _ _
    rw [hm₀]
    exact ⟨[], _, rfl, rfl⟩
  case turn1 =>
    intro I oI i d h tk t0 hi F3 N3 off ⟨r, tr, hd2, hr⟩
    obtain ⟨u, wv⟩ := d
    dsimp only at *
    subst hd2
    refine wpAny_assign_Name ?_
    clear F1 N1 F1b
    subst hm₀
    (try dsimp only)
    w_strict k_steps
    unfold Stop
    refine PyProof.Rows.pow_int_small (by exact Mine.r194) (by exact Mine.r394 hi hn4) (by decide) ?_
    obtain ⟨p, hp, hp0⟩ : ∃ p : Int, p = 2 ^ ((i : Int) + 2).toNat ∧ 0 < p := ⟨_, rfl, Int.pow_pos (by decide)⟩
    rw [← hp]
    have hpz : p ≠ 0 := by exact Mine.r158 hp0
    w_strict k_steps
    have hpl : Builtin.divisionGoesByPylong x p = false := by
      rw [hp]
      have : i = 0 ∨ i = 1 ∨ i = 2 := by exact Mine.r108 hi hn4
      rcases this with e | e | e <;> (rw [e]; exact PyProof.noPylong_of_log2 (by decide +kernel))
    refine floordiv_int hpz ?_ (.inl hpl)
    w_strict k_steps
    unfold Stop
    have hv0 := Int.fmod_nonneg_of_pos (x.fdiv p) (b := 2) (by decide)
    have hv2 := Int.fmod_lt_of_pos (x.fdiv p) (b := 2) (by decide)
    obtain ⟨b, hb⟩ : ∃ b : Bool, Txt.item (Str.ofString "01") ((x.fdiv p).fmod 2) = Str.ofString (if b then "1" else "0") := by
      have : (x.fdiv p).fmod 2 = 0 ∨ (x.fdiv p).fmod 2 = 1 := by exact Mine.r363 hv2 hv0
      rcases this with e | e
      · rw [e]; exact ⟨false, by decide +kernel⟩
      · rw [e]; exact ⟨true, by decide +kernel⟩
    refine item_str (fitsSsize_of (N := 9223372036854775808) (by exact Mine.r267 hv0) (by exact Mine.r237 hv2) (Int.le_refl _)) (by rw [show (Str.ofString "01").length = 2 by decide +kernel]; exact Mine.r245 hv0) (by rw [show (Str.ofString "01").length = 2 by decide +kernel]; exact Mine.r222 hv2) fun _ => ?_
    rw [hb]
    w_strict k_steps
    refine iadd_str (fun t5 tk5 => ?_) (hsz := ?hz5)
    case hz5 => (rw [wordStr_len, sizeLine_eq]; simp only [List.length_cons]; cases b <;> (first | (rw [show (Str.ofString (if false = true then "1" else "0")).length = 1 by decide +kernel]; exact Mine.r109 hi hn4 hr) | (rw [show (Str.ofString (if true = true then "1" else "0")).length = 1 by decide +kernel]; exact Mine.r109 hi hn4 hr)))
    rw [show wordStr (true :: r) ++ Str.ofString (if b then "1" else "0") = wordStr (true :: (r ++ [b])) by (cases b; exact (by simpa using wordStr_snoc (true :: r) false); exact (by simpa using wordStr_snoc (true :: r) true))]
    w_strict k_steps
    unfold Stop
    dsimp only [TurnEnd]
    rename Fr g' L' _ _ => F6
    rename News g' L' _ _ => N6
    exact ⟨⟨_, some (.str (wordStr (true :: (r ++ [b]))) t5)⟩, _, _, rfl, fr_ab8 (a := Str.ofString "turn") (b := Str.ofString "word") F6 (by rfl) (by rfl) (fun y n1 n2 => by simp only [if_neg n1, if_neg n2]), N6, off_same (by rfl) off, r ++ [b], t5, rfl, by rw [List.length_append, hr]; rfl⟩
  case fin1 =>
    intro I d h tk F3 N3 ⟨r, tr, hd2, hr⟩
    obtain ⟨u, wv⟩ := d
    dsimp only at *
    subst hd2
    clear F1 N1 F1b
    subst hm₀
    w_strict k_steps
    rename News h₀ L _ _ => N9
    rename Fr h₀ L _ _ => F9
    exact rS _ _ (true :: r) _ F9 N9 ⟨r, rfl⟩ (by simp only [List.length_cons]; exact Mine.r310 hn4 hr)
end Mine
end
section
open PySem PySem.W PyProof.Rows
set_option maxRecDepth 100000
local macro_rules | `(tactic| walk_at "mine pad") => `(tactic| k_all)
local macro_rules | `(tactic| walk_at "exec For Name Call cons nil") => `(tactic| kwk_ne)
local macro_rules | `(tactic| walk_at "pyIter ref") => `(tactic| ((with_reducible show wpAny _ _ (pyIter _) (fun it s₂ => PySem.codeAny _ _ _ _ _) _ _); kwk_ne))
local macro_rules | `(tactic| walk_at "binaryOp Pow int int") => `(tactic| kwk_ne)
local macro_rules | `(tactic| walk_at "subscriptTail") => `(tactic| ((with_reducible show wpAny _ _ (subscriptTail _ _ (Value.str _ _) (Value.int _ _)) _ _ _); kwk_ne))
local macro_rules | `(tactic| walk_at "exec Assign cons ListComp") => `(tactic| kwk_ne)
local macro_rules | `(tactic| walk_at "End2") => `(tactic| kwk_ne)
local macro_rules | `(tactic| walk_at "pyIter ref") => `(tactic| ((with_reducible show wpAny _ _ (pyIter _) (Mine.Comp2 _ _ _ _ _ _ _ _ _ _ _ _ _ _ _ _) _ _); kwk_ne))
local macro_rules | `(tactic| walk_at "TurnEnd") => `(tactic| kwk_ne)
namespace Mine
theorem fr_two_eq9 {a b y : Str} {m : Str → Option Value} : (if y = a then m a else if y = b then m b else m y) = m y := by
  by_cases h1 : y = a
  · rw [if_pos h1, h1]
  rw [if_neg h1]
  by_cases h2 : y = b
  · rw [if_pos h2, h2]
  rw [if_neg h2]
theorem fr_ab9 {h₀ h : Heap} {L : Addr} {a b : Str} {f g : Str → Option Value} (F : Fr h₀ L h f) (ha : g a = f a) (hb : g b = f b) (ho : ∀ y, y ≠ a → y ≠ b → g y = f y) : Fr h₀ L h g := fr_ext F fun y => by
  by_cases h1 : y = a
  · rw [h1, ha]
  by_cases h2 : y = b
  · rw [h2, hb]
  exact ho y h1 h2
theorem fr_two_eqw {a b y : Str} {v : Option Value} {m : Str → Option Value} (e : m b = v) : (if y = a then m a else if y = b then v else m y) = m y := by rw [← e]; exact fr_two_eq9
theorem small4 {k : Nat} (h : k < 4) : Builtin.Range.small 0 k 1 = true ∧ Builtin.Range.rangeSize 0 k 1 = k := small63 (Nat.lt_trans h (by decide))
noncomputable def End2 (Q : Value → Shared → Prop) (v : Value) (s : Shared) : Prop := Q v s
noncomputable abbrev twos (l : List Wd) : List Wd := l.flatMap fun w => [w ++ [false], w ++ [true]]
theorem twos_len : ∀ l : List Wd, (twos l).length = 2 * l.length
  | [] => rfl
  | a :: r => by
    show (_ ++ twos r).length = _
    rw [List.length_append, twos_len r]
    simp only [List.length_cons, List.length_nil]; exact Mine.r419
theorem lawAll_len : ∀ n : Nat, (lawAll n).length = 2 ^ n
  | 0 => rfl
  | n + 1 => by
    show (twos (lawAll n)).length = _
    rw [twos_len, lawAll_len n, Nat.pow_succ]; exact Mine.r149
theorem lawAll_mem : ∀ (n : Nat) (w : Wd), w ∈ lawAll n → w.length = n + 1
  | 0, w, h => by rw [List.mem_singleton.mp h]; rfl
  | n + 1, w, h => by
    obtain ⟨a, ha, hw⟩ := List.mem_flatMap.mp h
    have := lawAll_mem n a ha
    simp only [List.mem_cons, List.not_mem_nil, or_false] at hw
    rcases hw with rfl | rfl <;> (rw [List.length_append, this]; rfl)
theorem word_add (a : Wd) (b : Bool) : wordStr a ++ wordStr [b] = wordStr (a ++ [b]) := by
  rw [← wordStr_snoc]
  cases b
  · exact congrArg (wordStr a ++ ·) (by decide +kernel : wordStr [false] = Str.ofString "0")
  · exact congrArg (wordStr a ++ ·) (by decide +kernel : wordStr [true] = Str.ofString "1")
theorem twos_snoc {l : List Wd} {a : Wd} : twos (l ++ [a]) = twos l ++ [a ++ [false], a ++ [true]] := by
  show List.flatMap _ _ = _
  rw [List.flatMap_append]; rfl
structure D9 where
  u : Option Value
  D : Addr
  vs : List Value
  z : Nat
set_option maxHeartbeats 8000000 in
set_option pp.deepTerms false in
set_option pp.deepTerms.threshold 8 in
theorem all07 (w : World) {mean : ExcName → Option Value} {mg mb : Str → Option Value} {k : Nat} {t : Tok} {dp un : Nat} {gd : Option (List Code)} {env : Env} {outer : List Env} {A₀ : Around} {base h₀ : Heap} {L : Addr} {m : Str → Option Value}
    {rest : List (Addr × Obj)} {s : Shared} {Q E : Value → Shared → Prop} {loose : List Str} {pgm : Program}
    (B : Below A₀ base outer h₀) (F : Fr h₀ L s.heap m) (X : (hd.heap_1 w.params).In h₀) (N : News h₀ L s.heap rest) (T : Top pgm loose mean mg mb h₀) (hfX : env.frame = some L) (hk : env.scope.kind = .function)
    (hk3 : k < 4) (hdp : dp + 30 < recursionLimit) (hu : un + 1000 < cLine)
    (rS : ∀ (h' : Heap) (tk' : Nat) (D : Addr) (vs : List Value) (z : Nat), Fr h₀ L h' m → News h₀ L h' ((D, W.listOf vs.toArray z) :: rest) → (∀ q ∈ rest, q.1 ≠ D) → StrsAre vs ((lawAll k).map wordStr) → Q (.ref D) { s with heap := h', toks := tk' }) :
    wpAny (model P7 w) (atN dp un gd env outer) (call (.ref 604) [.int ((k + 1 : Nat) : Int) t]) Q E s := by
  have hq : PySem.Challenge.rw_km0038_07 = PySem.Challenge.rw_km0038_07 ∧ hd.heap_1 = hd.heap_1 := ⟨rfl, rfl⟩
  revert hq
  k_fill
  intro hq
  w_on
  refine wpAny_call ?_
  k_dflt (refine' PySem.W.code_def ?k1 ?k2 ?k3 ?k4 ?k5 ?kA ?kF ?kK ?k6 ?k7 ?k8 ?k9 ?kB ?_ ?c2 ?c3 ?c4 ?c5; (case kA => exact rfl); (case kF => exact hfX); (case kK => exact hk); (case k1 => k_asm); (case k2 => k_asm); (case k3 => k_asm); (case k4 => k_asm); (case k5 => k_asm); (case k6 => k_is); (case k7 => k_is); (case k8 => k_room); (case k9 => first | exact BindsTo.of_eq rfl | exact binds_K (by k_in) rfl (by k_is) rfl rfl rfl); (case c5 => decide); (case kB => exact locs rfl); (case c2 => exact rfl); (case c3 => exact rfl); (case c4 => exact rfl); k_whole; intro g' L' h' FG' F' N' B' X' T'; (try dsimp only); (try k_lift B'); (try k_fold))
  w_strict k_steps
  unfold Stop
  refine wpAny_For ?_
  w_strict k_steps
  unfold Stop
  rename Fr g' L' _ _ => F1
  rename News g' L' _ _ => N1
  rename IsRange _ _ _ _ _ _ _ _ => hR
  rw [show (((k + 1 : Nat) : Int) - 1) = ((k : Nat) : Int) by exact Mine.r330] at hR
  obtain ⟨m₀, hm₀, F1b⟩ := fr_name F1
  obtain ⟨D0, eD0, N1b⟩ := head_name N1
  subst eD0
  have h2 := small4 hk3
  refine over_range (s1 := s) (fun (d : D9) y => if y = Str.ofString "turn" then d.u else if y = Str.ofString "words" then some (.ref d.D) else m₀ y) (fun d => (d.D, W.listOf d.vs.toArray d.z) :: rest)
    (fun _ i d => StrsAre d.vs ((lawAll i).map wordStr) ∧ (∀ q ∈ rest, q.1 ≠ d.D)) ⟨m₀ (Str.ofString "turn"), D0, _, _⟩ k F1b N1b ⟨_, _, rfl⟩ (fun y => ?hm1) (fun p hp => hp) ?hP1 hR h2.1 h2.2 ?turn1 ?fin1 ?hE1 rfl
  case hE1 => first | passes_own | with_unfolding_all passes_own
  case hm1 => exact fr_two_eqw (by rw [hm₀]; rfl)
  case hP1 =>
    intro _ _
    exact ⟨.cons _ _ .nil, fun q hq => Nat.ne_of_lt ((by assumption : ∀ p ∈ rest, p.1 < D0) q hq)⟩
  case turn1 =>
    intro I oI i d h tk t0 hi F3 N3 off ⟨hvs, hoff⟩
    obtain ⟨u, D, vs, z⟩ := d
    dsimp only at *
    refine wpAny_assign_Name ?_
    clear F1 N1 F1b N1b
    subst hm₀
    (try dsimp only)
    w_strict k_steps
    unfold Stop
    rename Fr g' L' _ _ => F6
    rename News g' L' _ _ => N6
    (try clear F3)
    obtain ⟨m₆, hm₆, F6b⟩ := fr_name F6
    have hil : (lawAll i).length ≤ 8 := by
      rw [lawAll_len]
      have : i = 0 ∨ i = 1 ∨ i = 2 := by exact Mine.r108 hi hk3
      rcases this with rfl | rfl | rfl <;> decide
    refine comp2_assign (δ := Unit) (h₀ := g') (m := m₆) (LED := fun _ => (I, oI) :: (D, W.listOf vs.toArray z) :: rest) (J1 := fun i' ys _ => StrsAre ys ((twos ((lawAll i).take i')).map wordStr)) (by rfl) (by rfl) (by with_unfolding_all rfl) (by decide) (by rfl) (by decide) (by rfl) (by rfl) (by decide) (by rfl) (by rfl) ?_
    subst hm₆
    walk1
    refine pyIter_list9 F6 N6 (.tail _ (.head _)) fun I1 h1 F7 N7 o7 l7 b7 st7 ne7 => ?_
    refine ⟨I1, vs.toArray.size, _, _, (), rfl, F7, N7, o7, l7, b7, src_list9 (by rfl) ne7 (fun _ => ⟨z, .tail _ (.head _)⟩), st7, .nil, ?turnO, ?finO⟩
    case finO =>
      intro ys _ hys
      have e9 : (lawAll i).take vs.toArray.size = lawAll i := List.take_of_length_le (by rw [List.size_toArray, hvs.length, List.length_map]; omega)
      rw [e9] at hys
      intro D9 h9 tk9 F9 N9 o9
      have offI := off1_mem o9 (I, oI) (.head _)
      have offr : ∀ q ∈ rest, q.1 ≠ D9 := fun q hq => off1_mem o9 q (.tail _ (.tail _ hq))
      clear F6 N6 F7 N7
      dsimp only
      w_strict k_steps
      dsimp only [TurnEnd]
      unfold Stop
      rename Fr g' L' _ _ => F10
      rename News g' L' _ _ => N10
      refine ⟨⟨some (.int (i : Int) t0), D9, ys, ys.length⟩, _, _, rfl, fr_ab9 (a := Str.ofString "turn") (b := Str.ofString "words") F10 (by rfl) (by rfl) (fun y n1 n2 => by simp only [if_neg n1, if_neg n2]), fun p hp => ?_, fun p hp => ?_, hys, fun q hq => offr q hq⟩
      · rcases List.mem_cons.mp hp with rfl | hp
        · exact N10 _ (.tail _ (.head _))
        rcases List.mem_cons.mp hp with rfl | hp
        · exact N10 _ (.head _)
        · exact N10 _ (.tail _ (.tail _ (.tail _ hp)))
      · rcases List.mem_cons.mp hp with rfl | hp
        · exact Ne.symm offI
        · exact off p (.tail _ hp)
    case turnO =>
      intro C9 D9 i9 v9 _ ys oI9 oC9 m9 h9 tk9 E9 hi9 hv9 hJ9 hC9 hm9 F9 N9 o91 o92 o93
      obtain ⟨a, ta, ha, rfl⟩ := src_words hvs i9 v9 hv9 (by rw [List.size_toArray, hvs.length, List.length_map] at hi9; exact hi9)
      walk1
      refine pyIter_ascii9 (by decide +kernel) F9 N9 fun I2 h2 F8 N8 o8 l8 b8 st8 => ?_
      have hlen : (twos ((lawAll i).take i9)).length ≤ 16 := by rw [twos_len, List.length_take]; exact Mine.r295 hil
      refine ⟨Unit, id, I2, 2, SignAt (Str.ofString "01"), fun i h => h.IsStrIter I2 "str_ascii_iterator" (Str.ofString "01") _ i, fun j ys _ => StrsAre ys ((twos ((lawAll i).take i9) ++ [a ++ [false], a ++ [true]].take j).map wordStr), h2, _, (), rfl, rfl, F8, N8, o91, o92, o93, fun p hp => o8 p (.tail _ (.tail _ (.tail _ hp))), ⟨Ne.symm (o8 _ (.head _)), Ne.symm (o8 _ (.tail _ (.head _))), Ne.symm (o8 _ (.tail _ (.tail _ (.head _)))), l8, b8⟩, ?src, st8, ?j0, ?jl, ?turnI, ?up⟩
      case src => exact src_ascii9 (x := Str.ofString "01") (by rfl)
      case j0 => simpa using hJ9
      case jl =>
        intro j ys _ hj
        rw [hj.length, List.length_map, List.length_append, List.length_take]
        simp only [List.length_cons, List.length_nil]; omega
      case up =>
        intro ys _ hj
        rw [show (lawAll i).take (i9 + 1) = (lawAll i).take i9 ++ [a] by rw [List.take_add_one, ha]; rfl, twos_snoc]
        exact hj
      case turnI =>
        intro j v d ys1 oI2 oC1 m1 h1 tk1 E1 hj1 hv1 hJ1 hC1 hy1 hx1 F1 N1 o11 o12 o13 o14
        obtain ⟨b, tb, rfl, hb, _⟩ := sign01 hv1
        refine wpAny_mono (Q := End2 _) ?_ (fun _ _ h => h) (fun _ _ e => e)
        clear F6 N6 F7 N7 F8 N8 F9 N9
        dsimp only at N1
        w_strict k_steps
        have hal : a.length ≤ 4 := by rw [lawAll_mem i a (List.mem_of_getElem? ha)]; exact Mine.r311 hi hk3
        refine add_small (by rw [wordStr_len]; exact Mine.r25 hal) (by rw [wordStr_len]; show 1 ≤ 200; exact Mine.r21) fun t1 tk1 => ?_
        rw [word_add]
        refine ⟨_, _, (), rfl, F1, N1, o11, o12, o13, o14, ?_⟩
        have e2 : ([a ++ [false], a ++ [true]] : List Wd).take (j + 1) = [a ++ [false], a ++ [true]].take j ++ [a ++ [b]] := by
          rw [List.take_add_one]
          congr 1
          have : j = 0 ∨ j = 1 := by exact Mine.r38 (by assumption)
          rcases this with rfl | rfl <;> (subst hb; rfl)
        show StrsAre _ _
        rw [e2, ← List.append_assoc, List.map_append]
        exact hJ1.append' (.cons _ _ .nil)
  case fin1 =>
    intro I d h tk F3 N3 ⟨hvs, hoff⟩
    obtain ⟨u, D, vs, z⟩ := d
    dsimp only at *
    clear F1 N1 F1b N1b
    subst hm₀
    w_strict k_steps
    rename News h₀ L _ _ => N9
    rename Fr h₀ L _ _ => F9
    exact rS _ _ D vs z F9 N9 hoff hvs
end Mine
end
section
open PySem PySem.W PyProof.Rows
set_option maxRecDepth 100000
local macro_rules | `(tactic| k_ne) => `(tactic| (refine neN ?_; (try dsimp only); first | (with_reducible assumption) | ((with_reducible refine Ne.symm ?_); (with_reducible assumption))))
local macro_rules | `(tactic| walk_at $s) => if ("|exec For Name Tuple cons nil|exec For Name Call cons nil|exec For Name Name cons nil|exec For Tuple Call cons nil|TurnEnd|End2|call ref|eval ListComp|compareOp NotEq ref ref|compareOp Eq ref ref|compareOp Is ref ref|WPost|exec While|CompSrcT|CompSrc|call type:list|AfterTry|".splitOn ("|" ++ s.getString ++ "|")).length == 1 then Lean.Macro.throwUnsupported else `(tactic| kwk_ne)
local macro_rules | `(tactic| walk_at "pyIter ref") => `(tactic| ((with_reducible show wpAny _ _ (pyIter _) (fun it s₂ => PySem.codeAny _ _ _ _ _) _ _); kwk_ne))
local macro_rules | `(tactic| walk_at "eval Dict nil nil") => `(tactic| (k_here; k_dflt (refine' Mine.dict_new ?F ?N ?T ?_; (case F => k_asm); (case N => k_asm); (case T => k_asm); k_whole); intro d' h' F' N' l1 e1; (try k_lt l1); (try k_sweep)))
local macro_rules | `(tactic| walk_at "exec Assign cons ListComp") => `(tactic| ((with_reducible show wpAny _ _ (exec (Stmt.Assign [Expr.Name _ _] _ _) _) _ _ _); kwk_ne))
local macro_rules | `(tactic| walk_at "CompEnd") => `(tactic| ((with_reducible show LCg.CompEnd _ _ _ _ _ _ _ _ _ _ _ _ _ _); kwk_ne))
local macro_rules | `(tactic| walk_at "subscriptTail") => `(tactic| ((with_reducible show wpAny _ _ (subscriptTail _ _ (Value.ref _) (Value.int _ _)) _ _ _); kwk_ne))
local macro_rules | `(tactic| walk_at "call builtin:len") => `(tactic| ((with_reducible show wpAny _ _ (call (Value.builtin _) [Value.ref _]) _ _ _); kwk_ne))
local macro_rules | `(tactic| walk_at "storeName") => `(tactic| ((with_reducible show wpAny _ _ (storeName _ (PySem.Str.ofString "head") _) _ _ _); kwk_ne))
local macro_rules | `(tactic| walk_at "subscriptTail") => `(tactic| (k_here; (with_reducible show wpAny _ _ (subscriptTail _ _ (Value.str _ _) (Value.ref _)) _ _ _); kwk_ne))
local macro_rules | `(tactic| walk_at "binaryOp Pow int int") => `(tactic| (k_here; (refine PyProof.Rows.pow_int_small (by rw [Mine.wordStr_len]; omega) (by rw [Mine.wordStr_len]; omega) (by decide) ?_)))
local macro_rules | `(tactic| walk_at "exec Try") => `(tactic| ((fail_if_success (with_reducible show wpAny _ _ _ (Mine.AfterTry _) _ _)); kwk_ne))
local macro_rules | `(tactic| walk_at "call builtin:len") => `(tactic| (k_here; (with_reducible show wpAny _ _ (call (Value.builtin _) [Value.str (Mine.wordStr _) _]) _ _ _); refine PyProof.Rows.len_str (by (rw [Mine.wordStr_len]; omega)) ?_))
local macro_rules | `(tactic| walk_at "subscriptTail") => `(tactic| (k_here; (with_reducible show wpAny _ _ (subscriptTail _ _ (Value.ref _) (Value.str _ _)) _ _ _); kwk_ne))
local macro_rules | `(tactic| walk_at "execs cons") => `(tactic| ((have hsm : Mine.StopEx := by with_reducible assumption); clear hsm; kwk_ne))
local macro_rules | `(tactic| walk_at "exec If") => `(tactic| ((have hsm : Mine.StopIf := by with_reducible assumption); clear hsm; kwk_ne))
set_option hygiene false
local macro_rules | `(tactic| kn_posts) => `(tactic| refine Mine.kn_postB hT9 (fun _ _ => rfl) ?_)
set_option hygiene true
namespace Mine
theorem ints_val {vs : List Value} {ns : List Int} (h : IntsAre vs ns) {i : Nat} {v : Value} (hv : vs.toArray[i]? = some v) : ∃ k t, v = .int k t := by
  obtain ⟨k, t, -, e⟩ := ints_at h (i := i) (v := v) (by simpa using hv)
  exact ⟨k, t, e⟩
theorem strs_rowE : ∀ {ys : List Value}, (∀ (i : Nat) (y : Value), ys[i]? = some y → ∃ (v : Wd) (t : Tok), y = .str (wordStr v) t ∧ Is1 v ∧ v.length ≤ 4) → ∃ ws : List Wd, StrsAre ys (ws.map wordStr) ∧ (∀ v ∈ ws, Is1 v ∧ v.length ≤ 4) ∧ ws.length = ys.length
  | [], _ => ⟨[], .nil, (fun v hv => nomatch hv), rfl⟩
  | y :: r, k => by
    obtain ⟨v, t, rfl, h1, h2⟩ := k 0 y rfl
    obtain ⟨ws, a, b, c⟩ := strs_rowE (ys := r) fun i y hy => k (i + 1) y hy
    refine ⟨v :: ws, .cons _ _ a, fun x hx => ?_, by rw [List.length_cons, c]; rfl⟩
    rcases List.mem_cons.mp hx with rfl | hx
    · exact ⟨h1, h2⟩
    · exact b x hx
theorem drop1 {h₀ h : Heap} {L : Addr} {a b : Addr × Obj} {r : List (Addr × Obj)} (N : News h₀ L h (a :: b :: r)) : News h₀ L h (a :: r) := fun p hp => by
  rcases List.mem_cons.mp hp with rfl | hp
  · exact N _ (.head _)
  · exact N _ (.tail _ (.tail _ hp))
theorem names2 {h₀ h : Heap} {L A B : Addr} {a b : Obj} {r : List (Addr × Obj)} (N : News h₀ L h ((A, a) :: (B, b) :: r)) : ∃ A' B', A' = A ∧ B' = B ∧ News h₀ L h ((A', a) :: (B', b) :: r) := ⟨A, B, rfl, rfl, N⟩
theorem tup_name {h₀ h : Heap} {L A : Addr} {t : Tok} {r : List (Addr × Obj)} (N : News h₀ L h ((A, { cls := .type "tuple", data := .seq #[Value.int 4 t, Value.int 3 (t + 1), Value.int 2 (t + 1 + 1), Value.int 1 (t + 1 + 1 + 1)] }) :: r)) :
    ∃ its : Array Value, (its.size = 4 ∧ ∀ j v, its[j]? = some v → j < 4 ∧ ∃ u, v = .int ((3 - j + 1 : Nat) : Int) u) ∧ News h₀ L h ((A, { cls := .type "tuple", data := .seq its }) :: r) := by
  refine ⟨_, ⟨rfl, fun j v hv => ?_⟩, N⟩
  match j, hv with
  | 0, hv => exact ⟨by exact Mine.r120, _, (Option.some.inj hv).symm⟩
  | 1, hv => exact ⟨by exact Mine.r121, _, (Option.some.inj hv).symm⟩
  | 2, hv => exact ⟨by exact Mine.r122, _, (Option.some.inj hv).symm⟩
  | 3, hv => exact ⟨by exact Mine.r123, _, (Option.some.inj hv).symm⟩
  | j + 4, hv => simp at hv
theorem fr_four {a b c e y : Str} {m : Str → Option Value} : (if y = a then m a else if y = b then m b else if y = c then m c else if y = e then m e else m y) = m y := by
  by_cases h1 : y = a
  · rw [if_pos h1, h1]
  rw [if_neg h1]
  by_cases h2 : y = b
  · rw [if_pos h2, h2]
  rw [if_neg h2]
  by_cases h3 : y = c
  · rw [if_pos h3, h3]
  rw [if_neg h3]
  by_cases h4 : y = e
  · rw [if_pos h4, h4]
  rw [if_neg h4]
theorem rot12 {a1 a2 a3 a4 a5 a6 a7 a8 a9 a10 a11 a12 t : Addr × Obj} {X : List (Addr × Obj)} : ∀ q ∈ a1 :: a2 :: a3 :: a4 :: a5 :: a6 :: a7 :: a8 :: a9 :: a10 :: a11 :: a12 :: t :: (X ++ []), q ∈ t :: a1 :: a2 :: a3 :: a4 :: a5 :: a6 :: a7 :: a8 :: a9 :: a10 :: a11 :: a12 :: X := by
  intro q hq; simp only [List.mem_cons, List.append_nil] at hq ⊢; grind
theorem rot14 {a1 a2 a3 a4 a5 a6 a7 a8 a9 a10 a11 a12 w i t : Addr × Obj} {X : List (Addr × Obj)} : ∀ q ∈ a1 :: a2 :: a3 :: a4 :: a5 :: a6 :: a7 :: a8 :: a9 :: a10 :: a11 :: a12 :: w :: i :: t :: X, q ∈ w :: i :: a1 :: a2 :: a3 :: a4 :: a5 :: a6 :: a7 :: a8 :: a9 :: a10 :: a11 :: a12 :: t :: X := by
  intro q hq; simp only [List.mem_cons] at hq ⊢; grind
theorem fr_three {a b c y : Str} {m : Str → Option Value} : (if y = a then m a else if y = b then m b else if y = c then m c else m y) = m y := by
  by_cases h1 : y = a
  · rw [if_pos h1, h1]
  rw [if_neg h1]
  by_cases h2 : y = b
  · rw [if_pos h2, h2]
  rw [if_neg h2]
  by_cases h3 : y = c
  · rw [if_pos h3, h3]
  rw [if_neg h3]
theorem rot13 {a1 a2 a3 a4 a5 a6 a7 a8 a9 a10 a11 a12 w i t : Addr × Obj} {X : List (Addr × Obj)} : ∀ q ∈ i :: a1 :: a2 :: a3 :: a4 :: a5 :: a6 :: a7 :: a8 :: a9 :: a10 :: a11 :: a12 :: t :: X, q ∈ a1 :: a2 :: a3 :: a4 :: a5 :: a6 :: a7 :: a8 :: a9 :: a10 :: a11 :: a12 :: w :: i :: t :: X := by
  intro q hq; simp only [List.mem_cons] at hq ⊢; grind
theorem led_addr {A1 A2 A3 A4 A5 A6 A7 A8 A9 B1 B2 B3 B4 : Addr} {o1 o2 o3 o4 o5 o6 o7 o8 o9 q1 q2 q3 q4 : Obj} {XG : List (Addr × Obj)} {ks : List ME} {FX : List Addr} (hFX : FX = A1 :: A2 :: A3 :: A4 :: A5 :: A6 :: A7 :: A8 :: A9 :: B1 :: B2 :: B3 :: B4 :: XG.map (·.1)) :
    ∀ p ∈ (A1, o1) :: (A2, o2) :: (A3, o3) :: (A4, o4) :: (A5, o5) :: (A6, o6) :: (A7, o7) :: (A8, o8) :: (A9, o9) :: (B1, q1) :: (B2, q2) :: (B3, q3) :: (B4, q4) :: (XG ++ ks.map lME), p.1 ∈ FX ∨ ∃ e ∈ ks, p.1 = e.a := by
  intro p hp
  subst hFX
  have h1 : p.1 ∈ ((A1, o1) :: (A2, o2) :: (A3, o3) :: (A4, o4) :: (A5, o5) :: (A6, o6) :: (A7, o7) :: (A8, o8) :: (A9, o9) :: (B1, q1) :: (B2, q2) :: (B3, q3) :: (B4, q4) :: (XG ++ ks.map lME)).map (·.1) := List.mem_map_of_mem hp
  simp only [List.map_cons, List.map_append, List.map_map] at h1
  rw [show (A1 :: A2 :: A3 :: A4 :: A5 :: A6 :: A7 :: A8 :: A9 :: B1 :: B2 :: B3 :: B4 :: (XG.map (fun x => x.1) ++ ks.map ((fun x => x.1) ∘ lME))) = (A1 :: A2 :: A3 :: A4 :: A5 :: A6 :: A7 :: A8 :: A9 :: B1 :: B2 :: B3 :: B4 :: XG.map (fun x => x.1)) ++ ks.map ((fun x => x.1) ∘ lME) from rfl] at h1
  rcases List.mem_append.mp h1 with h | h
  · exact .inl h
  · obtain ⟨e, he, h⟩ := List.mem_map.mp h
    exact .inr ⟨e, he, h.symm⟩
theorem addr_led {I A1 A2 A3 A4 A5 A6 A7 A8 A9 B1 B2 B3 B4 : Addr} {o1 o2 o3 o4 o5 o6 o7 o8 o9 q1 q2 q3 q4 : Obj} {XG YG : List (Addr × Obj)} (h : ∀ p ∈ (A1, o1) :: (A2, o2) :: (A3, o3) :: (A4, o4) :: (A5, o5) :: (A6, o6) :: (A7, o7) :: (A8, o8) :: (A9, o9) :: (B1, q1) :: (B2, q2) :: (B3, q3) :: (B4, q4) :: (XG ++ YG), p.1 ≠ I) :
    ∀ b ∈ A1 :: A2 :: A3 :: A4 :: A5 :: A6 :: A7 :: A8 :: A9 :: B1 :: B2 :: B3 :: B4 :: XG.map (·.1), b ≠ I := by
  intro b hb
  have : b ∈ ((A1, o1) :: (A2, o2) :: (A3, o3) :: (A4, o4) :: (A5, o5) :: (A6, o6) :: (A7, o7) :: (A8, o8) :: (A9, o9) :: (B1, q1) :: (B2, q2) :: (B3, q3) :: (B4, q4) :: (XG ++ YG)).map (·.1) := by
    simp only [List.map_cons, List.map_append]
    rw [show (A1 :: A2 :: A3 :: A4 :: A5 :: A6 :: A7 :: A8 :: A9 :: B1 :: B2 :: B3 :: B4 :: (XG.map (fun x => x.1) ++ YG.map (fun x => x.1))) = (A1 :: A2 :: A3 :: A4 :: A5 :: A6 :: A7 :: A8 :: A9 :: B1 :: B2 :: B3 :: B4 :: XG.map (fun x => x.1)) ++ YG.map (fun x => x.1) from rfl]
    exact List.mem_append_left _ hb
  obtain ⟨p, hp, e⟩ := List.mem_map.mp this
  rw [← e]; exact h p hp
theorem strs_reverse : ∀ {vs : List Value} {ws : List Wd}, StrsAre vs (ws.map wordStr) → StrsAre vs.reverse (ws.reverse.map wordStr)
  | [], [], _ => .nil
  | v :: vs, a :: ws, h => by
    cases h with
    | cons _ t hr =>
      rw [List.reverse_cons, List.reverse_cons, List.map_append]
      exact (strs_reverse hr).append' (.cons _ _ .nil)
theorem rot20 {a1 a2 a3 a4 a5 a6 a7 a8 a9 a10 a11 a12 a13 a14 a15 a16 a17 a18 a19 a20 n : Addr × Obj} {T X : List (Addr × Obj)} : ∀ q ∈ a1 :: a2 :: a3 :: a4 :: a5 :: a6 :: a7 :: a8 :: a9 :: a10 :: a11 :: a12 :: a13 :: a14 :: a15 :: a16 :: a17 :: a18 :: a19 :: a20 :: ((n :: T) ++ X), q ∈ n :: a1 :: a2 :: a3 :: a4 :: a5 :: a6 :: a7 :: a8 :: a9 :: a10 :: a11 :: a12 :: a13 :: a14 :: a15 :: a16 :: a17 :: a18 :: a19 :: a20 :: (T ++ X) := fun _ hq => (List.perm_middle (l₁ := [a1, a2, a3, a4, a5, a6, a7, a8, a9, a10, a11, a12, a13, a14, a15, a16, a17, a18, a19, a20]) (l₂ := T ++ X) (a := n)).mem_iff.mp hq
theorem ins17 {a1 a2 a3 a4 a5 a6 a7 a8 a9 a10 a11 a12 a13 a14 a15 a16 a17 n : Addr × Obj} {T X : List (Addr × Obj)} : ∀ q ∈ a1 :: a2 :: a3 :: a4 :: a5 :: a6 :: a7 :: a8 :: a9 :: a10 :: a11 :: a12 :: a13 :: a14 :: a15 :: a16 :: a17 :: ((n :: T) ++ X), q = n ∨ q ∈ a1 :: a2 :: a3 :: a4 :: a5 :: a6 :: a7 :: a8 :: a9 :: a10 :: a11 :: a12 :: a13 :: a14 :: a15 :: a16 :: a17 :: (T ++ X) := fun _ hq => List.mem_cons.mp ((List.perm_middle (l₁ := [a1, a2, a3, a4, a5, a6, a7, a8, a9, a10, a11, a12, a13, a14, a15, a16, a17]) (l₂ := T ++ X) (a := n)).mem_iff.mp hq)
theorem rot21 {a1 a2 a3 a4 a5 a6 a7 a8 a9 a10 a11 a12 a13 a14 a15 a16 a17 a18 a19 a20 a21 n : Addr × Obj} {T X : List (Addr × Obj)} : ∀ q ∈ a1 :: a2 :: a3 :: a4 :: a5 :: a6 :: a7 :: a8 :: a9 :: a10 :: a11 :: a12 :: a13 :: a14 :: a15 :: a16 :: a17 :: a18 :: a19 :: a20 :: a21 :: ((n :: T) ++ X), q ∈ n :: a1 :: a2 :: a3 :: a4 :: a5 :: a6 :: a7 :: a8 :: a9 :: a10 :: a11 :: a12 :: a13 :: a14 :: a15 :: a16 :: a17 :: a18 :: a19 :: a20 :: a21 :: (T ++ X) := fun _ hq => (List.perm_middle (l₁ := [a1, a2, a3, a4, a5, a6, a7, a8, a9, a10, a11, a12, a13, a14, a15, a16, a17, a18, a19, a20, a21]) (l₂ := T ++ X) (a := n)).mem_iff.mp hq
theorem tup_in {a1 : Addr × Obj} {D : Addr} {o o' : Obj} {r : List (Addr × Obj)} {q : Addr × Obj} (hq : q ∈ a1 :: (D, o) :: r) (ho : o.cls = .type "list") (hc : q.2.cls = .type "tuple") : q ∈ a1 :: (D, o') :: r := by
  rcases List.mem_cons.mp hq with rfl | hq
  · exact .head _
  rcases List.mem_cons.mp hq with rfl | hq
  · exfalso
    dsimp only at hc
    rw [ho] at hc
    injection hc with e
    exact absurd e (by decide)
  · exact .tail _ (.tail _ hq)
theorem only_tups {T : List (Addr × Obj)} {ys : List Value} {ds : List (Nat × Str)} (h : Rel2 (PairAt T) ys ds) : ∃ T2 : List (Addr × Obj), Rel2 (PairAt T2) ys ds ∧ (∀ p ∈ T2, p.2.cls = .type "tuple") ∧ ∀ p ∈ T2, p ∈ T := by
  classical
  refine ⟨T.filter fun p => decide (p.2.cls = .type "tuple"), h.mono fun v d k => ?_, fun p hp => ?_, fun p hp => (List.mem_filter.mp hp).1⟩
  · obtain ⟨a, o, t, u, n, e1, e2, e3, e4⟩ := k
    exact ⟨a, o, t, u, n, e1, List.mem_filter.mpr ⟨e2, by rw [decide_eq_true_eq]; exact e3⟩, e3, e4⟩
  · have := (List.mem_filter.mp hp).2
    rw [decide_eq_true_eq] at this
    exact this
theorem pre18 {a1 a2 a3 a4 a5 a6 a7 a8 a9 a10 a11 a12 a13 a14 a15 a16 a17 a18 : Addr × Obj} {T T2 X : List (Addr × Obj)} (h : ∀ p ∈ T2, p ∈ T) : ∀ q ∈ a1 :: a2 :: a3 :: a4 :: a5 :: a6 :: a7 :: a8 :: a9 :: a10 :: a11 :: a12 :: a13 :: a14 :: a15 :: a16 :: a17 :: a18 :: (T2 ++ X), q ∈ a1 :: a2 :: a3 :: a4 :: a5 :: a6 :: a7 :: a8 :: a9 :: a10 :: a11 :: a12 :: a13 :: a14 :: a15 :: a16 :: a17 :: a18 :: (T ++ X) := fun q hq => by
  rcases List.mem_append.mp (show q ∈ [a1, a2, a3, a4, a5, a6, a7, a8, a9, a10, a11, a12, a13, a14, a15, a16, a17, a18] ++ (T2 ++ X) from hq) with hq | hq
  · exact List.mem_append_left (T ++ X) hq
  · refine List.mem_append_right [a1, a2, a3, a4, a5, a6, a7, a8, a9, a10, a11, a12, a13, a14, a15, a16, a17, a18] ?_
    exact (List.mem_append.mp hq).elim (fun k => List.mem_append_left _ (h _ k)) fun k => List.mem_append_right _ k
theorem split16 {a1 a2 a3 a4 a5 a6 a7 a8 a9 a10 a11 a12 a13 a14 a15 a16 : Addr × Obj} {T X : List (Addr × Obj)} : ∀ q ∈ a1 :: a2 :: a3 :: a4 :: a5 :: a6 :: a7 :: a8 :: a9 :: a10 :: a11 :: a12 :: a13 :: a14 :: a15 :: a16 :: (T ++ X), q ∈ T ∨ q ∈ a1 :: a2 :: a3 :: a4 :: a5 :: a6 :: a7 :: a8 :: a9 :: a10 :: a11 :: a12 :: a13 :: a14 :: a15 :: a16 :: X := fun q hq => by
  rcases List.mem_append.mp (show q ∈ [a1, a2, a3, a4, a5, a6, a7, a8, a9, a10, a11, a12, a13, a14, a15, a16] ++ (T ++ X) from hq) with hq | hq
  · exact .inr (List.mem_append_left X hq)
  · exact (List.mem_append.mp hq).elim (fun k => .inl k) fun k => .inr (List.mem_append_right [a1, a2, a3, a4, a5, a6, a7, a8, a9, a10, a11, a12, a13, a14, a15, a16] k)
theorem ne_of_cls {g h : Heap} {L : Addr} {r : List (Addr × Obj)} (N : News g L h r) {a b : Addr} {o u : Obj} (ha : (a, o) ∈ r) (hb : (b, u) ∈ r) (hne : o.cls ≠ u.cls) : a ≠ b := fun e => by
  have h1 := (N _ ha).1
  have h2 := (N _ hb).1
  dsimp only at h1 h2
  rw [e, h2] at h1
  exact hne (congrArg Obj.cls (Option.some.inj h1)).symm
theorem drop2 {h₀ h : Heap} {L : Addr} {a b c : Addr × Obj} {r : List (Addr × Obj)} (N : News h₀ L h (a :: b :: c :: r)) : News h₀ L h (a :: r) := fun p hp => by
  rcases List.mem_cons.mp hp with rfl | hp
  · exact N _ (.head _)
  · exact N _ (.tail _ (.tail _ (.tail _ hp)))
noncomputable abbrev led7 (ND LA : Addr) (σ : WS) (rest : List (Addr × Obj)) : List (Addr × Obj) := (ND, σ.oN) :: (580, σ.tab) :: lA LA σ :: (rest ++ σ.G)
theorem led7_in {i c d : Addr × Obj} {ND LA : Addr} {σ : WS} {rest : List (Addr × Obj)} : ∀ q ∈ wled ND LA σ (i :: c :: d :: rest), q ∈ i :: c :: d :: led7 ND LA σ rest := by
  intro q hq; simp only [List.mem_cons, List.mem_append] at hq ⊢; grind
theorem led7_out {i c d : Addr × Obj} {ND LA : Addr} {σ : WS} {rest : List (Addr × Obj)} : ∀ q ∈ i :: c :: d :: led7 ND LA σ rest, q ∈ wled ND LA σ (i :: c :: d :: rest) := by
  intro q hq; simp only [List.mem_cons, List.mem_append] at hq ⊢; grind
theorem names7 {h₀ h : Heap} {L A N' R c5 c4 c3 c2 c1 : Addr} {oR o5 o4 o3 o2 o1 o0 : Obj} {P : Prop} (N : News h₀ L h [(A, W.listOf #[] 0), (N', dictOf [] 0), (R, oR), (c5, o5), (c4, o4), (c3, o3), (c2, o2), (c1, o1), (580, o0)])
    (k : ∀ (LA ND : Addr) (p5 p4 p3 p2 p1 : Obj), LA = A → ND = N' → p5 = o5 → p4 = o4 → p3 = o3 → p2 = o2 → p1 = o1 → News h₀ L h (led7 ND LA ⟨[], dictOf [] 0, 0, o0, [], [], 0⟩ [(R, oR), (c5, p5), (c4, p4), (c3, p3), (c2, p2), (c1, p1)]) → P) : P :=
  k A N' o5 o4 o3 o2 o1 rfl rfl rfl rfl rfl rfl rfl (N.perm fun q hq => by simp only [List.mem_cons, List.mem_append] at hq ⊢; grind)
noncomputable def RowIs (w : World) (ND LA : Addr) (words : List Wd) (i : Nat) (ys : List Value) (σ : WS) : Prop := WOk w ND LA σ ∧ (∀ v ∈ words.take i, σ.dom v) ∧ ys = refs σ.X (words.take i) ∧ σ.ks.length ≤ i ∧ σ.av = [] ∧ σ.za = 0
theorem RowIs.start {w : World} {ND LA : Addr} {words : List Wd} (h : @LT.lt Nat _ ND LA) : RowIs w ND LA words 0 [] ⟨[], dictOf [] 0, 0, tabObj #[], [], [], 0⟩ :=
  ⟨⟨kp_isDict (w := w) (ex := []) 0 0 .nil, .inl ⟨rfl, rfl⟩, (fun p hp => nomatch hp), .nil, .nil, (fun p hp => nomatch hp), (fun p hp => nomatch hp), h⟩, (fun v hv => nomatch hv), rfl, Nat.le_refl _, rfl, rfl⟩
theorem RowIs.next {w : World} {ND LA x : Addr} {words : List Wd} {i : Nat} {ys : List Value} {σ τ : WS} {v : Wd} (R : RowIs w ND LA words i ys σ) (hv : words[i]? = some v) (O : WOk w ND LA τ) (e : Ext σ τ) (ea : τ.av = σ.av) (ez : τ.za = σ.za) (hx : τ.ks.lookup v = some x) (hl : τ.ks.length ≤ σ.ks.length + 1) : RowIs w ND LA words (i + 1) (ys ++ [.ref x]) τ := by
  obtain ⟨_, h1, h2, h3, h4, h5⟩ := R
  have ht : words.take (i + 1) = words.take i ++ [v] := by rw [List.take_add_one, hv]; rfl
  have hX : τ.X v = x := by rw [WS.X, hx]; rfl
  refine ⟨O, fun a ha => ?_, ?_, by exact Mine.r319 h3 hl, ea.trans h4, ez.trans h5⟩
  · rw [ht] at ha
    rcases List.mem_append.mp ha with ha | ha
    · exact e.dom (h1 a ha)
    · rw [List.mem_singleton.mp ha]; exact ⟨x, hx⟩
  · rw [ht, h2, refs_ext e h1]
    unfold refs
    rw [List.map_append]
    show _ = _ ++ [Value.ref (τ.X v)]
    rw [hX]
noncomputable def ToldW (τ : WS) (sub : List (Wd × Wd)) (tv : Value) (LX : List (Addr × Obj)) : Prop :=
  (∃ S c k y, tv = .ref S ∧ LX = [(S, W.listOf #[.ref (τ.X y)] c)] ∧ sub = [(k, y)] ∧ τ.dom y) ∨ (∃ S c, tv = .ref S ∧ LX = [(S, W.listOf #[] c)] ∧ sub = []) ∨ (tv = .none ∧ LX = [] ∧ 2 ≤ sub.length)
inductive MidA (w : World) (s1 : Shared) (ND LA R : Addr) (vs : List Value) (o5 o4 o3 o2 o1 : Obj) (m₂ : Str → Option Value) (sub : List (Wd × Wd)) (words : List Wd) (ST : Heap → Prop) (s' : Shared) : Prop
  | mk (g' h : Heap) (tk : Nat) (tv : Value) (τ : WS) (LX : List (Addr × Obj)) (e : s' = { s1 with gens := s1.gens.push .finished, heap := h, toks := tk })
    (F : Fr g' s1.heap.objs.size h (fun y => if y = Str.ofString "told" then some tv else m₂ y))
    (N : News g' s1.heap.objs.size h ((ND, τ.oN) :: (580, τ.tab) :: lA LA τ :: (R, LCg.lst vs) :: (s1.heap.objs.size + 1 + 1 + 1 + 1 + 1, o5) :: (s1.heap.objs.size + 1 + 1 + 1 + 1, o4) :: (s1.heap.objs.size + 1 + 1 + 1, o3) :: (s1.heap.objs.size + 1 + 1, o2) :: (s1.heap.objs.size + 1, o1) :: (LX ++ τ.G)))
    (O : WOk w ND LA τ) (T : ToldW τ sub tv LX) (A : StrsAre τ.av ((cfin List.dropLast ⟨words, [], []⟩).asked.map wordStr)) (D : ∀ v ∈ words, τ.dom v) (S : ST g') (X : ∀ p ∈ LX ++ τ.G, p.1 ≠ s1.heap.objs.size + 1 + 1 + 1 + 1 + 1 ∧ p.1 ≠ s1.heap.objs.size + 1 + 1 + 1 + 1 ∧ p.1 ≠ s1.heap.objs.size + 1 + 1 + 1)
theorem led7_try {ND LA : Addr} {σ : WS} {D : Addr × Obj} {rest : List (Addr × Obj)} : ∀ q ∈ D :: wled ND LA σ rest, q ∈ D :: led7 ND LA σ rest := by
  intro q hq; simp only [List.mem_cons, List.mem_append] at hq ⊢; grind
theorem led7_g {ND LA : Addr} {σ : WS} {g D : Addr × Obj} {rest : List (Addr × Obj)} : ∀ q ∈ D :: wled ND LA σ (g :: rest), q ∈ g :: D :: wled ND LA σ rest := by
  intro q hq; simp only [List.mem_cons, List.mem_append] at hq ⊢; grind
theorem led7_s {ND LA : Addr} {τ : WS} {S : Addr × Obj} {rest : List (Addr × Obj)} : ∀ q ∈ (ND, τ.oN) :: (580, τ.tab) :: lA LA τ :: (rest ++ ([S] ++ τ.G)), q ∈ S :: wled ND LA τ rest := by
  intro q hq; simp only [List.mem_cons, List.mem_append, List.not_mem_nil, or_false] at hq ⊢; grind
theorem led7_e {ND LA : Addr} {τ : WS} {rest : List (Addr × Obj)} : ∀ q ∈ (ND, τ.oN) :: (580, τ.tab) :: lA LA τ :: (rest ++ ([] ++ τ.G)), q ∈ wled ND LA τ rest := by
  intro q hq; simp only [List.mem_cons, List.mem_append, List.not_mem_nil, or_false] at hq ⊢; grind
theorem no_raise07 (scr : List Int) : ∀ cls, PySem.Challenge.rw_km0038_07.row.claim.raises [ofPy (PyData.list (List.map PyData.int scr))] cls = false := raisesW_false (by wrow_none_raised)
theorem post07 (scr : List Int) : PySem.Challenge.rw_km0038_07.row.claim.post [ofPy (PyData.list (List.map PyData.int scr))] (.bool true) [ofPy (PyData.list (List.map PyData.int scr))] = true := by wrow_post
set_option maxHeartbeats 16000000 in
set_option pp.deepTerms false in
set_option pp.deepTerms.threshold 8 in
theorem fin07 : PySem.Challenge.rw_km0038_07.Holds := hd (by
  w_on
  have hStopE : StopEx := .mk
  w_strict (k_go0; (all_goals try k_fold); k_steps)
  unfold Stop
  clear hStopE
  refine gen_post (by first | passes_own | with_unfolding_all passes_own) (fun v => by first | passes_own | with_unfolding_all passes_own) fun Q8 E8 hP8 hM8 hQ8 => ?_
  w_strict k_steps
  unfold Stop
  rename Fr _ _ _ _ => F1
  rename News _ _ _ _ => N1
  rename Below _ _ _ _ => B1
  rename PySem.W.Frag.In _ _ => X1
  rename Top _ _ _ _ _ (ghostOf _ _) => T1
  rename PySem.World => w
  rename List Int => scr
  rename PySem.Shared => s1
  have hn1 : scr.length ≤ 63 := by exact Mine.r352 (by assumption)
  have hgens : s1.gens = #[] := by with_reducible assumption
  rename PySem.Heap.IsList (ghostOf _ _) _ _ => hL1
  rename IntsAre _ scr => hI1
  refine LCg.Assign_ListComp_U F1 (by rfl) (by with_unfolding_all rfl) (by with_unfolding_all rfl) (by decide) (by rfl) (by decide) (by rfl) (by rfl) (by rfl) ?_
  w_strict k_steps
  unfold Stop
  rename News _ _ _ _ => N2
  rename Fr _ _ _ _ => F2
  rename IntsAre _ (_ ++ _) => hI2
  obtain ⟨X3, eX3, N2b⟩ := head_name N2
  subst eX3
  have N3 := drop2 N2b
  (try clear N1)
  (try clear F1)
  clear N2 N2b
  refine LCg.CompSrc.ledger (k := 0) (by rfl) F2 N3 (.head _) (by rw [List.size_toArray, hI2.length, sizeLine_eq]; simp only [List.length_append, List.length_take, List.length_cons, List.length_nil]; exact Mine.r425) fun g9 => ?_
  refine comp_relP (fun i y => ∃ (v : Wd) (t : Tok), y = .str (wordStr v) t ∧ Is1 v ∧ v.length ≤ 4) ?turn1 ?fin1
  case turn1 =>
    intro i v I oI C oC D m₂ ys h tk E' hv hC hmx F5 N5 off ne
    obtain ⟨a, ta, rfl⟩ := ints_val hI2 hv
    clear F2 N3
    w_strict k_steps
    unfold Stop
    rename Fr _ _ _ _ => F6
    rename News _ _ _ _ => N6
    subst ek
    refine word07 w (outer := []) B1 F6 X1 N6 T1 (by rfl) (by rfl) ?dp1 ?un1 ?rS1
    (case dp1 => k_room)
    (case un1 => k_units)
    intro h' tk' v t' F7 N7 h1 h4
    exact LCg.CompEnd.intro F7 N7 _ (fun p hp => hp) off (.inr ⟨_, .head _, rfl, 0, rfl⟩) ⟨rfl, v, t', rfl, h1, h4⟩
  case fin1 =>
    intro vs hyl hrel R h5 tk5 F5 N5 off
    obtain ⟨words, hvs, hwU, hwl⟩ := strs_rowE hrel
    have hvl := hvs.length
    rw [List.length_map] at hvl
    have hw43 : words.length ≤ 43 := by
      rw [hwl, hyl, List.size_toArray, hI2.length]; simp only [List.length_append, List.length_take, List.length_cons, List.length_nil]; exact Mine.r412
    have hw3 : 3 ≤ words.length := by
      rw [hwl, hyl, List.size_toArray, hI2.length]; simp only [List.length_append, List.length_take, List.length_cons, List.length_nil]; exact Mine.r404
    have offR := off1_mem off
    have N6 := drop1 N5
    have oR5 := offR _ (.tail _ (.head _))
    have oR4 := offR _ (.tail _ (.tail _ (.head _)))
    have oR3 := offR _ (.tail _ (.tail _ (.tail _ (.head _))))
    have oR2 := offR _ (.tail _ (.tail _ (.tail _ (.tail _ (.head _)))))
    have oR1 := offR _ (.tail _ (.tail _ (.tail _ (.tail _ (.tail _ (.head _))))))
    have oR0 := offR _ (.tail _ (.tail _ (.tail _ (.tail _ (.tail _ (.tail _ (.head _)))))))
    clear N5 N3 F2 off offR
    dsimp only at *
    w_strict k_steps
    unfold Stop
    rename Fr _ _ _ _ => F7
    rename News _ _ _ _ => N7
    refine names7 N7 fun LA ND o5 o4 o3 o2 o1 eLA eND e5 e4 e3 e2 e1 N8 => ?_
    subst eLA eND e5 e4 e3 e2 e1
    have lt1 : R < ND ∧ s1.heap.objs.size + 1 + 1 + 1 + 1 + 1 < ND ∧ s1.heap.objs.size + 1 + 1 + 1 + 1 < ND ∧ s1.heap.objs.size + 1 + 1 + 1 < ND ∧ s1.heap.objs.size + 1 + 1 < ND ∧ s1.heap.objs.size + 1 < ND ∧ 580 < ND := by assumption
    have lt2 : ND < LA ∧ R < LA ∧ s1.heap.objs.size + 1 + 1 + 1 + 1 + 1 < LA ∧ s1.heap.objs.size + 1 + 1 + 1 + 1 < LA ∧ s1.heap.objs.size + 1 + 1 + 1 < LA ∧ s1.heap.objs.size + 1 + 1 < LA ∧ s1.heap.objs.size + 1 < LA ∧ 580 < LA := by assumption
    rename (ND == sysModules) = false => hlo
    have c580 : 580 < s1.heap.objs.size + 1 + 1 + 1 + 1 + 1 ∧ 580 < s1.heap.objs.size + 1 + 1 + 1 + 1 ∧ 580 < s1.heap.objs.size + 1 + 1 + 1 ∧ 580 < s1.heap.objs.size + 1 + 1 ∧ 580 < s1.heap.objs.size + 1 := by
      have : 580 < s1.heap.objs.size := by assumption
      exact Mine.r528 this
    refine LCg.Assign_ListComp_U F7 (by rfl) (by with_unfolding_all rfl) (by with_unfolding_all rfl) (by decide) (by rfl) (by decide) (by rfl) (by rfl) (by rfl) ?_
    walk1
    refine LCg.CompSrc.ledger (by rfl) F7 N8 (.tail _ (.tail _ (.tail _ (.head _)))) (by rw [List.size_toArray, hvl, sizeLine_eq]; exact Mine.r354 hvl hwl hw43) fun g10 => ?_
    have hvz : vs.toArray.size = words.length := by rw [List.size_toArray, hvl]
    rw [hvz]
    refine comp_inv (fun σ => led7 ND LA σ [(R, LCg.lst vs), (s1.heap.objs.size + 1 + 1 + 1 + 1 + 1, o5), (s1.heap.objs.size + 1 + 1 + 1 + 1, o4), (s1.heap.objs.size + 1 + 1 + 1, o3), (s1.heap.objs.size + 1 + 1, o2), (s1.heap.objs.size + 1, o1)]) (RowIs w ND LA words) _ (RowIs.start lt2.1) ?turn2 ?fin2
    case turn2 =>
      intro i σ v I oI C oC D m₂ ys h tk E' hi hv hJ hC hmx F5 N5 off ne
      obtain ⟨a, ta, ha, rfl⟩ := src_words hvs i v hv hi
      have hal := (hwU a (List.mem_of_getElem? ha)).2
      simp only [led7, List.cons_append, List.nil_append] at N5 off
      clear N8 N7 F7
      w_strict k_steps
      unfold Stop
      rename Fr _ _ _ _ => F9
      rename News _ _ _ _ => N9
      subst ek
      have N10 := N9.perm (led7_in (rest := [(R, LCg.lst vs), (s1.heap.objs.size + 1 + 1 + 1 + 1 + 1, o5), (s1.heap.objs.size + 1 + 1 + 1 + 1, o4), (s1.heap.objs.size + 1 + 1 + 1, o3), (s1.heap.objs.size + 1 + 1, o2), (s1.heap.objs.size + 1, o1)]))
      have off3 := LCg.Off3.mem off
      have oND := off3 (ND, σ.oN) (.head _)
      have o580 := off3 (580, σ.tab) (.tail _ (.head _))
      dsimp only at oND o580
      have l41 := hJ.2.2.2.1
      refine net07 w (outer := []) B1 F9 X1 N10 hJ.1 hlo (by exact Mine.r142 hal) (by exact Mine.r333 hi l41 hw43) T1 (by rfl) (by rfl) codeHd ?hoff2 lt1.2.2.2.2.2.2 ?dp2 ?un2 ?rS2
      case hoff2 =>
        intro p hp
        simp only [List.mem_cons, List.not_mem_nil, or_false] at hp
        rcases hp with rfl | rfl | rfl | rfl | rfl | rfl | rfl | rfl | rfl
        · exact ⟨Ne.symm o580.1, Ne.symm oND.1⟩
        · exact ⟨Ne.symm o580.2.1, Ne.symm oND.2.1⟩
        · exact ⟨Ne.symm o580.2.2, Ne.symm oND.2.2⟩
        · exact ⟨Ne.symm oR0, Nat.ne_of_lt lt1.1⟩
        · exact ⟨Nat.ne_of_gt c580.1, Nat.ne_of_lt lt1.2.1⟩
        · exact ⟨Nat.ne_of_gt c580.2.1, Nat.ne_of_lt lt1.2.2.1⟩
        · exact ⟨Nat.ne_of_gt c580.2.2.1, Nat.ne_of_lt lt1.2.2.2.1⟩
        · exact ⟨Nat.ne_of_gt c580.2.2.2.1, Nat.ne_of_lt lt1.2.2.2.2.1⟩
        · exact ⟨Nat.ne_of_gt c580.2.2.2.2, Nat.ne_of_lt lt1.2.2.2.2.2.1⟩
      (case dp2 => k_room)
      (case un2 => k_units)
      intro h8 tk8 τ x F11 N11 O8 e8 ea8 ez8 x8 k8 g8
      have hJ8 := hJ.next ha O8 e8 ea8 ez8 x8 k8
      have elA : lA LA τ = lA LA σ := by unfold lA; rw [ea8, ez8]
      refine LCg.CompEnd.intro F11 (N11.perm led7_out) (led7 ND LA τ [(R, LCg.lst vs), (s1.heap.objs.size + 1 + 1 + 1 + 1 + 1, o5), (s1.heap.objs.size + 1 + 1 + 1 + 1, o4), (s1.heap.objs.size + 1 + 1 + 1, o3), (s1.heap.objs.size + 1 + 1, o2), (s1.heap.objs.size + 1, o1)]) (fun p hp => hp) (LCg.Off3.of fun p hp => ?_) (.inr ⟨LCg.lst vs, .tail _ (.tail _ (.tail _ (.head _))), rfl, _, rfl⟩) ⟨τ, rfl, hJ8⟩
      rcases List.mem_append.mp (show p ∈ ((ND, τ.oN) :: (580, τ.tab) :: lA LA τ :: (R, LCg.lst vs) :: (s1.heap.objs.size + 1 + 1 + 1 + 1 + 1, o5) :: (s1.heap.objs.size + 1 + 1 + 1 + 1, o4) :: (s1.heap.objs.size + 1 + 1 + 1, o3) :: (s1.heap.objs.size + 1 + 1, o2) :: [(s1.heap.objs.size + 1, o1)]) ++ τ.G from hp) with hp | hp
      · simp only [List.mem_cons, List.not_mem_nil, or_false] at hp
        rcases hp with rfl | rfl | rfl | rfl | rfl | rfl | rfl | rfl | rfl
        · exact oND
        · exact o580
        · rw [elA]; exact off3 (lA LA σ) (.tail _ (.tail _ (.head _)))
        · exact off3 _ (.tail _ (.tail _ (.tail _ (.head _))))
        · exact off3 _ (.tail _ (.tail _ (.tail _ (.tail _ (.head _)))))
        · exact off3 _ (.tail _ (.tail _ (.tail _ (.tail _ (.tail _ (.head _))))))
        · exact off3 _ (.tail _ (.tail _ (.tail _ (.tail _ (.tail _ (.tail _ (.head _)))))))
        · exact off3 _ (.tail _ (.tail _ (.tail _ (.tail _ (.tail _ (.tail _ (.tail _ (.head _))))))))
        · exact off3 _ (.tail _ (.tail _ (.tail _ (.tail _ (.tail _ (.tail _ (.tail _ (.tail _ (.head _)))))))))
      · rcases g8 p hp with hp | hp
        · exact off3 p (.tail _ (.tail _ (.tail _ (.tail _ (.tail _ (.tail _ (.tail _ (.tail _ (.tail _ hp)))))))))
        · exact ⟨Nat.ne_of_gt (hp (I, oI) (.tail _ (.head _))), Nat.ne_of_gt (hp (C, oC) (.tail _ (.tail _ (.head _)))), Nat.ne_of_gt (hp (D, LCg.lst ys) (.tail _ (.tail _ (.tail _ (.head _)))))⟩
    case fin2 =>
      intro ys σ hyl hJ D h7 tk7 F5 N5 off
      obtain ⟨hO, hdom, hys, hkl, hav, hza⟩ := hJ
      rw [List.take_length] at hdom hys
      subst hys
      simp only [led7, List.cons_append, List.nil_append] at N5 off
      have offD := off1_mem off
      clear N8 N7 F7
      w_strict k_steps
      unfold Stop
      rename Fr _ _ _ _ => F20
      rename News _ _ _ _ => N20
      obtain ⟨m₂, hm₂, F21⟩ := fr_name F20
      obtain ⟨ST, hST⟩ := stand_name B1 X1 T1
      obtain ⟨c5v, hc5⟩ : ∃ c, o5.data = .cell c := ⟨_, by assumption⟩
      obtain ⟨c4v, hc4⟩ : ∃ c, o4.data = .cell c := ⟨_, by assumption⟩
      obtain ⟨c3v, hc3⟩ : ∃ c, o3.data = .cell c := ⟨_, by assumption⟩
      obtain ⟨sub, hsub⟩ : ∃ sub, sub = (cfin List.dropLast ⟨words, [], []⟩).sub := ⟨_, rfl⟩
      obtain ⟨PA, hPA⟩ : ∃ PA, PA = MidA w s1 ND LA R vs o5 o4 o3 o2 o1 m₂ sub words ST := ⟨_, rfl⟩
      refine mid PA ?main3 ?rest3
      case rest3 =>
        intro s' hs3
        rw [hPA] at hs3
        clear hPA
        obtain ⟨g', h', tk', tv, τ, LX, e, F30, N30, hO3, htold, hA3, hdom3, hST', hLX⟩ := hs3
        subst e
        subst hST
        obtain ⟨T30, B30, X30, P30⟩ := hST'
        clear F20 N20 F21 B1 X1 T1
        subst hm₂
        obtain ⟨ps, hps⟩ : ∃ ps, τ.tab = tabObj ps := by
          rcases hO3.tabs with ⟨-, e⟩ | ⟨e, -⟩ <;> exact ⟨_, e⟩
        rw [hps] at N30
        obtain ⟨XG, hXG⟩ : ∃ XG, XG = LX ++ τ.G := ⟨_, rfl⟩
        rw [← hXG] at N30 hLX
        have cell34 : (s1.heap.objs.size + 1 + 1 + 1 : Nat) ≠ s1.heap.objs.size + 1 + 1 + 1 + 1 := by exact Mine.r462
        have cell24 : (s1.heap.objs.size + 1 + 1 : Nat) ≠ s1.heap.objs.size + 1 + 1 + 1 + 1 := by exact Mine.r432
        have cell14 : (s1.heap.objs.size + 1 : Nat) ≠ s1.heap.objs.size + 1 + 1 + 1 + 1 := by exact Mine.r381
        have cell45 : (s1.heap.objs.size + 1 + 1 + 1 + 1 : Nat) ≠ s1.heap.objs.size + 1 + 1 + 1 + 1 + 1 := by exact Mine.r496
        have cell35 : (s1.heap.objs.size + 1 + 1 + 1 : Nat) ≠ s1.heap.objs.size + 1 + 1 + 1 + 1 + 1 := by exact Mine.r486
        have cell25 : (s1.heap.objs.size + 1 + 1 : Nat) ≠ s1.heap.objs.size + 1 + 1 + 1 + 1 + 1 := by exact Mine.r463
        have cell15 : (s1.heap.objs.size + 1 : Nat) ≠ s1.heap.objs.size + 1 + 1 + 1 + 1 + 1 := by exact Mine.r433
        have cell43 : (s1.heap.objs.size + 1 + 1 + 1 + 1 : Nat) ≠ s1.heap.objs.size + 1 + 1 + 1 := by exact Mine.r464
        have cell53 : (s1.heap.objs.size + 1 + 1 + 1 + 1 + 1 : Nat) ≠ s1.heap.objs.size + 1 + 1 + 1 := by exact Mine.r487
        have cell23 : (s1.heap.objs.size + 1 + 1 : Nat) ≠ s1.heap.objs.size + 1 + 1 + 1 := by exact Mine.r382
        have cell13 : (s1.heap.objs.size + 1 : Nat) ≠ s1.heap.objs.size + 1 + 1 + 1 := by exact Mine.r331
        w_strict k_steps
        rename Fr g' _ _ _ => F31
        rename News g' _ _ _ => N31
        dsimp only at F31 N31 ⊢
        generalize hBK : h'.objs.size + 1 = BK at *
        rw [pick_back] at N31
        have ltB : ∀ p ∈ (ND, τ.oN) :: (580, tabObj ps) :: lA LA τ :: (R, LCg.lst vs) :: (s1.heap.objs.size + 1 + 1 + 1 + 1 + 1, o5) :: (s1.heap.objs.size + 1 + 1 + 1 + 1, o4) :: (s1.heap.objs.size + 1 + 1 + 1, o3) :: (s1.heap.objs.size + 1 + 1, o2) :: (s1.heap.objs.size + 1, o1) :: XG, @LT.lt Nat _ p.1 BK := fun p hp => by
          rw [← hBK]; exact Nat.lt_succ_of_lt (Heap.lt_size (N30 p hp).1)
        have ltBX : ∀ p ∈ XG, @LT.lt Nat _ p.1 BK := fun p hp => ltB p (.tail _ (.tail _ (.tail _ (.tail _ (.tail _ (.tail _ (.tail _ (.tail _ (.tail _ hp)))))))))
        have ltB1 : ND < BK ∧ 580 < BK ∧ LA < BK ∧ R < BK ∧ s1.heap.objs.size + 1 + 1 + 1 + 1 + 1 < BK ∧ s1.heap.objs.size + 1 + 1 + 1 + 1 < BK ∧ s1.heap.objs.size + 1 + 1 + 1 < BK ∧ s1.heap.objs.size + 1 + 1 < BK ∧ s1.heap.objs.size + 1 < BK :=
          ⟨ltB _ (.head _), ltB _ (.tail _ (.head _)), ltB _ (.tail _ (.tail _ (.head _))), ltB _ (.tail _ (.tail _ (.tail _ (.head _)))), ltB _ (.tail _ (.tail _ (.tail _ (.tail _ (.head _))))), ltB _ (.tail _ (.tail _ (.tail _ (.tail _ (.tail _ (.head _)))))), ltB _ (.tail _ (.tail _ (.tail _ (.tail _ (.tail _ (.tail _ (.head _))))))), ltB _ (.tail _ (.tail _ (.tail _ (.tail _ (.tail _ (.tail _ (.tail _ (.head _)))))))), ltB _ (.tail _ (.tail _ (.tail _ (.tail _ (.tail _ (.tail _ (.tail _ (.tail _ (.head _)))))))))⟩
        clear ltB N30 F30
        refine storeX_C F31 N31 (by rfl) (.tail ?a1 (.tail ?a2 (.tail ?a3 (.tail ?a4 (.tail ?a5 (.tail ?a6 (.head ?a7))))))) hc4 fun h33 o4' F33 N33 ho4 => ?_
        case a1 => exact Nat.ne_of_gt ltB1.2.2.2.2.2.1
        case a2 => exact Nat.ne_of_gt lt1.2.2.1
        case a3 => exact Nat.ne_of_lt c580.2.1
        case a4 => exact Nat.ne_of_gt lt2.2.2.2.1
        case a5 => exact Ne.symm oR4
        case a6 => show s1.heap.objs.size + 1 + 1 + 1 + 1 + 1 ≠ s1.heap.objs.size + 1 + 1 + 1 + 1; exact Mine.r497
        case a7 =>
          simp only [List.forall_mem_cons]
          exact ⟨cell34, cell24, cell14, fun p hp => (hLX p hp).2.1⟩
        (try dsimp only at N33)
        w_strict k_steps
        rename Fr g' _ _ _ => F34
        rename News g' _ _ _ => N34
        obtain ⟨MD, hMD, N35⟩ := head_name N34
        subst hMD
        have ltM : BK < MD ∧ ND < MD ∧ 580 < MD ∧ LA < MD ∧ R < MD ∧ s1.heap.objs.size + 1 + 1 + 1 + 1 + 1 < MD ∧ s1.heap.objs.size + 1 + 1 + 1 + 1 < MD ∧ s1.heap.objs.size + 1 + 1 + 1 < MD ∧ s1.heap.objs.size + 1 + 1 < MD ∧ s1.heap.objs.size + 1 < MD ∧ AllLt MD XG := by assumption
        refine storeX_C F34 N35 (by rfl) (.tail ?b1 (.tail ?b2 (.tail ?b3 (.tail ?b4 (.tail ?b5 (.tail ?b6 (.head ?b7))))))) hc5 fun h36 o5' F36 N36 ho5 => ?_
        case b1 => exact Nat.ne_of_gt ltM.2.2.2.2.2.1
        case b2 => exact Nat.ne_of_gt ltB1.2.2.2.2.1
        case b3 => exact Nat.ne_of_gt lt1.2.1
        case b4 => exact Nat.ne_of_lt c580.1
        case b5 => exact Nat.ne_of_gt lt2.2.2.1
        case b6 => exact Ne.symm oR5
        case b7 =>
          simp only [List.forall_mem_cons]
          exact ⟨cell45, cell35, cell25, cell15, fun p hp => (hLX p hp).1⟩
        (try dsimp only at N36)
        rename (MD == sysModules) = false => hloM
        w_strict k_steps
        unfold Stop
        refine wpAny_For ?_
        w_strict k_steps
        unfold Stop
        rename Fr g' _ _ _ => F37
        rename News g' _ _ _ => N37
        obtain ⟨TP, LF, hTP, hLF, N38⟩ := names2 N37
        subst hTP hLF
        have ltT : LF < TP ∧ MD < TP ∧ BK < TP ∧ ND < TP ∧ 580 < TP ∧ LA < TP ∧ R < TP ∧ s1.heap.objs.size + 1 + 1 + 1 + 1 + 1 < TP ∧ s1.heap.objs.size + 1 + 1 + 1 + 1 < TP ∧ s1.heap.objs.size + 1 + 1 + 1 < TP ∧ s1.heap.objs.size + 1 + 1 < TP ∧ s1.heap.objs.size + 1 < TP ∧ AllLt TP XG := by assumption
        have ltL : MD < LF ∧ BK < LF ∧ ND < LF ∧ 580 < LF ∧ LA < LF ∧ R < LF ∧ s1.heap.objs.size + 1 + 1 + 1 + 1 + 1 < LF ∧ s1.heap.objs.size + 1 + 1 + 1 + 1 < LF ∧ s1.heap.objs.size + 1 + 1 + 1 < LF ∧ s1.heap.objs.size + 1 + 1 < LF ∧ s1.heap.objs.size + 1 < LF ∧ AllLt LF XG := by assumption
        obtain ⟨m₀, hm₀, F38⟩ := fr_name F37
        obtain ⟨its, hitem, N39⟩ := tup_name N38
        obtain ⟨oB, hoB⟩ : ∃ oB : Obj, oB = { cls := .type "list", data := .seq vs.reverse.toArray } := ⟨_, rfl⟩
        rw [← hoB] at N39
        have hvsR : StrsAre vs.reverse (words.reverse.map wordStr) := strs_reverse hvs
        obtain ⟨FX, hFX⟩ : ∃ FX : List Addr, FX = LF :: MD :: BK :: ND :: 580 :: LA :: R :: (s1.heap.objs.size + 1 + 1 + 1 + 1 + 1) :: (s1.heap.objs.size + 1 + 1 + 1 + 1) :: (s1.heap.objs.size + 1 + 1 + 1) :: (s1.heap.objs.size + 1 + 1) :: (s1.heap.objs.size + 1) :: TP :: XG.map (·.1) := ⟨_, rfl⟩
        have hLx : m₀ (Str.ofString "left") = some (.ref LF) := by rw [hm₀]; rfl
        (try clear N37)
        (try clear N38)
        (try clear F37)
        (try clear F36)
        (try clear N36)
        (try clear F34)
        (try clear N34)
        (try clear N35)
        (try clear F33)
        (try clear N33)
        refine pyIter_tup9 (items := its) (z := 0) F38 N39 (.head _) fun I h40 F40 N40 off40 hIL hI0 st40 neI => ?_
        refine over_srcQ (s1 := { s1 with gens := s1.gens.push .finished }) (fun (d : DM) y => if y = Str.ofString "waits" then d.uW else if y = Str.ofString "half" then d.uH else if y = Str.ofString "i" then d.uI else if y = Str.ofString "size" then d.uS else m₀ y)
          (fun d => (LF, W.listOf d.lv.toArray d.lz) :: (MD, d.oM) :: (BK, oB) :: (ND, τ.oN) :: (580, tabObj ps) :: lA LA τ :: (R, LCg.lst vs) :: (s1.heap.objs.size + 1 + 1 + 1 + 1 + 1, o5') :: (s1.heap.objs.size + 1 + 1 + 1 + 1, o4') :: (s1.heap.objs.size + 1 + 1 + 1, d.o3) :: (s1.heap.objs.size + 1 + 1, o2) :: (s1.heap.objs.size + 1, o1) ::
            (TP, { cls := .type "tuple", data := .seq its }) :: (XG ++ d.ks.map lME))
          (fun _ j d => MOk w FX words.reverse d (offU j)) ⟨[], 0, dictOf [] 0, o3, [], m₀ (Str.ofString "size"), m₀ (Str.ofString "i"), m₀ (Str.ofString "half"), m₀ (Str.ofString "waits")⟩
          (src_tup9 (by rfl) neI fun d => .tail _ (.tail _ (.tail _ (.tail _ (.tail _ (.tail _ (.tail _ (.tail _ (.tail _ (.tail _ (.tail _ (.tail _ (.head _))))))))))))) F40 N40 off40 hIL hI0 st40 ⟨_, _, rfl⟩ (fun y => ?mS) ?lS ?pS ?gS ?turnS ?finS ?eS
        case eS => first | assumption | passes_own | with_unfolding_all passes_own
        case mS => exact fr_four
        case lS => exact rot12
        case pS => exact ⟨rfl, kp_isDict (w := w) (ex := []) 0 0 .nil, (fun e he => nomatch he), (fun e he => nomatch he), .nil, .nil, ⟨_, hc3⟩⟩
        case gS => exact fun i v s Q E _ _ hq => wpAny_pure hq
        case turnS =>
          intro TU E9 hE9 oI j d h41 tk41 v hj hv F41 N41 off41 hM hTU
          obtain ⟨hj4, u, rfl⟩ := hitem.2 j v hv
          obtain ⟨lv, lz, oM, o3x, ks, uS, uI, uH, uW⟩ := d
          dsimp only at F41 N41 off41
          have offI : ∀ b ∈ FX, b ≠ I := fun b hb => by
            rw [hFX] at hb
            exact addr_led off41 b hb
          refine wpAny_assign_Name ?_
          (try clear F38)
          (try clear N39)
          (try clear F40)
          (try clear N40)
          subst hm₀
          (try dsimp only)
          w_strict k_steps
          unfold Stop
          refine wpAny_For ?_
          w_strict k_steps
          unfold Stop
          rename Fr g' _ _ _ => F42
          rename News g' _ _ _ => N42
          refine all07 w (k := 3 - j) (outer := []) B30 F42 X30 N42 P30 (by rfl) (by rfl) (by exact Mine.r128) ?dpS ?unS ?rSS
          (case dpS => k_room)
          (case unS => k_units)
          intro h43 tk43 WL vsW zW F43 N43 hWL hvW
          (try dsimp only)
          w_strict k_steps
          unfold Stop
          rename Fr g' _ _ _ => F44
          rename News g' _ _ _ => N44
          obtain ⟨m₁, hm₁, F45⟩ := fr_name F44
          (try clear F42)
          (try clear F43)
          (try clear N42)
          (try clear N43)
          have hvWl : vsW.length = (lawAll (3 - j)).length := by rw [hvW.length, List.length_map]
          have hoW : ∀ p ∈ (I, oI) :: (LF, W.listOf lv.toArray lz) :: (MD, oM) :: (BK, oB) :: (ND, τ.oN) :: (580, tabObj ps) :: lA LA τ :: (R, LCg.lst vs) :: (s1.heap.objs.size + 1 + 1 + 1 + 1 + 1, o5') :: (s1.heap.objs.size + 1 + 1 + 1 + 1, o4') :: (s1.heap.objs.size + 1 + 1 + 1, o3x) :: (s1.heap.objs.size + 1 + 1, o2) :: (s1.heap.objs.size + 1, o1) ::
            (TP, { cls := .type "tuple", data := .seq its }) :: (XG ++ ks.map lME), p.1 ≠ WL := hWL
          refine pyIter_list9 F45 (N44.perm rot14) (.tail _ (.tail _ (.tail _ (.tail _ (.tail _ (.tail _ (.tail _ (.tail _ (.tail _ (.tail _ (.tail _ (.tail _ (.head _))))))))))))) fun I2 h46 F46 N46 off46 hIL2 hI02 st46 neI2 => ?_
          refine over_srcQ (s1 := { s1 with gens := s1.gens.push .finished }) (fun (d : DM) y => if y = Str.ofString "waits" then d.uW else if y = Str.ofString "half" then d.uH else if y = Str.ofString "i" then d.uI else m₁ y)
            (fun d => (LF, W.listOf d.lv.toArray d.lz) :: (MD, d.oM) :: (BK, oB) :: (ND, τ.oN) :: (580, tabObj ps) :: lA LA τ :: (R, LCg.lst vs) :: (s1.heap.objs.size + 1 + 1 + 1 + 1 + 1, o5') :: (s1.heap.objs.size + 1 + 1 + 1 + 1, o4') :: (s1.heap.objs.size + 1 + 1 + 1, d.o3) :: (s1.heap.objs.size + 1 + 1, o2) :: (s1.heap.objs.size + 1, o1) ::
              (WL, W.listOf vsW.toArray zW) :: (I, oI) :: (TP, { cls := .type "tuple", data := .seq its }) :: (XG ++ d.ks.map lME))
            (fun _ i d => MOk w (WL :: I :: FX) words.reverse d (offU j + i)) ⟨lv, lz, oM, o3x, ks, none, m₁ (Str.ofString "i"), m₁ (Str.ofString "half"), m₁ (Str.ofString "waits")⟩
            (src_list9 (items := vsW.toArray) (by rfl) neI2 fun d => ⟨zW, .tail _ (.tail _ (.tail _ (.tail _ (.tail _ (.tail _ (.tail _ (.tail _ (.tail _ (.tail _ (.tail _ (.tail _ (.head _))))))))))))⟩) F46 N46 off46 hIL2 hI02 st46 ⟨_, _, rfl⟩ (fun y => ?mW) (fun p hp => hp) ?pW ?gW ?turnW ?finW ?eW
          case eW => first | assumption | passes_own | with_unfolding_all passes_own
          case mW => exact fr_three
          case pW =>
            refine ⟨hM.words, hM.dict, hM.each, fun e he b hb => ?_, hM.adds, hM.left, hM.cell⟩
            have he' : lME e ∈ XG ++ ks.map lME := List.mem_append_right _ (List.mem_map_of_mem he)
            rcases List.mem_cons.mp hb with rfl | hb
            · exact Ne.symm (hoW (lME e) (.tail _ (.tail _ (.tail _ (.tail _ (.tail _ (.tail _ (.tail _ (.tail _ (.tail _ (.tail _ (.tail _ (.tail _ (.tail _ (.tail _ he')))))))))))))))
            rcases List.mem_cons.mp hb with rfl | hb
            · exact Ne.symm (off41 (lME e) (.tail _ (.tail _ (.tail _ (.tail _ (.tail _ (.tail _ (.tail _ (.tail _ (.tail _ (.tail _ (.tail _ (.tail _ (.tail _ he'))))))))))))))
            exact hM.off e he b hb
          case gW => exact fun i v s Q E _ _ hq => wpAny_pure hq
          case turnW =>
            intro TU E9 hE9 oI2 i d h51 tk51 v hi hv F51 N51 off51 hM2 hTU
            obtain ⟨a, ta, ha, rfl⟩ := src_words hvW i v hv (by rw [List.size_toArray, hvWl] at hi; exact hi)
            have haU := lawU_at hj4 ha
            obtain ⟨lv2, lz2, oM2, o3y, ks2, uS2, uI2, uH2, uW2⟩ := d
            dsimp only at F51 N51 off51
            obtain ⟨c3w, hc3w⟩ := hM2.cell
            have kM : ∀ p ∈ ks2.map lME, p.1 ≠ s1.heap.objs.size + 1 + 1 + 1 := fun p hp => by
              obtain ⟨e, he, rfl⟩ := List.mem_map.mp hp
              exact Ne.symm (hM2.off e he _ (by rw [hFX]; exact .tail _ (.tail _ (.tail _ (.tail _ (.tail _ (.tail _ (.tail _ (.tail _ (.tail _ (.tail _ (.tail _ (.head _)))))))))))))
            have cI2 : I2 ≠ s1.heap.objs.size + 1 + 1 + 1 := Ne.symm (off51 _ (.tail _ (.tail _ (.tail _ (.tail _ (.tail _ (.tail _ (.tail _ (.tail _ (.tail _ (.head _)))))))))))
            have cWL : WL ≠ s1.heap.objs.size + 1 + 1 + 1 := Ne.symm (hoW _ (.tail _ (.tail _ (.tail _ (.tail _ (.tail _ (.tail _ (.tail _ (.tail _ (.tail _ (.tail _ (.head _))))))))))))
            have cI : I ≠ s1.heap.objs.size + 1 + 1 + 1 := Ne.symm (offI _ (by rw [hFX]; exact .tail _ (.tail _ (.tail _ (.tail _ (.tail _ (.tail _ (.tail _ (.tail _ (.tail _ (.head _)))))))))))
            (try clear F45)
            (try clear F44)
            (try clear F46)
            (try clear N44)
            (try clear N46)
            subst hm₁
            subst hoB
            (try dsimp only)
            refine wpAny_assign_Name ?_
            refine storeX_C F51 N51 (by rfl) (.tail cI2 (.tail (Nat.ne_of_gt ltL.2.2.2.2.2.2.2.2.1) (.tail (Nat.ne_of_gt ltM.2.2.2.2.2.2.2.1) (.tail (Nat.ne_of_gt ltB1.2.2.2.2.2.2.1) (.tail (Nat.ne_of_gt lt1.2.2.2.1) (.tail (Nat.ne_of_lt c580.2.2.1) (.tail (Nat.ne_of_gt lt2.2.2.2.2.1) (.tail (Ne.symm oR3) (.tail cell53 (.tail cell43 (.head ?hc3))))))))))) hc3w fun h52 o3n F52 N52 ho3n => ?_
            case hc3 =>
              simp only [List.forall_mem_cons]
              exact ⟨cell23, cell13, cWL, cI, Nat.ne_of_gt ltT.2.2.2.2.2.2.2.2.2.1, fun p hp => (List.mem_append.mp hp).elim (fun h => (hLX p h).2.2) (kM p)⟩
            (try dsimp only at N52)
            w_strict k_steps
            unfold Stop
            rename Fr g' _ _ _ => F53
            refine LCt.ListComp_T F53 (by with_unfolding_all rfl) (by decide) (by rfl) (by decide) (by rfl) ?_
            w_strict k_steps
            unfold Stop
            rename News g' _ _ _ => N53
            have hbl : vs.reverse.toArray.size = words.length := by rw [List.size_toArray, List.length_reverse, hvl]
            refine PySem.Calls.call_len_list (items := vs.reverse.toArray) (News.isList N53 (by k_mem)) (by rw [hbl]; omega) ?_
            rw [hbl]
            w_strict k_steps
            unfold Stop
            rename Fr g' _ _ _ => F54
            rename News g' _ _ _ => N54
            rename IsRange _ _ _ _ _ _ _ _ => hR54
            have hr63 := small63 (n := words.length) (by exact Mine.r150 hw43)
            refine LCt.CompSrcT.range (by rfl) F54 N54 hR54 hr63.1 (n := words.length) hr63.2 (by rw [sizeLine_eq]; exact Mine.r73 hw43) fun g9 => ?_
            have hrl : (List.range words.length).length = words.length := List.length_range
            refine comp_intsN (List.range words.length) hrl (fun b => decide (words.reverse[b]? = some a)) ?srcC ?turnC ?finC
            case srcC =>
              have := src_range (n := words.length) (a := 0) rfl
              rw [hrl] at this
              exact this
            case turnC =>
              intro i3 b t3 I3 oI3 C9 oC D9 m₃ ys h tk E' hb hC hmx F55 N55 off ne
              have hb1 : b = i3 := by
                have := (List.getElem?_eq_some_iff.mp hb).2
                rw [List.getElem_range] at this; exact this.symm
              have hb2 : b < words.length := by
                have := (List.getElem?_eq_some_iff.mp hb).1
                rw [hrl] at this; exact Mine.r159 this hb1
              have hrb : words.reverse[b]? = some (words.reverse[b]'(by rw [List.length_reverse]; exact hb2)) := List.getElem?_eq_getElem _
              obtain ⟨y, hy⟩ : ∃ y, y = words.reverse[b]'(by rw [List.length_reverse]; exact hb2) := ⟨_, rfl⟩
              rw [← hy] at hrb
              obtain ⟨ty, hty⟩ := strs_at hvsR hrb
              (try clear F54)
              (try clear N54)
              (try clear F53)
              (try clear N53)
              (try clear F52)
              (try clear N52)
              w_strict k_steps
              unfold Stop
              rename Fr g' _ _ _ => F56
              rename News g' _ _ _ => N56
              refine item_listL (News.isList N56 (by k_mem)) (by exact Mine.r48) (by omega) hty ?_
              w_strict k_steps
              · unfold Stop
                have hyz : (wordStr y == wordStr a) = true := by assumption
                have hya : y = a := wordStr_inj (by simpa using hyz)
                exact LCg.CompEnd.intro F56 N56 _ (fun p hp => hp) off trivial ⟨rfl, by rw [decide_eq_true_eq, hrb, hya], _, rfl⟩
              · unfold Stop
                have hyz : (wordStr y == wordStr a) = false := by assumption
                have hya : ¬ y = a := fun e => by rw [e] at hyz; simp at hyz
                exact LCg.CompEnd.intro F56 N56 _ (fun p hp => hp) off trivial ⟨rfl, by rw [decide_eq_false_iff_not, hrb]; exact fun e => hya (Option.some.inj e)⟩
            case finC =>
              intro fv hfv D5 h5 tk5 F57 N57 o57
              have hoD := off1_mem o57
              dsimp only
              (try clear F54)
              (try clear N54)
              (try clear F53)
              (try clear N53)
              (try clear F52)
              (try clear N52)
              w_strict k_steps
              rename Fr g' _ _ _ => F58
              rename News g' _ _ _ => N58
              have inFX : ∀ b ∈ LF :: MD :: BK :: ND :: 580 :: LA :: R :: (s1.heap.objs.size + 1 + 1 + 1 + 1 + 1) :: (s1.heap.objs.size + 1 + 1 + 1 + 1) :: (s1.heap.objs.size + 1 + 1 + 1) :: (s1.heap.objs.size + 1 + 1) :: (s1.heap.objs.size + 1) :: TP :: XG.map (·.1), b ∈ FX := fun b hb => by rw [hFX]; exact hb
              have kMD : ∀ p ∈ ks2.map lME, p.1 ≠ MD := fun p hp => by
                obtain ⟨e, he, rfl⟩ := List.mem_map.mp hp
                exact Ne.symm (hM2.off e he MD (.tail _ (.tail _ (inFX _ (.tail _ (.head _))))))
              have kLF : ∀ p ∈ ks2.map lME, p.1 ≠ LF := fun p hp => by
                obtain ⟨e, he, rfl⟩ := List.mem_map.mp hp
                exact Ne.symm (hM2.off e he LF (.tail _ (.tail _ (inFX _ (.head _)))))
              have oDM : D5 ≠ MD := Ne.symm (hoD _ (.tail _ (.tail _ (.head _))))
              have oIM : I2 ≠ MD := Ne.symm (off51 _ (.tail _ (.head _)))
              have oWM : WL ≠ MD := Ne.symm (hoW _ (.tail _ (.tail _ (.head _))))
              have oI1M : I ≠ MD := Ne.symm (offI MD (inFX _ (.tail _ (.head _))))
              have hka : valueAt (kvsM ks2) (wordStr a) = none := (kvsM_look (by rw [hM2.words]; exact lawU_nodup.sublist (List.take_sublist _ _))).2 (by rw [hM2.words]; exact new_word haU)
              have hMw : ks2.map (·.w) = lawU.take (offU j + i) := hM2.words
              have hMd : oM2.IsDictOf (PySem.strKind P7 w) (kvsM ks2) := hM2.dict
              have hk15 : ks2.length ≤ 15 := by
                have := congrArg List.length hMw
                rw [List.length_map, List.length_take, show lawU.length = 15 by decide +kernel] at this
                exact Mine.r274 this
              refine kda_set (knd := PySem.strKind _ _) F58 N58 (UpdF.tail oDM (UpdF.tail oIM (UpdF.tail (Nat.ne_of_gt ltL.1) (UpdF.head ?hMD)))) hMd (strKind_is _ _ _ _) (by rw [List.length_map, sizeLine_eq]; exact Mine.r74 hk15) ?_
              case hMD =>
                simp only [List.forall_mem_cons]
                exact ⟨Nat.ne_of_lt ltM.1, Nat.ne_of_lt ltM.2.1, Nat.ne_of_lt ltM.2.2.1, Nat.ne_of_lt ltM.2.2.2.1, Nat.ne_of_lt ltM.2.2.2.2.1, Nat.ne_of_lt ltM.2.2.2.2.2.1, Nat.ne_of_lt ltM.2.2.2.2.2.2.1, Nat.ne_of_lt ltM.2.2.2.2.2.2.2.1, Nat.ne_of_lt ltM.2.2.2.2.2.2.2.2.1, Nat.ne_of_lt ltM.2.2.2.2.2.2.2.2.2.1, oWM, oI1M, Nat.ne_of_gt ltT.2.1, fun p hp => (List.mem_append.mp hp).elim (fun h => Nat.ne_of_lt (allLt_mem ltM.2.2.2.2.2.2.2.2.2.2 p h)) (kMD p)⟩
              intro h60 oM3 F60 N60 hoM3
              rw [stored_new hka] at hoM3
              (try dsimp only at N60)
              w_strict k_steps
              unfold Stop
              refine wpAny_For ?_
              w_strict k_steps
              unfold Stop
              rename Fr g' _ _ _ => F61
              rename News g' _ _ _ => N61
              have hUb : ∀ v ∈ words.reverse, Is1 v ∧ v.length ≤ 4 := fun v hv => hwU v (List.mem_reverse.mp hv)
              obtain ⟨mo, hmo⟩ : ∃ mo : Bool → List Nat, ∀ b, (mo b).Perm (hits (a ++ [b]) (runsW W0 words.reverse).1 0) ∧ ((∃ e ∈ ks2, e.w = a ++ [b] ∧ e.ns = mo b ∧ IntsAre e.vals ((mo b).map Int.ofNat) ∧ valueAt (kvsM ks2) (wordStr (a ++ [b])) = some (.ref e.a)) ∨ (mo b = [] ∧ valueAt (kvsM ks2) (wordStr (a ++ [b])) = none)) :=
                ⟨fun b => Classical.choose (half_list hM2 haU hUb b), fun b => Classical.choose_spec (half_list hM2 haU hUb b)⟩
              have hmol : ∀ b, (mo b).length ≤ 43 := fun b => by
                have h1 := (hmo b).1.length_eq
                have h2 := hits_length (a ++ [b]) (runsW W0 words.reverse).1 0
                rw [runs_length, List.length_reverse] at h2
                exact Mine.r96 h1 h2 hw43
              refine comp2_evalF F61 (δ := List (Addr × Obj)) (LED := fun T => (D5, LCg.lst fv) :: (I2, oI2) :: (LF, W.listOf lv2.toArray lz2) :: (MD, oM3) :: (BK, { cls := .type "list", data := .seq vs.reverse.toArray }) :: (ND, τ.oN) :: (580, tabObj ps) :: lA LA τ :: (R, LCg.lst vs) :: (s1.heap.objs.size + 1 + 1 + 1 + 1 + 1, o5') :: (s1.heap.objs.size + 1 + 1 + 1 + 1, o4') :: (s1.heap.objs.size + 1 + 1 + 1, o3n) :: (s1.heap.objs.size + 1 + 1, o2) :: (s1.heap.objs.size + 1, o1) ::
                (WL, W.listOf vsW.toArray zW) :: (I, oI) :: (TP, { cls := .type "tuple", data := .seq its }) :: (T ++ (XG ++ ks2.map lME)))
                (J1 := fun i ys T => Rel2 (PairAt T) ys (([false, true].take i).flatMap fun b => pairsM b (mo b))) (by with_unfolding_all rfl) (by decide) (by rfl) (by decide) (by rfl) (by rfl) (by decide) ?_
              walk1
              refine pyIter_ascii9 (by decide +kernel) F61 N61 fun I5 h62 F62 N62 o62 l62 b62 st62 => ?_
              refine ⟨I5, 2, SignAt (Str.ofString "01"), fun i h => h.IsStrIter I5 "str_ascii_iterator" (Str.ofString "01") _ i, [], rfl, F62, N62, o62, l62, b62, ?srcH, st62, .nil, ?outH, ?finH⟩
              case srcH => exact src_ascii9 (x := Str.ofString "01") (by rfl)
              case outH =>
                intro C9 D9 i5 v5 T ys oI9 oC9 m9 h9 tk9 E9 hi9 hv9 hJ9 hC9 hm9 F9 N9 o91 o92 o93
                obtain ⟨b, tb, rfl, hb, _⟩ := sign01 hv9
                (try clear F57)
                (try clear N57)
                (try clear F58)
                (try clear N58)
                (try clear F60)
                (try clear N60)
                (try clear F61)
                (try clear N61)
                (try clear F62)
                (try clear N62)
                dsimp only at N9
                w_strict k_steps
                have hal : a.length ≤ 4 := by rw [lawAll_mem (3 - j) a (List.mem_of_getElem? ha)]; exact Mine.r75
                refine add_small (by rw [wordStr_len]; exact Mine.r25 hal) (by rw [wordStr_len]; show 1 ≤ 200; exact Mine.r21) fun t5 tk5 => ?_
                rw [word_add]
                (try dsimp only)
                w_strict k_steps
                rename Fr g' _ _ _ => F63
                rename News g' _ _ _ => N63
                obtain ⟨NL, hNL, N64⟩ := head_name N63
                subst hNL
                rename I5 < NL ∧ _ => oN
                obtain ⟨ea, vals, zz, hget, hint, hmemA⟩ : ∃ (ea : Addr) (vals : List Value) (zz : Nat), (valueAt (kvsM ks2 ++ [(wordStr a, Value.ref D5)]) (wordStr (a ++ [b]))).getD (.ref NL) = .ref ea ∧ IntsAre vals ((mo b).map Int.ofNat) ∧ (ea, W.listOf vals.toArray zz) ∈ (NL, W.listOf #[] 0) :: ks2.map lME := by
                  have hne : ¬ wordStr a = wordStr (a ++ [b]) := fun e => by have := congrArg List.length (wordStr_inj e); simp at this
                  rw [valueAt_snoc hka, if_neg hne]
                  rcases (hmo b).2 with ⟨e, he, -, -, hint, hval⟩ | ⟨hm0, hval⟩
                  · exact ⟨e.a, e.vals, e.z, by rw [hval]; rfl, hint, .tail _ (List.mem_map_of_mem (f := lME) he)⟩
                  · exact ⟨NL, [], 0, by rw [hval]; rfl, by rw [hm0]; exact .nil, .head _⟩
                have hmemL : ∀ T' : List (Addr × Obj), (NL, W.listOf #[] 0) ∈ T' → (ea, W.listOf vals.toArray zz) ∈ T' ++ (XG ++ ks2.map lME) := fun T' hT => by
                  rcases List.mem_cons.mp hmemA with h | h
                  · rw [h]; exact List.mem_append_left _ hT
                  · exact List.mem_append_right _ (List.mem_append_right _ h)
                have hvml : vals.length = (mo b).length := by rw [hint.length, List.length_map]
                refine kdg_get2 (knd := PySem.strKind _ _) N64 (.tail _ (.tail _ (.tail _ (.tail _ (.tail _ (.tail _ (.tail _ (.head _)))))))) hoM3 hloM (strKind_is _ _ _ _) _ rfl ?_
                rw [hget]
                (try dsimp only [qk])
                (try dsimp only)
                refine pyIter_list9 F63 (N64.perm rot20) (.tail _ (.tail _ (.tail _ (.tail _ (.tail _ (.tail _ (.tail _ (.tail _ (.tail _ (.tail _ (.tail _ (.tail _ (.tail _ (.tail _ (.tail _ (.tail _ (.tail _ (.tail _ (.tail _ (.tail _ (hmemL (_ :: _) (.head _)))))))))))))))))))))) fun I6 h65 F65 N65 o65 l65 b65 st65 ne65 => ?_
                refine ⟨{ T' : List (Addr × Obj) // (NL, W.listOf #[] 0) ∈ T' }, Subtype.val, I6, vals.toArray.size, fun j v => vals.toArray[j]? = some v, _, fun j ys T' => Rel2 (PairAt T'.1) ys ((([false, true].take i5).flatMap fun b => pairsM b (mo b)) ++ pairsM b ((mo b).take j)), h65, _, ⟨(NL, W.listOf #[] 0) :: T, .head _⟩, rfl, rfl, F65, N65, ?oa, ?ob, ?oc, ?od, ⟨Ne.symm (o65 _ (.head _)), Ne.symm (o65 _ (.tail _ (.head _))), Ne.symm (o65 _ (.tail _ (.tail _ (.head _)))), l65, b65⟩, src_list9 (items := vals.toArray) (by rfl) ne65 (fun d => ⟨zz, ?me⟩), st65, ?j0, ?jl, ?turnH, ?upH⟩
                case oa => exact fun p hp => (ins17 p hp).elim (fun e => by rw [e]; exact Nat.ne_of_gt oN.1) (o91 p)
                case ob => exact fun p hp => (ins17 p hp).elim (fun e => by rw [e]; exact Nat.ne_of_gt oN.2.1) (o92 p)
                case oc => exact fun p hp => (ins17 p hp).elim (fun e => by rw [e]; exact Nat.ne_of_gt oN.2.2.1) (o93 p)
                case od => exact fun p hp => o65 p (.tail _ (.tail _ (.tail _ hp)))
                case me => exact .tail _ (.tail _ (.tail _ (.tail _ (.tail _ (.tail _ (.tail _ (.tail _ (.tail _ (.tail _ (.tail _ (.tail _ (.tail _ (.tail _ (.tail _ (.tail _ (.tail _ (hmemL d.1 d.2)))))))))))))))))
                case j0 =>
                  show Rel2 _ _ (_ ++ [])
                  rw [List.append_nil]
                  exact hJ9.mono fun v d h => by
                    obtain ⟨t, o, t1, u, n, e1, e2, r⟩ := h
                    exact ⟨t, o, t1, u, n, e1, .tail _ e2, r⟩
                case jl =>
                  intro j ys T' hT
                  rw [hT.length, List.length_append, List.length_map, List.length_take]
                  have h1 : (([false, true].take i5).flatMap fun b => pairsM b (mo b)).length ≤ 86 := by
                    have : i5 = 0 ∨ i5 = 1 := by exact Mine.r38 (by assumption)
                    rcases this with rfl | rfl
                    · simp
                    · show ((pairsM false (mo false)) ++ []).length ≤ 86
                      rw [List.length_append, List.length_map]
                      have := hmol false
                      simp only [List.length_nil]; exact Mine.r223 this
                  have := hmol b
                  exact Mine.r367 this h1
                case upH =>
                  intro ys T' hT
                  have e2 : ([false, true].take (i5 + 1)).flatMap (fun b => pairsM b (mo b)) = (([false, true].take i5).flatMap fun b => pairsM b (mo b)) ++ pairsM b (mo b) := by
                    have : i5 = 0 ∨ i5 = 1 := by exact Mine.r38 (by assumption)
                    rcases this with rfl | rfl <;> (subst hb; simp)
                  rw [e2]
                  have et : (mo b).take vals.toArray.size = mo b := List.take_of_length_le (by rw [List.size_toArray, hvml]; exact Nat.le_refl _)
                  rw [et] at hT
                  exact hT
                case turnH =>
                  intro j v T' ys1 oI6 oC1 m1 h1 tk1 E1 hj1 hv1 hJ1 hC1 hy1 hx1 F1 N1 o11 o12 o13 o14
                  obtain ⟨n, tn, hn, rfl⟩ := src_list hint j v hv1 (by rw [List.size_toArray, hvml] at hj1; exact hj1)
                  refine wpAny_mono (Q := End2 _) ?_ (fun _ _ h => h) (fun _ _ e => e)
                  (try clear F9)
                  (try clear N9)
                  (try clear F63)
                  (try clear N63)
                  (try clear N64)
                  (try clear F65)
                  (try clear N65)
                  dsimp only at N1
                  w_strict k_steps
                  unfold Stop
                  rename Fr g' _ _ _ => F66
                  rename News g' _ _ _ => N66
                  obtain ⟨TN, hTN, N67⟩ := head_name N66
                  subst hTN
                  rename I6 < TN ∧ _ => oT
                  refine ⟨_, _, ⟨(TN, { cls := .type "tuple", data := .seq #[Value.int (n : Int) tn, Value.str (wordStr [b]) tb] }) :: T'.1, .tail _ T'.2⟩, rfl, F66, N67.perm rot21, ?p1, ?p2, ?p3, ?p4, ?pj⟩
                  case p1 => exact fun p hp => (ins17 p hp).elim (fun e => by rw [e]; exact Nat.ne_of_gt oT.1) (o11 p)
                  case p2 => exact fun p hp => (ins17 p hp).elim (fun e => by rw [e]; exact Nat.ne_of_gt oT.2.1) (o12 p)
                  case p3 => exact fun p hp => (ins17 p hp).elim (fun e => by rw [e]; exact Nat.ne_of_gt oT.2.2.1) (o13 p)
                  case p4 => exact fun p hp => (ins17 p hp).elim (fun e => by rw [e]; exact Nat.ne_of_gt oT.2.2.2.1) (o14 p)
                  case pj =>
                    have e3 : (mo b).take (j + 1) = (mo b).take j ++ [n] := by rw [List.take_add_one, hn]; rfl
                    show Rel2 _ _ (_ ++ pairsM b ((mo b).take (j + 1)))
                    rw [e3, show pairsM b ((mo b).take j ++ [n]) = pairsM b ((mo b).take j) ++ [(n, wordStr [b])] by simp [pairsM], ← List.append_assoc]
                    refine Rel2.append (hJ1.mono fun v d h => ?_) (.cons ⟨TN, _, tn, tb, 0, rfl, .head _, rfl, rfl⟩ .nil)
                    obtain ⟨t, o, t1, u, n, e1, e2, r⟩ := h
                    exact ⟨t, o, t1, u, n, e1, .tail _ e2, r⟩
              case finH =>
                intro ys T hT D8 h68 tk68 F68 N68 o68
                (try clear F57)
                (try clear N57)
                (try clear F58)
                (try clear N58)
                (try clear F60)
                (try clear N60)
                (try clear F61)
                (try clear N61)
                (try clear F62)
                (try clear N62)
                (try dsimp only at N68)
                have o8D : D8 ≠ D5 := Ne.symm (off1_mem o68 _ (.head _))
                have o8L : D8 ≠ LF := Ne.symm (off1_mem o68 _ (.tail _ (.tail _ (.head _))))
                obtain ⟨T2, hT2, hTc, hTs⟩ := only_tups hT
                replace N68 := N68.perm (pre18 hTs)
                clear hTs o68 hT
                w_strict k_steps
                have hds : (([false, true].take 2).flatMap fun b => pairsM b (mo b)) = pairsM false (mo false) ++ pairsM true (mo true) := by simp
                rw [hds] at hT2
                have hDesc : DescAll (runsW W0 words.reverse).1 := (runs_U hUb).1
                have inT : ∀ q ∈ T2, q ∈ (D8, LCg.lst ys) :: (D5, LCg.lst fv) :: (I2, oI2) :: (LF, W.listOf lv2.toArray lz2) :: (MD, oM3) :: (BK, { cls := .type "list", data := .seq vs.reverse.toArray }) :: (ND, τ.oN) :: (580, tabObj ps) :: lA LA τ :: (R, LCg.lst vs) :: (s1.heap.objs.size + 1 + 1 + 1 + 1 + 1, o5') :: (s1.heap.objs.size + 1 + 1 + 1 + 1, o4') :: (s1.heap.objs.size + 1 + 1 + 1, o3n) :: (s1.heap.objs.size + 1 + 1, o2) :: (s1.heap.objs.size + 1, o1) ::
                  (WL, W.listOf vsW.toArray zW) :: (I, oI) :: (TP, { cls := .type "tuple", data := .seq its }) :: (T2 ++ (XG ++ ks2.map lME)) := fun q hq =>
                  .tail _ (.tail _ (.tail _ (.tail _ (.tail _ (.tail _ (.tail _ (.tail _ (.tail _ (.tail _ (.tail _ (.tail _ (.tail _ (.tail _ (.tail _ (.tail _ (.tail _ (.tail _ (List.mem_append_left _ hq))))))))))))))))))
                refine sorted_pairs F68 N68 (News.isList N68 (.head _)) (hT2.mono fun v d h => ?hTm) ?h128 ?huq fun D7 out es c7 h69 F69 N69 hlt69 hR hperm hsort => ?_
                case hTm =>
                  obtain ⟨t, o, t1, u, n, e1, e2, r⟩ := h
                  exact ⟨t, o, t1, u, n, e1, inT _ e2, r⟩
                case h128 =>
                  rw [List.length_append, List.length_map, List.length_map]
                  have h1 := hmol false
                  have h2 := hmol true
                  exact Mine.r324 h1 h2
                case huq =>
                  have two : ∀ (i : Nat), i ∈ mo false → i ∈ mo true → False := fun i h0 h1 => hits_apart hDesc ((hmo false).1.mem_iff.mp h0) ((hmo true).1.mem_iff.mp h1)
                  intro d hd e he hde
                  rcases List.mem_append.mp hd with hd | hd <;> rcases List.mem_append.mp he with he | he <;> (obtain ⟨x, hx, rfl⟩ := List.mem_map.mp hd; obtain ⟨y, hy, rfl⟩ := List.mem_map.mp he; dsimp only at hde; subst hde)
                  · rfl
                  · exact (two _ hx hy).elim
                  · exact (two _ hy hx).elim
                  · rfl
                have hesW : ∀ p ∈ es, p.2 = wordStr [decB p.2] := fun p hp => by
                  have := hperm.mem_iff.mp hp
                  rcases List.mem_append.mp this with h | h <;> (obtain ⟨x, hx, rfl⟩ := List.mem_map.mp h; dsimp only; rw [decB_word])
                obtain ⟨esB, hesB⟩ : ∃ esB, esB = es.map fun p => (p.1, decB p.2) := ⟨_, rfl⟩
                have hpB : esB.Perm ((mo false).map (fun i => (i, false)) ++ (mo true).map (fun i => (i, true))) := by
                  have := hperm.map fun p => (p.1, decB p.2)
                  rw [← hesB, List.map_append, List.map_map, List.map_map] at this
                  have q1 : ((fun p : Nat × Str => (p.1, decB p.2)) ∘ fun i => (i, wordStr [false])) = fun i => (i, false) := by funext i; show (i, decB (wordStr [false])) = _; rw [decB_word]
                  have q2 : ((fun p : Nat × Str => (p.1, decB p.2)) ∘ fun i => (i, wordStr [true])) = fun i => (i, true) := by funext i; show (i, decB (wordStr [true])) = _; rw [decB_word]
                  rw [q1, q2] at this
                  exact this
                have hsB : esB.Pairwise fun a b => a.1 ≤ b.1 := by rw [hesB, List.pairwise_map]; exact hsort
                have step7 := mom_step (fun v hv => (hUb v hv).1) (hmo false).1 (hmo true).1 hpB hsB
                (try dsimp only)
                w_strict k_steps
                unfold Stop
                rename Fr g' _ _ _ => F70
                rename News g' _ _ _ => N70
                obtain ⟨m₅, hm₅, F71⟩ := fr_name F70
                have hfvr : IntsAre fv ((rowsOf a words.reverse 0).map Int.ofNat) := by
                  rw [rowsOf_zero, List.length_reverse]; exact hfv
                refine pyIter_list9 F71 N70 (.head _) fun I7 h72 F72 N72 off72 hIL7 hI07 st72 neI7 => ?_
                refine over_srcQ (s1 := { s1 with gens := s1.gens.push .finished }) (fun (d : List Value × Nat × Option Value × Option Value × Option Value) y => if y = Str.ofString "waits" then d.2.2.2.2 else if y = Str.ofString "half" then d.2.2.2.1 else if y = Str.ofString "i" then d.2.2.1 else m₅ y)
                  (fun d => (D7, W.listOf out.toArray c7) :: (D8, LCg.lst ys) :: (D5, W.listOf d.1.toArray d.2.1) :: (I2, oI2) :: (LF, W.listOf lv2.toArray lz2) :: (MD, oM3) :: (BK, { cls := .type "list", data := .seq vs.reverse.toArray }) :: (ND, τ.oN) :: (580, tabObj ps) :: lA LA τ :: (R, LCg.lst vs) :: (s1.heap.objs.size + 1 + 1 + 1 + 1 + 1, o5') :: (s1.heap.objs.size + 1 + 1 + 1 + 1, o4') :: (s1.heap.objs.size + 1 + 1 + 1, o3n) :: (s1.heap.objs.size + 1 + 1, o2) :: (s1.heap.objs.size + 1, o1) ::
                    (WL, W.listOf vsW.toArray zW) :: (I, oI) :: (TP, { cls := .type "tuple", data := .seq its }) :: (T2 ++ (XG ++ ks2.map lME)))
                  (fun _ i d => ∃ (o : Option Bool) (outl : List Nat), encW o d.2.2.2.2 ∧ IntsAre d.1 ((rowsOf a words.reverse 0 ++ outl).map Int.ofNat) ∧ scan none esB = ((scan o (esB.drop i)).1, outl ++ (scan o (esB.drop i)).2) ∧ outl.length ≤ i)
                  ⟨fv, fv.length, m₅ (Str.ofString "i"), m₅ (Str.ofString "half"), m₅ (Str.ofString "waits")⟩
                  (src_list9 (items := out.toArray) (by rfl) neI7 fun d => ⟨c7, .head _⟩) F72 N72 off72 hIL7 hI07 st72 ⟨_, _, rfl⟩ (fun y => ?mV) (fun p hp => hp) ?pV ?gV ?turnV ?finV ?eV
                case eV => first | assumption | passes_own | with_unfolding_all passes_own
                case mV => exact fr_three
                case pV =>
                  refine ⟨none, [], ?_, by rw [List.append_nil]; exact hfvr, ?_, Nat.le_refl _⟩
                  · show m₅ (Str.ofString "waits") = some .none
                    rw [hm₅]; rfl
                  · rw [List.drop_zero]; rfl
                case gV =>
                  intro i v s Q E hv hst hq
                  have hv' : out[i]? = some v := by simpa using hv
                  obtain ⟨d, _, t, o, t1, u, n, rfl, _⟩ := hR.mem (List.mem_of_getElem? hv')
                  exact wpAny_letOwnedTupleGo_listiter hst.1 hq
                case turnV =>
                  intro TU E9 hE9 oI7 i7 d h73 tk73 v hi7 hv7 F73 N73 off73 hP7 hTU
                  obtain ⟨vals, zv, uI7, uH7, uW7⟩ := d
                  obtain ⟨o, outl, henc, hints, hscan, hol⟩ := hP7
                  dsimp only at F73 N73 off73 henc hints
                  have hv' : out[i7]? = some v := by simpa using hv7
                  obtain ⟨dp, hdp, t7, ot, tn, tb, nn, rfl, hmem, hcls, hdat⟩ := hR.get hv'
                  obtain ⟨n, sx⟩ := dp
                  dsimp only at hdat
                  have hsx := hesW (n, sx) (List.mem_of_getElem? hdp)
                  dsimp only at hsx
                  obtain ⟨b, hb⟩ : ∃ b, b = decB sx := ⟨_, rfl⟩
                  rw [← hb] at hsx
                  have hesi : esB[i7]? = some (n, b) := by rw [hesB, List.getElem?_map, hdp, hb]; rfl
                  have hdrop : esB.drop i7 = (n, b) :: esB.drop (i7 + 1) := by
                    obtain ⟨hl, he⟩ := List.getElem?_eq_some_iff.mp hesi
                    rw [List.drop_eq_getElem_cons hl, he]
                  subst hsx
                  clear hb
                  have hmem2 : (t7, ot) ∈ (I7, oI7) :: (D7, W.listOf out.toArray c7) :: (D8, LCg.lst ys) :: (D5, W.listOf vals.toArray zv) :: (I2, oI2) :: (LF, W.listOf lv2.toArray lz2) :: (MD, oM3) :: (BK, { cls := .type "list", data := .seq vs.reverse.toArray }) :: (ND, τ.oN) :: (580, tabObj ps) :: lA LA τ :: (R, LCg.lst vs) :: (s1.heap.objs.size + 1 + 1 + 1 + 1 + 1, o5') :: (s1.heap.objs.size + 1 + 1 + 1 + 1, o4') :: (s1.heap.objs.size + 1 + 1 + 1, o3n) :: (s1.heap.objs.size + 1 + 1, o2) :: (s1.heap.objs.size + 1, o1) ::
                      (WL, W.listOf vsW.toArray zW) :: (I, oI) :: (TP, { cls := .type "tuple", data := .seq its }) :: (T2 ++ (XG ++ ks2.map lME)) := .tail _ (.tail _ (tup_in hmem rfl hcls))
                  have htup : IsTup h73 t7 #[.int (n : Int) tn, .str (wordStr [b]) tb] := ⟨ot, (N73 _ hmem2).1, hcls, nn, hdat⟩
                  subst hm₅
                  (try clear F71)
                  (try clear F72)
                  (try clear N72)
                  (try clear F70)
                  (try clear N70)
                  (try clear F69)
                  (try clear N69)
                  (try clear F68)
                  (try clear N68)
                  refine unpackN_ F73 N73 htup (by rfl) (by rfl) (by rfl) fun h74 F74 N74 => ?_
                  have hol2 : outl.length ≤ i7 + 1 := by exact Mine.r11 hol
                  cases o with
                  | none =>
                    have hu : uW7 = some .none := henc
                    subst hu
                    w_strict k_steps
                    unfold Stop
                    rename Fr g' _ _ _ => F75
                    rename News g' _ _ _ => N75
                    refine hTU _ _ ?_
                    dsimp only [TurnEnd]
                    refine ⟨⟨vals, zv, some (.int (n : Int) tn), some (.str (wordStr [b]) tb), some (.str (wordStr [b]) tb)⟩, _, _, rfl, fr_abc (a := Str.ofString "waits") (b := Str.ofString "half") (c := Str.ofString "i") F75 rfl rfl rfl (fun y h1 h2 h3 => ?mN), N75, off_same (by rfl) off73, some b, outl, ⟨_, rfl⟩, hints, by rw [hscan, hdrop, scan_step], hol2⟩
                    case mN => simp only [if_neg h1, if_neg h2, if_neg h3]
                  | some c =>
                    obtain ⟨t9, hu⟩ : ∃ t, uW7 = some (.str (wordStr [c]) t) := henc
                    subst hu
                    w_strict k_steps
                    · (try unfold Stop)
                      have hcz : (wordStr [c] != wordStr [b]) = true := by assumption
                      have hcb : ¬ c = b := fun e => by subst e; simp at hcz
                      rename Fr g' _ _ _ => F75
                      rename News g' _ _ _ => N75
                      refine kda_item (knd := PySem.strKind _ _) N75 (.tail _ (.tail _ (.tail _ (.tail _ (.tail _ (.tail _ (.head _))))))) hoM3 (strKind_is _ _ _ _) (v := .ref D5) (by rw [valueAt_snoc hka, if_pos rfl]) ?_
                      (try dsimp only)
                      w_strict k_steps
                      have hrest : ∀ p ∈ (I2, oI2) :: (LF, W.listOf lv2.toArray lz2) :: (MD, oM3) :: (BK, { cls := .type "list", data := .seq vs.reverse.toArray }) :: (ND, τ.oN) :: (580, tabObj ps) :: lA LA τ :: (R, LCg.lst vs) :: (s1.heap.objs.size + 1 + 1 + 1 + 1 + 1, o5') :: (s1.heap.objs.size + 1 + 1 + 1 + 1, o4') :: (s1.heap.objs.size + 1 + 1 + 1, o3n) :: (s1.heap.objs.size + 1 + 1, o2) :: (s1.heap.objs.size + 1, o1) ::
                          (WL, W.listOf vsW.toArray zW) :: (I, oI) :: (TP, { cls := .type "tuple", data := .seq its }) :: (T2 ++ (XG ++ ks2.map lME)), p.1 ≠ D5 := fun p hp => by
                        rcases split16 p hp with h | h
                        · exact ne_of_cls N75 (a := p.1) (o := p.2) (b := D5) (u := W.listOf vals.toArray zv) (.tail _ (.tail _ (.tail _ (.tail _ (.tail _ (.tail _ (.tail _ (.tail _ (.tail _ (.tail _ (.tail _ (.tail _ (.tail _ (.tail _ (.tail _ (.tail _ (.tail _ (.tail _ (.tail _ (.tail _ (List.mem_append_left _ h))))))))))))))))))))) (.tail _ (.tail _ (.tail _ (.head _)))) (by rw [hTc p h]; intro e; injection e with e; exact absurd e (by decide))
                        · exact off_same (by rfl) hoD p h
                      have hvz2 : vals.length ≤ 200 := by
                        have h1 := hints.length
                        rw [List.length_map, List.length_append] at h1
                        have h2 := hfvr.length
                        rw [List.length_map] at h2
                        have h3 := hfv.length
                        rw [List.length_map] at h3
                        have h4 := List.length_filter_le (fun b => decide (words.reverse[b]? = some a)) (List.range words.length)
                        have h5 : out.toArray.size ≤ 86 := by
                          have q1 := hR.length
                          have q2 := hperm.length_eq
                          rw [List.length_append, List.length_map, List.length_map] at q2
                          have q3 := hmol false
                          have q4 := hmol true
                          rw [List.size_toArray]; exact Mine.r438 q1 q2 q3 q4
                        rw [hrl] at h4
                        exact Mine.r521 hi7 h2 h3 h1 h4 hol2 hw43 h5
                      refine append_K (its := vals.toArray) (n := zv) F75 N75 (.tail (Ne.symm (off73 _ (.tail _ (.tail _ (.head _))))) (.tail (Nat.ne_of_gt (hlt69 _ (.tail _ (.head _)))) (.tail o8D (.head hrest)))) (fun h77 F77 N77 => ?_) (by rw [List.size_toArray, sizeLine_eq]; exact Mine.r190 hvz2)
                      rw [show vals.toArray.push (Value.int (n : Int) tn) = (vals ++ [Value.int (n : Int) tn]).toArray by simp] at N77
                      (try dsimp only)
                      w_strict k_steps
                      unfold Stop
                      refine hTU _ _ ?_
                      dsimp only [TurnEnd]
                      refine ⟨⟨vals ++ [.int (n : Int) tn], zv + 1, some (.int (n : Int) tn), some (.str (wordStr [b]) tb), some .none⟩, _, _, rfl, fr_abc (a := Str.ofString "waits") (b := Str.ofString "half") (c := Str.ofString "i") F77 rfl rfl rfl (fun y h1 h2 h3 => ?mN), N77, off_same (by rfl) off73, none, outl ++ [n], rfl, ?hI9, ?hS9, by rw [List.length_append, List.length_singleton]; exact Mine.r81 hol⟩
                      case mN => simp only [if_neg h1, if_neg h2, if_neg h3]
                      case hI9 => rw [← List.append_assoc]; exact ints_snoc hints
                      case hS9 =>
                        rw [hscan, hdrop, scan_step]
                        dsimp only
                        rw [if_neg hcb, List.append_assoc]
                        rfl
                    · unfold Stop
                      rename Fr g' _ _ _ => F75
                      rename News g' _ _ _ => N75
                      have hcz : (wordStr [c] != wordStr [b]) = false := by assumption
                      have hcb : c = b := by
                        have h1 : wordStr [c] = wordStr [b] := by simpa using hcz
                        have h2 := wordStr_inj h1
                        injection h2
                      subst hcb
                      refine hTU _ _ ?_
                      dsimp only [TurnEnd]
                      refine ⟨⟨vals, zv, some (.int (n : Int) tn), some (.str (wordStr [c]) tb), some (.str (wordStr [c]) t9)⟩, _, _, rfl, fr_abc (a := Str.ofString "waits") (b := Str.ofString "half") (c := Str.ofString "i") F75 rfl rfl rfl (fun y h1 h2 h3 => ?mN), N75, off_same (by rfl) off73, some c, outl, ⟨_, rfl⟩, hints, by rw [hscan, hdrop, scan_step]; dsimp only; rw [if_pos rfl], hol2⟩
                      case mN => simp only [if_neg h1, if_neg h2, if_neg h3]
                case finV =>
                  intro d h73 tk73 F73 N73 hP7
                  obtain ⟨vals, zv, uI7, uH7, uW7⟩ := d
                  obtain ⟨o, outl, henc, hints, hscan, hol⟩ := hP7
                  dsimp only at F73 N73 henc hints
                  have hdn : esB.drop out.toArray.size = [] := List.drop_of_length_le (by rw [hesB, List.length_map, ← hR.length, List.size_toArray]; exact Nat.le_refl _)
                  rw [hdn] at hscan
                  have hsc : scan none esB = (o, outl) := by rw [hscan]; show (o, outl ++ []) = _; rw [List.append_nil]
                  have hbk : ∀ v ∈ words.reverse, Is1 v := fun v hv => (hUb v hv).1
                  have hpm := step7.1
                  have hwt := step7.2
                  rw [hsc] at hpm hwt
                  dsimp only at hpm hwt
                  have hoffD : ∀ b ∈ WL :: I :: FX, b ≠ D5 := fun b hb => by
                    rcases List.mem_cons.mp hb with rfl | hb
                    · exact hoD _ (.tail _ (.tail _ (.tail _ (.tail _ (.tail _ (.tail _ (.tail _ (.tail _ (.tail _ (.tail _ (.tail _ (.tail _ (.tail _ (.head _))))))))))))))
                    rcases List.mem_cons.mp hb with rfl | hb
                    · exact hoD _ (.tail _ (.tail _ (.tail _ (.tail _ (.tail _ (.tail _ (.tail _ (.tail _ (.tail _ (.tail _ (.tail _ (.tail _ (.tail _ (.tail _ (.head _)))))))))))))))
                    rw [hFX] at hb
                    exact addr_led (fun p hp => hoD p (.tail _ (skipW p hp))) b hb
                  have hkD : ∀ e ∈ ks2, e.a ≠ D5 := fun e he => hoD (lME e) (.tail _ (.tail _ (.tail _ (.tail _ (.tail _ (.tail _ (.tail _ (.tail _ (.tail _ (.tail _ (.tail _ (.tail _ (.tail _ (.tail _ (.tail _ (.tail _ (List.mem_append_right _ (List.mem_map_of_mem (f := lME) he))))))))))))))))))
                  have offN : ∀ p ∈ (LF, W.listOf lv2.toArray lz2) :: (MD, oM3) :: (BK, ({ cls := .type "list", data := .seq vs.reverse.toArray } : Obj)) :: (ND, τ.oN) :: (580, tabObj ps) :: lA LA τ :: (R, LCg.lst vs) :: (s1.heap.objs.size + 1 + 1 + 1 + 1 + 1, o5') :: (s1.heap.objs.size + 1 + 1 + 1 + 1, o4') :: (s1.heap.objs.size + 1 + 1 + 1, o3n) :: (s1.heap.objs.size + 1 + 1, o2) :: (s1.heap.objs.size + 1, o1) ::
                      (WL, W.listOf vsW.toArray zW) :: (I, oI) :: (TP, { cls := .type "tuple", data := .seq its }) :: (XG ++ (ks2 ++ [(⟨a, D5, vals, zv, rowsOf a words.reverse 0 ++ outl⟩ : ME)]).map lME), p.1 ≠ I2 := fun p hp => by
                    rcases snocW p hp with rfl | hp
                    · exact Ne.symm (hoD _ (.head _))
                    · exact off_same (by rfl) off51 p hp
                  subst hm₅
                  (try clear F71)
                  (try clear F72)
                  (try clear N72)
                  (try clear F70)
                  (try clear N70)
                  (try clear F69)
                  (try clear N69)
                  (try clear F68)
                  (try clear N68)
                  (try dsimp only)
                  cases o with
                  | none =>
                    have hu : uW7 = some .none := henc
                    subst hu
                    w_strict k_steps
                    unfold Stop
                    rename Fr g' _ _ _ => F75
                    rename News g' _ _ _ => N75
                    refine hTU _ _ ?_
                    dsimp only [TurnEnd]
                    refine ⟨⟨lv2, lz2, oM3, o3n, ks2 ++ [⟨a, D5, vals, zv, rowsOf a words.reverse 0 ++ outl⟩], uS2, uI7, uH7, some .none⟩, _, _, rfl, fr_abc (a := Str.ofString "waits") (b := Str.ofString "half") (c := Str.ofString "i") F75 rfl rfl rfl (fun y h1 h2 h3 => ?mN), N75.perm (permW rfl), offN, hM2.next (t := 0) haU hbk hwt hpm hints hoM3 hoffD hkD rfl ⟨_, ho3n⟩⟩
                    case mN => simp only [if_neg h1, if_neg h2, if_neg h3]
                  | some c =>
                    obtain ⟨t9, hu⟩ : ∃ t, uW7 = some (.str (wordStr [c]) t) := henc
                    subst hu
                    w_strict k_steps
                    have hal : a.length ≤ 4 := by rw [lawAll_mem (3 - j) a (List.mem_of_getElem? ha)]; exact Mine.r75
                    refine add_small (by rw [wordStr_len]; exact Mine.r25 hal) (by rw [wordStr_len]; show 1 ≤ 200; exact Mine.r21) fun t5 tk5 => ?_
                    rw [word_add]
                    (try dsimp only)
                    w_strict k_steps
                    rename Fr g' _ _ _ => F75
                    rename News g' _ _ _ => N75
                    have hrest : ∀ p ∈ (MD, oM3) :: (BK, ({ cls := .type "list", data := .seq vs.reverse.toArray } : Obj)) :: (ND, τ.oN) :: (580, tabObj ps) :: lA LA τ :: (R, LCg.lst vs) :: (s1.heap.objs.size + 1 + 1 + 1 + 1 + 1, o5') :: (s1.heap.objs.size + 1 + 1 + 1 + 1, o4') :: (s1.heap.objs.size + 1 + 1 + 1, o3n) :: (s1.heap.objs.size + 1 + 1, o2) :: (s1.heap.objs.size + 1, o1) ::
                        (WL, W.listOf vsW.toArray zW) :: (I, oI) :: (TP, { cls := .type "tuple", data := .seq its }) :: (T2 ++ (XG ++ ks2.map lME)), p.1 ≠ LF := by
                      simp only [List.forall_mem_cons]
                      refine ⟨Nat.ne_of_lt ltL.1, Nat.ne_of_lt ltL.2.1, Nat.ne_of_lt ltL.2.2.1, Nat.ne_of_lt ltL.2.2.2.1, Nat.ne_of_lt ltL.2.2.2.2.1, Nat.ne_of_lt ltL.2.2.2.2.2.1, Nat.ne_of_lt ltL.2.2.2.2.2.2.1, Nat.ne_of_lt ltL.2.2.2.2.2.2.2.1, Nat.ne_of_lt ltL.2.2.2.2.2.2.2.2.1, Nat.ne_of_lt ltL.2.2.2.2.2.2.2.2.2.1, Nat.ne_of_lt ltL.2.2.2.2.2.2.2.2.2.2.1, Ne.symm (hoW _ (.tail _ (.head _))), Ne.symm (offI LF (inFX _ (.head _))), Nat.ne_of_gt ltT.1, fun p hp => ?_⟩
                      rcases List.mem_append.mp hp with h | h
                      · exact ne_of_cls N75 (a := p.1) (o := p.2) (b := LF) (u := W.listOf lv2.toArray lz2) (.tail _ (.tail _ (.tail _ (.tail _ (.tail _ (.tail _ (.tail _ (.tail _ (.tail _ (.tail _ (.tail _ (.tail _ (.tail _ (.tail _ (.tail _ (.tail _ (.tail _ (.tail _ (.tail _ (List.mem_append_left _ h)))))))))))))))))))) (.tail _ (.tail _ (.tail _ (.tail _ (.head _))))) (by rw [hTc p h]; intro e; injection e with e; exact absurd e (by decide))
                      rcases List.mem_append.mp h with h | h
                      · exact Nat.ne_of_lt (allLt_mem ltL.2.2.2.2.2.2.2.2.2.2.2 p h)
                      · exact kLF p h
                    have hlz : lv2.length ≤ 15 := by
                      have h1 := hM2.left.length
                      rw [List.length_map] at h1
                      have h2 := List.length_filterMap_le (runsW W0 words.reverse).2 (lawU.take (offU j + i))
                      rw [List.length_take, show lawU.length = 15 by decide +kernel] at h2
                      dsimp only at h1
                      omega
                    refine append_K (its := lv2.toArray) (n := lz2) F75 N75 (.tail (Nat.ne_of_gt (hlt69 _ (.tail _ (.tail _ (.tail _ (.head _)))))) (.tail o8L (.tail (Ne.symm (hoD _ (.tail _ (.head _)))) (.tail (Ne.symm (off51 _ (.head _))) (.head hrest))))) (fun h77 F77 N77 => ?_) (by rw [List.size_toArray, sizeLine_eq]; exact Mine.r74 hlz)
                    rw [show ∀ x : Value, lv2.toArray.push x = (lv2 ++ [x]).toArray by intro x; simp] at N77
                    (try dsimp only)
                    w_strict k_steps
                    unfold Stop
                    refine hTU _ _ ?_
                    dsimp only [TurnEnd]
                    refine ⟨⟨lv2 ++ [.str (wordStr (a ++ [c])) t5], lz2 + 1, oM3, o3n, ks2 ++ [⟨a, D5, vals, zv, rowsOf a words.reverse 0 ++ outl⟩], uS2, uI7, uH7, some (.str (wordStr [c]) t9)⟩, _, _, rfl, fr_abc (a := Str.ofString "waits") (b := Str.ofString "half") (c := Str.ofString "i") F77 rfl rfl rfl (fun y h1 h2 h3 => ?mN), N77.perm (permW rfl), off_same (by rfl) offN, hM2.next haU hbk hwt hpm hints hoM3 hoffD hkD rfl ⟨_, ho3n⟩⟩
                    case mN => simp only [if_neg h1, if_neg h2, if_neg h3]
          case finW =>
            intro d h51 tk51 F51 N51 hM2
            obtain ⟨lv2, lz2, oM2, o3y, ks2, uS2, uI2, uH2, uW2⟩ := d
            dsimp only at F51 N51
            (try clear F45)
            (try clear F44)
            (try clear F46)
            (try clear N44)
            (try clear N46)
            subst hm₁
            (try dsimp only)
            w_strict k_steps
            unfold Stop
            refine hTU _ _ ?_
            dsimp only [TurnEnd]
            refine ⟨⟨lv2, lz2, oM2, o3y, ks2, some (.int ((3 - j + 1 : Nat) : Int) u), uI2, uH2, uW2⟩, _, _, rfl, fr_ext F51 (fun y => ?fS), N51.perm rot13, fun p hp => ?_, ?_⟩
            case fS =>
              dsimp only
              by_cases h1 : y = Str.ofString "waits"
              · rw [if_pos h1, if_pos h1]
              rw [if_neg h1, if_neg h1]
              by_cases h2 : y = Str.ofString "half"
              · rw [if_pos h2, if_pos h2]
              rw [if_neg h2, if_neg h2]
              by_cases h3 : y = Str.ofString "i"
              · rw [if_pos h3, if_pos h3]
              rw [if_neg h3, if_neg h3]
              by_cases h4 : y = Str.ofString "size"
              · rw [if_pos h4, if_pos h4]
              rw [if_neg h4, if_neg h4, if_neg h1, if_neg h2, if_neg h3, if_neg h4]
            · rcases led_addr hFX p hp with h | ⟨e, he, h⟩
              · exact offI p.1 h
              · rw [h]; exact Ne.symm (hM2.off e he I (.tail _ (.head _)))
            · have hn : offU j + vsW.toArray.size = offU (j + 1) := by rw [List.size_toArray, hvWl]; exact offU_next hj4
              rw [hn] at hM2
              exact ⟨hM2.words, hM2.dict, hM2.each, fun e he b hb => hM2.off e he b (.tail _ (.tail _ hb)), hM2.adds, hM2.left, hM2.cell⟩
        case finS =>
          intro d h41 tk41 F41 N41 hM
          obtain ⟨lv, lz, oM, o3x, ks, uS, uI, uH, uW⟩ := d
          dsimp only at F41 N41
          rw [show offU its.size = 15 by rw [hitem.1]; rfl] at hM
          have hUb : ∀ v ∈ words.reverse, Is1 v ∧ v.length ≤ 4 := fun v hv => hwU v (List.mem_reverse.mp hv)
          have htk : lawU.take 15 = lawU := by decide +kernel
          have hksU : ks.map (·.w) = lawU := by have := hM.words; rw [htk] at this; exact this
          have hnd : (ks.map (·.w)).Nodup := by rw [hksU]; exact lawU_nodup
          have hleft := hM.left
          rw [htk] at hleft
          dsimp only at hleft
          have hdictM : oM.IsDictOf (PySem.strKind P7 w) (kvsM ks) := hM.dict
          have hns : ∀ e ∈ ks, e.ns.Perm (hits e.w (runsW W0 words.reverse).1 0) := fun e he => (hM.each e he).1
          obtain ⟨e1, he1, hw1⟩ : ∃ e ∈ ks, e.w = [true] := by
            have : [true] ∈ ks.map (·.w) := by rw [hksU]; decide +kernel
            exact List.mem_map.mp this
          have hv1 := (kvsM_look hnd).1 e1 he1 hw1
          have hE1 := hM.each e1 he1
          rw [hw1] at hE1
          have inFX : ∀ b ∈ LF :: MD :: BK :: ND :: 580 :: LA :: R :: (s1.heap.objs.size + 1 + 1 + 1 + 1 + 1) :: (s1.heap.objs.size + 1 + 1 + 1 + 1) :: (s1.heap.objs.size + 1 + 1 + 1) :: (s1.heap.objs.size + 1 + 1) :: (s1.heap.objs.size + 1) :: TP :: XG.map (·.1), b ∈ FX := fun b hb => by rw [hFX]; exact hb
          have kLF : ∀ p ∈ ks.map lME, p.1 ≠ LF := fun p hp => by
            obtain ⟨e, he, rfl⟩ := List.mem_map.mp hp
            exact Ne.symm (hM.off e he LF (inFX _ (.head _)))
          have kM : ∀ p ∈ ks.map lME, p.1 ≠ s1.heap.objs.size + 1 + 1 + 1 := fun p hp => by
            obtain ⟨e, he, rfl⟩ := List.mem_map.mp hp
            exact Ne.symm (hM.off e he _ (inFX _ (.tail _ (.tail _ (.tail _ (.tail _ (.tail _ (.tail _ (.tail _ (.tail _ (.tail _ (.head _))))))))))))
          have hlz : lv.length ≤ 15 := by
            have h1 := hleft.length
            rw [List.length_map] at h1
            have h2 := List.length_filterMap_le (runsW W0 words.reverse).2 lawU
            rw [show lawU.length = 15 by decide +kernel] at h2
            omega
          have hrestL : ∀ p ∈ (MD, oM) :: (BK, oB) :: (ND, τ.oN) :: (580, tabObj ps) :: lA LA τ :: (R, LCg.lst vs) :: (s1.heap.objs.size + 1 + 1 + 1 + 1 + 1, o5') :: (s1.heap.objs.size + 1 + 1 + 1 + 1, o4') :: (s1.heap.objs.size + 1 + 1 + 1, o3x) :: (s1.heap.objs.size + 1 + 1, o2) :: (s1.heap.objs.size + 1, o1) ::
              (TP, ({ cls := .type "tuple", data := .seq its } : Obj)) :: (XG ++ ks.map lME), p.1 ≠ LF := by
            simp only [List.forall_mem_cons]
            refine ⟨Nat.ne_of_lt ltL.1, Nat.ne_of_lt ltL.2.1, Nat.ne_of_lt ltL.2.2.1, Nat.ne_of_lt ltL.2.2.2.1, Nat.ne_of_lt ltL.2.2.2.2.1, Nat.ne_of_lt ltL.2.2.2.2.2.1, Nat.ne_of_lt ltL.2.2.2.2.2.2.1, Nat.ne_of_lt ltL.2.2.2.2.2.2.2.1, Nat.ne_of_lt ltL.2.2.2.2.2.2.2.2.1, Nat.ne_of_lt ltL.2.2.2.2.2.2.2.2.2.1, Nat.ne_of_lt ltL.2.2.2.2.2.2.2.2.2.2.1, Nat.ne_of_gt ltT.1, fun p hp => ?_⟩
            rcases List.mem_append.mp hp with h | h
            · exact Nat.ne_of_lt (allLt_mem ltL.2.2.2.2.2.2.2.2.2.2.2 p h)
            · exact kLF p h
          (try clear F38)
          (try clear N39)
          (try clear F40)
          (try clear N40)
          obtain ⟨m₇, hm₇, F42⟩ := fr_name F41
          (try clear F41)
          subst hm₀
          have hStop : StopIf := .mk
          w_strict k_steps
          unfold Stop
          clear hStop
          obtain ⟨lf, hlf⟩ : ∃ lf : List Wd, lf = (lawU.filterMap fun w => (runsW W0 words.reverse).2 w) ++ (if hits [true] (runsW W0 words.reverse).1 0 ≠ [] then [[true]] else []) := ⟨_, rfl⟩
          obtain ⟨PB, hPB⟩ : ∃ PB : Shared → Prop, PB = (fun s' => ∃ (h : Heap) (tk : Nat) (lv' : List Value) (lz' : Nat), s' = { s1 with gens := s1.gens.push .finished, heap := h, toks := tk } ∧ Fr g' s1.heap.objs.size h m₇ ∧
            News g' s1.heap.objs.size h ((LF, W.listOf lv'.toArray lz') :: (MD, oM) :: (BK, oB) :: (ND, τ.oN) :: (580, tabObj ps) :: lA LA τ :: (R, LCg.lst vs) :: (s1.heap.objs.size + 1 + 1 + 1 + 1 + 1, o5') :: (s1.heap.objs.size + 1 + 1 + 1 + 1, o4') :: (s1.heap.objs.size + 1 + 1 + 1, o3x) :: (s1.heap.objs.size + 1 + 1, o2) :: (s1.heap.objs.size + 1, o1) ::
              (TP, ({ cls := .type "tuple", data := .seq its } : Obj)) :: (XG ++ ks.map lME)) ∧ StrsAre lv' (lf.map wordStr)) := ⟨_, rfl⟩
          refine mid PB ?if9 ?rest9
          case if9 =>
            subst hm₇
            (try dsimp only)
            w_strict k_steps
            (try unfold Stop)
            refine kda_item (knd := PySem.strKind _ _) N41 (.tail _ (.head _)) hdictM (strKind_is _ _ _ _) (v := .ref e1.a) (by rw [show Str.ofString "1" = wordStr [true] by decide +kernel]; exact hv1) ?_
            (try dsimp only)
            w_strict k_steps
            unfold Stop
            rename Fr g' _ _ _ => F43
            rename News g' _ _ _ => N43
            refine ne_intsK (News.isList N43 (.tail _ (.tail _ (.tail _ (.tail _ (.tail _ (.tail _ (.tail _ (.tail _ (.tail _ (.tail _ (.tail _ (.tail _ (.tail _ (.tail _ (List.mem_append_right _ (List.mem_map_of_mem (f := lME) he1))))))))))))))))) hE1.2 (us := []) (News.isList N43 (.head _)) .nil ?uS9 ?_
            case uS9 => k_units
            replace N43 := News.tail' N43
            by_cases hnil : e1.ns = []
            · have hh0 : hits [true] (runsW W0 words.reverse).1 0 = [] := by
                have := hE1.1
                rw [hnil] at this
                exact List.nil_perm.mp this
              rw [if_neg (by rw [hh0]; exact fun h => h rfl), List.append_nil] at hlf
              rw [hnil, show (!decide (List.map Int.ofNat [] = [])) = false by rfl]
              w_strict k_steps
              unfold Stop
              rename Fr g' _ _ _ => F44
              rename News g' _ _ _ => N44
              rw [hPB]
              exact ⟨rfl, _, _, lv, lz, rfl, F44, N44, by rw [hlf]; exact hleft⟩
            · have hh0 : hits [true] (runsW W0 words.reverse).1 0 ≠ [] := fun h => by
                have := hE1.1
                rw [h] at this
                exact hnil (List.perm_nil.mp this)
              rw [if_pos hh0] at hlf
              rw [show (!decide (List.map Int.ofNat e1.ns = [])) = true by simpa using hnil]
              w_strict k_steps
              rename Fr g' _ _ _ => F44
              rename News g' _ _ _ => N44
              rw [show ∀ x : Value, lv.toArray.push x = (lv ++ [x]).toArray by intro x; simp] at N44
              unfold Stop
              rw [hPB]
              refine ⟨rfl, _, _, lv ++ [_], lz + 1, rfl, F44, N44, ?_⟩
              rw [hlf, List.map_append]
              exact strs_app hleft (.cons _ _ .nil)
          case rest9 =>
            intro s' hs9
            rw [hPB] at hs9
            clear hPB
            obtain ⟨h42, tk42, lv', lz', e, F42, N42, hleft'⟩ := hs9
            subst e
            (try clear N41)
            subst hm₇
            (try dsimp only)
            w_strict k_steps
            unfold Stop
            refine wpAny_For ?_
            w_strict k_steps
            unfold Stop
            rename Fr g' _ _ _ => F45
            rename News g' _ _ _ => N45
            obtain ⟨DU, hDU, N46⟩ := head_name N45
            subst hDU
            have ltD : LF < DU ∧ MD < DU ∧ BK < DU ∧ ND < DU ∧ 580 < DU ∧ LA < DU ∧ R < DU ∧ s1.heap.objs.size + 1 + 1 + 1 + 1 + 1 < DU ∧ s1.heap.objs.size + 1 + 1 + 1 + 1 < DU ∧ s1.heap.objs.size + 1 + 1 + 1 < DU ∧ s1.heap.objs.size + 1 + 1 < DU ∧ s1.heap.objs.size + 1 < DU ∧ TP < DU ∧ AllLt DU (XG ++ ks.map lME) := by assumption
            obtain ⟨m₈, hm₈, F46⟩ := fr_name F45
            (try clear F45)
            (try clear N45)
            (try clear F42)
            (try clear N42)
            obtain ⟨ep, hdM⟩ := dict_at (D := MD) hdictM
            refine pyIter_dict9 (knd := PySem.strKind _ _) hloM F46 N46 (.tail _ (.tail _ (.head _))) hdM fun I8 h43 F43 N43 off43 hIL8 hI08 st43 neI8 => ?_
            (try clear F46)
            (try clear N46)
            refine over_srcQ (s1 := { s1 with gens := s1.gens.push .finished }) (fun (_ : List Value × Nat × Obj × List (Addr × Obj)) y => m₈ y)
              (fun d => (DU, W.listOf d.1.toArray d.2.1) :: (LF, W.listOf lv'.toArray lz') :: (MD, oM) :: (BK, oB) :: (ND, τ.oN) :: (580, tabObj ps) :: lA LA τ :: (R, LCg.lst vs) :: (s1.heap.objs.size + 1 + 1 + 1 + 1 + 1, o5') :: (s1.heap.objs.size + 1 + 1 + 1 + 1, o4') :: (s1.heap.objs.size + 1 + 1 + 1, d.2.2.1) :: (s1.heap.objs.size + 1 + 1, o2) :: (s1.heap.objs.size + 1, o1) ::
                (TP, ({ cls := .type "tuple", data := .seq its } : Obj)) :: (d.2.2.2 ++ (XG ++ ks.map lME)))
              (fun _ i d => Rel2 (TripleAt d.2.2.2) d.1 (dueS (ks.take i)) ∧ (∀ p ∈ d.2.2.2, TupO p.2) ∧ ∃ c, d.2.2.1.data = .cell c)
              ⟨[], 0, o3x, []⟩
              (src_dict9 (by rfl) neI8 (fun d => .tail _ (.tail _ (.head _))) hdM) F43 N43 off43 hIL8 hI08 st43 ⟨_, _, rfl⟩ (fun y => rfl) (fun p hp => hp) ?pD ?gD ?turnD ?finD ?eD
            case eD => first | assumption | passes_own | with_unfolding_all passes_own
            case pD => exact ⟨.nil, (fun p hp => nomatch hp), hM.cell⟩
            case gD => exact fun i v s Q E _ _ hq => wpAny_pure hq
            case turnD =>
              intro TU E9 hE9 oI8 i8 d h44 tk44 v hi hv F44 N44 off44 hP8 hTU
              obtain ⟨dv, dz, o3y, T⟩ := d
              obtain ⟨hR8, hT8, c8, hc8⟩ := hP8
              dsimp only at F44 N44 off44 hR8 hT8 hc8
              obtain ⟨k8, x8, hkv, hkis⟩ := hv
              obtain ⟨t8, rfl⟩ := str_key hkis
              obtain ⟨e, he8, hke⟩ : ∃ e, ks[i8]? = some e ∧ (wordStr e.w, Value.ref e.a) = (k8, x8) := by
                rw [kvsM, List.getElem?_map] at hkv
                exact Option.map_eq_some_iff.mp hkv
              injection hke with hk8 hx8
              subst hk8 hx8
              have heM : e ∈ ks := List.mem_of_getElem? he8
              have hE := hM.each e heM
              have hva := (kvsM_look hnd).1 e heM rfl
              have hel : e.ns.length ≤ 43 := by
                have h1 := hE.1.length_eq
                have h2 := hits_length e.w (runsW W0 words.reverse).1 0
                rw [runs_length, List.length_reverse] at h2
                exact Mine.r96 h1 h2 hw43
              have hvl8 : e.vals.length = e.ns.length := by rw [hE.2.length, List.length_map]
              have hwl8 : e.w.length ≤ 4 := by
                have : e.w ∈ lawU := by rw [← hksU]; exact List.mem_map_of_mem heM
                exact (is1_lawU this).2
              have hdv8 : dv.length ≤ 700 := by
                rw [hR8.length]
                have h1 := dueS_take ks i8
                have h2 := due_len hksU hns hUb
                rw [dueS_map ks, List.length_map] at h1
                rw [List.length_reverse] at h2
                exact Mine.r383 h1 h2 hw43
              have hc3r : ∀ p ∈ (s1.heap.objs.size + 1 + 1, o2) :: (s1.heap.objs.size + 1, o1) :: (TP, ({ cls := .type "tuple", data := .seq its } : Obj)) :: (T ++ (XG ++ ks.map lME)), p.1 ≠ s1.heap.objs.size + 1 + 1 + 1 := by
                simp only [List.forall_mem_cons]
                refine ⟨cell23, cell13, Nat.ne_of_gt ltT.2.2.2.2.2.2.2.2.2.1, fun p hp => ?_⟩
                rcases List.mem_append.mp hp with h | h
                · obtain ⟨_, xs, n, hd⟩ := hT8 p h
                  exact ne_of_data N44 (a := p.1) (o := p.2) (b := s1.heap.objs.size + 1 + 1 + 1) (u := o3y) (.tail _ (.tail _ (.tail _ (.tail _ (.tail _ (.tail _ (.tail _ (.tail _ (.tail _ (.tail _ (.tail _ (.tail _ (.tail _ (.tail _ (.tail _ (List.mem_append_left _ h)))))))))))))))) (.tail _ (.tail _ (.tail _ (.tail _ (.tail _ (.tail _ (.tail _ (.tail _ (.tail _ (.tail _ (.tail _ (.head _)))))))))))) (by rw [hd, hc8]; intro e; cases e)
                · exact (List.mem_append.mp h).elim (fun h => (hLX p h).2.2) (kM p)
              refine wpAny_assign_Name ?_
              refine storeX_C F44 N44 (by rfl) (.tail ?q1 (.tail ?q2 (.tail ?q3 (.tail ?q4 (.tail ?q5 (.tail ?q6 (.tail ?q7 (.tail ?q8 (.tail ?q9 (.tail cell53 (.tail cell43 (.head hc3r))))))))))) ) hc8 fun h45 o3z F45 N45 ho3z => ?_
              case q1 => exact Ne.symm (off44 _ (.tail _ (.tail _ (.tail _ (.tail _ (.tail _ (.tail _ (.tail _ (.tail _ (.tail _ (.tail _ (.head _))))))))))))
              case q2 => exact Nat.ne_of_gt ltD.2.2.2.2.2.2.2.2.2.1
              case q3 => exact Nat.ne_of_gt ltL.2.2.2.2.2.2.2.2.1
              case q4 => exact Nat.ne_of_gt ltM.2.2.2.2.2.2.2.1
              case q5 => exact Nat.ne_of_gt ltB1.2.2.2.2.2.2.1
              case q6 => exact Nat.ne_of_gt lt1.2.2.2.1
              case q7 => exact Nat.ne_of_lt c580.2.2.1
              case q8 => exact Nat.ne_of_gt lt2.2.2.2.2.1
              case q9 => exact Ne.symm oR3
              (try dsimp only at N45)
              have hTI : ∀ p ∈ T, p.1 ≠ I8 := fun p hp => off44 p (.tail _ (.tail _ (.tail _ (.tail _ (.tail _ (.tail _ (.tail _ (.tail _ (.tail _ (.tail _ (.tail _ (.tail _ (.tail _ (.tail _ (List.mem_append_left _ hp)))))))))))))))
              have offX : ∀ p ∈ (DU, W.listOf dv.toArray dz) :: (LF, W.listOf lv'.toArray lz') :: (MD, oM) :: (BK, oB) :: (ND, τ.oN) :: (580, tabObj ps) :: lA LA τ :: (R, LCg.lst vs) :: (s1.heap.objs.size + 1 + 1 + 1 + 1 + 1, o5') :: (s1.heap.objs.size + 1 + 1 + 1 + 1, o4') :: (s1.heap.objs.size + 1 + 1 + 1, o3y) :: (s1.heap.objs.size + 1 + 1, o2) :: (s1.heap.objs.size + 1, o1) ::
                (TP, ({ cls := .type "tuple", data := .seq its } : Obj)) :: (XG ++ ks.map lME), p.1 ≠ I8 := fun p hp => off44 p (skip14 p hp)
              (try clear F44)
              (try clear N44)
              (try clear F43)
              (try clear N43)
              subst hm₈
              (try dsimp only)
              w_strict k_steps
              unfold Stop
              rename Fr g' _ _ _ => F47
              refine LCg.ListComp_U F47 (by with_unfolding_all rfl) (by decide) (by rfl) (by decide) (by rfl) ?_
              w_strict k_steps
              unfold Stop
              rename News g' _ _ _ => N47
              refine kda_item (knd := PySem.strKind _ _) N47 (.tail _ (.tail _ (.tail _ (.head _)))) hdictM (strKind_is _ _ _ _) (v := .ref e.a) hva ?_
              (try dsimp only)
              w_strict k_steps
              unfold Stop
              rename Fr g' _ _ _ => F48
              rename News g' _ _ _ => N48
              refine LCg.CompSrc.ledger (its := e.vals.toArray) (k := e.z) (by rfl) F48 N48 (.tail _ (.tail _ (.tail _ (.tail _ (.tail _ (.tail _ (.tail _ (.tail _ (.tail _ (.tail _ (.tail _ (.tail _ (.tail _ (.tail _ (.tail _ (List.mem_append_right _ (List.mem_append_right _ (List.mem_map_of_mem (f := lME) heM)))))))))))))))))) (by rw [List.size_toArray, hvl8, sizeLine_eq]; exact Mine.r73 hel) fun g9 => ?_
              rw [show e.vals.toArray.size = e.ns.length by rw [List.size_toArray, hvl8]]
              refine comp_inv (fun T' => (I8, oI8) :: (DU, W.listOf dv.toArray dz) :: (LF, W.listOf lv'.toArray lz') :: (MD, oM) :: (BK, oB) :: (ND, τ.oN) :: (580, tabObj ps) :: lA LA τ :: (R, LCg.lst vs) :: (s1.heap.objs.size + 1 + 1 + 1 + 1 + 1, o5') :: (s1.heap.objs.size + 1 + 1 + 1 + 1, o4') :: (s1.heap.objs.size + 1 + 1 + 1, o3z) :: (s1.heap.objs.size + 1 + 1, o2) :: (s1.heap.objs.size + 1, o1) ::
                (TP, ({ cls := .type "tuple", data := .seq its } : Obj)) :: (T' ++ (XG ++ ks.map lME)))
                (fun j ys T' => Rel2 (TripleAt T') ys ((e.ns.take j).map fun x => (x, e.w.length, wordStr e.w)) ∧ (∀ p ∈ T', TupO p.2 ∧ p.1 ≠ I8) ∧ ∀ p ∈ T, p ∈ T') T ⟨.nil, fun p hp => ⟨hT8 p hp, hTI p hp⟩, fun p hp => hp⟩ ?turnE ?finE
              case turnE =>
                intro i T' v I oI C oC D9 m₂ ys h tk E' hi hv hJ hC hmx F5 N5 off ne
                obtain ⟨hR9, hT9, hTs⟩ := hJ
                obtain ⟨n, tn, hn, rfl⟩ := src_list hE.2 i v hv hi
                (try clear F47)
                (try clear N47)
                (try clear F48)
                (try clear N48)
                (try clear F45)
                (try clear N45)
                have hwlen := wordStr_len e.w
                w_strict k_steps
                unfold Stop
                rename Fr g' _ _ _ => F6
                rename News g' _ _ _ => N6
                obtain ⟨TN, hTN, N7⟩ := head_name N6
                subst hTN
                rename I < TN ∧ _ => oT
                have off3 := LCg.Off3.mem off
                obtain ⟨oTN, hc9, hd9, N8⟩ := head_tri N7
                refine LCg.CompEnd.intro F6 (N8.perm rotT18) ((I8, oI8) :: (DU, W.listOf dv.toArray dz) :: (LF, W.listOf lv'.toArray lz') :: (MD, oM) :: (BK, oB) :: (ND, τ.oN) :: (580, tabObj ps) :: lA LA τ :: (R, LCg.lst vs) :: (s1.heap.objs.size + 1 + 1 + 1 + 1 + 1, o5') :: (s1.heap.objs.size + 1 + 1 + 1 + 1, o4') :: (s1.heap.objs.size + 1 + 1 + 1, o3z) :: (s1.heap.objs.size + 1 + 1, o2) :: (s1.heap.objs.size + 1, o1) ::
                (TP, ({ cls := .type "tuple", data := .seq its } : Obj)) :: (((TN, oTN) :: T') ++ (XG ++ ks.map lME))) (fun p hp => hp) (LCg.Off3.of fun p hp => ?oE9) (.inr ⟨W.listOf e.vals.toArray e.z, (.tail _ (.tail _ (.tail _ (.tail _ (.tail _ (.tail _ (.tail _ (.tail _ (.tail _ (.tail _ (.tail _ (.tail _ (.tail _ (.tail _ (.tail _ (List.mem_append_right _ (List.mem_append_right _ (List.mem_map_of_mem (f := lME) heM)))))))))))))))))), rfl, _, rfl⟩) ⟨(TN, oTN) :: T', rfl, ?jE9⟩
                case oE9 =>
                  rcases insT15 p hp with h | h
                  · rw [h]; exact ⟨Nat.ne_of_gt oT.1, Nat.ne_of_gt oT.2.1, Nat.ne_of_gt oT.2.2.1⟩
                  · exact off3 p h
                case jE9 =>
                  have e3 : e.ns.take (i + 1) = e.ns.take i ++ [n] := by rw [List.take_add_one, hn]; rfl
                  rw [e3, List.map_append]
                  refine ⟨Rel2.append (hR9.mono fun v d x => x.up fun p hp => .tail _ hp) (.cons ⟨TN, oTN, tn, _, t8, 0, rfl, .head _, hc9, by rw [hd9, hwlen]⟩ .nil), fun p hp => ?_, fun p hp => .tail _ (hTs p hp)⟩
                  rcases List.mem_cons.mp hp with rfl | hp
                  · exact ⟨⟨hc9, _, _, hd9⟩, Nat.ne_of_gt oT.2.2.2.1⟩
                  · exact hT9 p hp
              case finE =>
                intro ys T' hyl hJ D9 h6 tk6 F6 N6 off6
                obtain ⟨hR9, hT9, hTs⟩ := hJ
                rw [List.take_length] at hR9
                (try clear F47)
                (try clear N47)
                (try clear F48)
                (try clear N48)
                (try clear F45)
                (try clear N45)
                (try dsimp only)
                w_strict k_steps
                have o9 := off1_mem off6
                have hX9 : ∀ p ∈ (LF, W.listOf lv'.toArray lz') :: (MD, oM) :: (BK, oB) :: (ND, τ.oN) :: (580, tabObj ps) :: lA LA τ :: (R, LCg.lst vs) :: (s1.heap.objs.size + 1 + 1 + 1 + 1 + 1, o5') :: (s1.heap.objs.size + 1 + 1 + 1 + 1, o4') :: (s1.heap.objs.size + 1 + 1 + 1, o3z) :: (s1.heap.objs.size + 1 + 1, o2) :: (s1.heap.objs.size + 1, o1) ::
                (TP, ({ cls := .type "tuple", data := .seq its } : Obj)) :: (XG ++ ks.map lME), p.1 ≠ DU := by
                  simp only [List.forall_mem_cons]
                  exact ⟨Nat.ne_of_lt ltD.1, Nat.ne_of_lt ltD.2.1, Nat.ne_of_lt ltD.2.2.1, Nat.ne_of_lt ltD.2.2.2.1, Nat.ne_of_lt ltD.2.2.2.2.1, Nat.ne_of_lt ltD.2.2.2.2.2.1, Nat.ne_of_lt ltD.2.2.2.2.2.2.1, Nat.ne_of_lt ltD.2.2.2.2.2.2.2.1, Nat.ne_of_lt ltD.2.2.2.2.2.2.2.2.1, Nat.ne_of_lt ltD.2.2.2.2.2.2.2.2.2.1, Nat.ne_of_lt ltD.2.2.2.2.2.2.2.2.2.2.1, Nat.ne_of_lt ltD.2.2.2.2.2.2.2.2.2.2.2.1, Nat.ne_of_lt ltD.2.2.2.2.2.2.2.2.2.2.2.2.1, fun p hp => Nat.ne_of_lt (allLt_mem ltD.2.2.2.2.2.2.2.2.2.2.2.2.2 p hp)⟩
                have hrestD : ∀ p ∈ (LF, W.listOf lv'.toArray lz') :: (MD, oM) :: (BK, oB) :: (ND, τ.oN) :: (580, tabObj ps) :: lA LA τ :: (R, LCg.lst vs) :: (s1.heap.objs.size + 1 + 1 + 1 + 1 + 1, o5') :: (s1.heap.objs.size + 1 + 1 + 1 + 1, o4') :: (s1.heap.objs.size + 1 + 1 + 1, o3z) :: (s1.heap.objs.size + 1 + 1, o2) :: (s1.heap.objs.size + 1, o1) ::
                (TP, ({ cls := .type "tuple", data := .seq its } : Obj)) :: (T' ++ (XG ++ ks.map lME)), p.1 ≠ DU := fun p hp => by
                  rcases split13 p hp with h | h
                  · exact ne_of_cls N6 (a := p.1) (o := p.2) (b := DU) (u := W.listOf dv.toArray dz) (.tail _ (.tail _ (.tail _ (.tail _ (.tail _ (.tail _ (.tail _ (.tail _ (.tail _ (.tail _ (.tail _ (.tail _ (.tail _ (.tail _ (.tail _ (.tail _ (List.mem_append_left _ h))))))))))))))))) (.tail _ (.tail _ (.head _))) (by rw [(hT9 p h).1.1]; intro e; injection e with e; exact absurd e (by decide))
                  · exact hX9 p h
                refine extend_any (xs := dv) (ys := ys) (n := dz) F6 N6 (.head _) (.tail (Ne.symm (o9 _ (.tail _ (.head _)))) (.tail (Ne.symm (offX _ (.head _))) (.head hrestD))) (by exact Mine.r395 hyl hel hdv8) fun h7 F7 N7 => ?_
                (try dsimp only)
                replace N7 := News.tail' N7
                (try clear N6)
                (try clear F6)
                w_strict k_steps
                unfold Stop
                rename Fr g' _ _ _ => F8
                rename News g' _ _ _ => N8
                refine hTU _ _ ?_
                dsimp only [TurnEnd]
                refine ⟨⟨dv ++ ys, _, o3z, T'⟩, _, _, rfl, F8, N8, fun p hp => ?oE, ?rE, fun p hp => (hT9 p hp).1, ⟨_, ho3z⟩⟩
                case oE =>
                  rcases split14 p hp with h | h
                  · exact (hT9 p h).2
                  · exact off_same (by rfl) offX p h
                case rE =>
                  rw [List.take_add_one, he8]
                  show Rel2 _ _ (dueS (ks.take i8 ++ [e]))
                  rw [dueS_snoc]
                  exact Rel2.append (hR8.mono fun v d x => x.up hTs) hR9
            case finD =>
              intro d h44 tk44 F44 N44 hP8
              obtain ⟨dv, dz, o3y, T⟩ := d
              obtain ⟨hR8, hT8, c8, hc8⟩ := hP8
              dsimp only at F44 N44 hR8 hT8 hc8
              rw [show (kvsM ks).length = ks.length by rw [kvsM, List.length_map], List.take_length] at hR8
              (try clear F43)
              (try clear N43)
              subst hm₈
              (try dsimp only)
              w_strict k_steps
              unfold Stop
              rename Fr g' _ _ _ => F45
              rename News g' _ _ _ => N45
              refine comp3_eval F45 (by with_unfolding_all rfl) (by decide) (by rfl) (by decide) (by rfl) (by rfl) (by rfl) (by decide) (by rfl) ?_
              w_strict k_steps
              (try unfold Stop)
              rename Fr g' _ _ _ => F46
              rename News g' _ _ _ => N46
              have hdl : (dueS ks).length ≤ 86 := by
                have h2 := due_len hksU hns hUb
                rw [List.length_reverse] at h2
                rw [dueS_map, List.length_map]
                exact Mine.r316 h2 hw43
              refine sorted_triples F46 N46 (News.isList N46 (.head _)) (hR8.mono fun v d x => x.up ?hup) (by exact Mine.r155 hdl) ?h16 (due_uniq hksU hns hUb) fun D7 out es c7 h69 F69 N69 hlt69 hR hperm hsort => ?_
              case hup => exact fun p hp => (.tail _ (.tail _ (.tail _ (.tail _ (.tail _ (.tail _ (.tail _ (.tail _ (.tail _ (.tail _ (.tail _ (.tail _ (.tail _ (.tail _ (List.mem_append_left _ hp)))))))))))))))
              case h16 =>
                intro d hd
                rw [dueS_map] at hd
                obtain ⟨p, hp, rfl⟩ := List.mem_map.mp hd
                have := (due_low hksU p hp).2
                dsimp only
                exact Mine.r143 this
              have hesl : es.length ≤ 86 := by rw [hperm.length_eq]; exact hdl
              refine ⟨D7, out.toArray, c7, _, fun i v => ∃ p t, es[i]? = some p ∧ v = .str p.2.2 t, rfl, .head _, by rw [List.size_toArray, hR.length, sizeLine_eq]; exact Mine.r185 hesl, F69, N69, fun i v hv => ?hT3, ?fin3⟩
              case hT3 =>
                obtain ⟨p, hp, t, o, t1, t2, u, n, rfl, hm, hc, hd⟩ := hR.get (show out[i]? = some v by simpa using hv)
                exact ⟨t, o, _, _, _, n, rfl, .tail _ hm, hc, hd, p, u, hp, rfl⟩
              case fin3 =>
                intro s₂ ⟨g, hg⟩ ys hyl hrl
                subst hg
                intro D8 h70 tk70 F70 N70 o70
                have hys : StrsAre ys (es.map fun p => p.2.2) := strs_rel (by rw [hyl, List.size_toArray, hR.length, List.length_map]) fun j v hj => by
                  obtain ⟨p, t, hp, rfl⟩ := hrl j v hj
                  exact ⟨t, by rw [List.getElem?_map, hp]; rfl⟩
                rw [due_asked hksU hns hUb hperm hsort, List.reverse_reverse] at hys
                (try dsimp only)
                (try clear F45)
                (try clear N45)
                (try clear F46)
                (try clear N46)
                (try clear F69)
                (try clear N69)
                (try clear F44)
                (try clear N44)
                w_strict k_steps
                unfold Stop
                rename Fr g' _ _ _ => F71
                rename News g' _ _ _ => N71
                refine ne_strL (News.isList N71 (.tail _ (.tail _ (.tail _ (.tail _ (.tail _ (.tail _ (.tail _ (.tail _ (.head _)))))))))) (News.isList N71 (.head _)) hA3 hys words_strOk7 words_strOk7 ?eu3 ?_
                case eu3 => k_units
                rw [show ∀ x : List Str, (!decide (x = x)) = false by intro x; simp]
                w_strict k_steps
                unfold Stop
                rename Fr g' _ _ _ => F72
                rename News g' _ _ _ => N72
                have hsubl : lf.length = sub.length := by
                  have := left_sub hUb
                  rw [List.reverse_reverse, ← hsub, ← hlf] at this
                  rw [this.length_eq, List.length_map]
                have hlvl : lv'.length = lf.length := by rw [hleft'.length, List.length_map]
                have hlf16 : lf.length ≤ 16 := by
                  have h2 := List.length_filterMap_le (fun w => (runsW W0 words.reverse).2 w) lawU
                  rw [show lawU.length = 15 by decide +kernel] at h2
                  rw [hlf, List.length_append]
                  split <;> simp <;> omega
                refine PySem.Calls.call_len_list (items := lv'.toArray) (News.isList N72 (.tail _ (.tail _ (.tail _ (.head _))))) (by rw [List.size_toArray]; omega) ?_
                rw [show ((lv'.toArray.size : Nat) : Int) = (lf.length : Int) by rw [List.size_toArray, hlvl]]
                w_strict k_steps
                · (try unfold Stop)
                  have hbad : (lf.length : Int) ≠ 1 := by assumption
                  rcases htold with ⟨S, c9, k9, y9, -, -, e9, -⟩ | ⟨S, c9, -, -, e9⟩ | ⟨rfl, rfl, -⟩
                  · exact absurd (by rw [hsubl, e9]; rfl) hbad
                  · have hne := cfin_ne (hs := List.dropLast) (row := words) (by intro h; rw [h] at hw3; simp at hw3)
                    rw [← hsub] at hne
                    exact absurd e9 hne
                  subst hXG
                  rename Fr g' _ _ _ => F74
                  rename News g' _ _ _ => N74
                  iterate 1 walk1
                  (try dsimp only)
                  exact hQ8 _ _ ⟨good_turnB T30 F74 (bare_fin hgens) (no_raise07 scr) (post07 scr), GrownAt.of N74 (.tail _ (.tail _ (.tail _ (.tail _ (.tail _ (.tail _ (.tail _ (.head _)))))))), True.intro⟩
                · (try unfold Stop)
                  have hone : (lf.length : Int) = 1 := by assumption
                  rcases htold with ⟨S, c9, k9, y9, rfl, rfl, e9, hyd⟩ | ⟨S, c9, -, -, e9⟩ | ⟨-, -, e9⟩
                  rotate_left
                  · have hne := cfin_ne (hs := List.dropLast) (row := words) (by intro h; rw [h] at hw3; simp at hw3)
                    rw [← hsub] at hne
                    exact absurd e9 hne
                  · exfalso; rw [hsubl] at hone; exact Mine.r296 hone e9
                  have hlf1 : lf = [y9] := by
                    have := left_sub hUb
                    rw [List.reverse_reverse, ← hsub, ← hlf, e9] at this
                    exact List.perm_singleton.mp this
                  rw [hlf1] at hleft'
                  obtain ⟨t9, hl9⟩ : ∃ t, lv' = [.str (wordStr y9) t] := by
                    cases hleft' with
                    | cons _ t hr => cases hr; exact ⟨t, rfl⟩
                  subst hl9
                  subst hXG
                  rename Fr g' _ _ _ => F74
                  rename News g' _ _ _ => N74
                  (try clear F70)
                  (try clear N70)
                  (try clear F71)
                  (try clear N71)
                  w_strict k_steps
                  (try unfold Stop)
                  refine PySem.Calls.call_len_list (items := #[.ref (τ.X y9)]) (News.isList N74 (.tail _ (.tail _ (.tail _ (.tail _ (.tail _ (.tail _ (.tail _ (.tail _ (.tail _ (.tail _ (.tail _ (.tail _ (.tail _ (.tail _ (.tail _ (.tail _ (List.mem_append_right _ (List.mem_append_left _ (.head _)))))))))))))))))))) (by show ((1 : Nat) : Int) < 2 ^ 63; decide) ?_
                  rw [show ((#[Value.ref (τ.X y9)].size : Nat) : Int) = 1 from rfl]
                  w_strict k_steps
                  (try unfold Stop)
                  refine item_listL (l := [.ref (τ.X y9)]) (News.isList N74 (.tail _ (.tail _ (.tail _ (.tail _ (.tail _ (.tail _ (.tail _ (.tail _ (.tail _ (.tail _ (.tail _ (.tail _ (.tail _ (.tail _ (.tail _ (.tail _ (List.mem_append_right _ (List.mem_append_left _ (.head _)))))))))))))))))))) (by decide) (by decide) (by rfl) ?_
                  w_strict k_steps
                  (try unfold Stop)
                  refine item_listL (l := [.str (wordStr y9) t9]) (News.isList N74 (.tail _ (.tail _ (.tail _ (.head _))))) (by decide) (by decide) (by rfl) ?_
                  w_strict k_steps
                  (try unfold Stop)
                  refine kda_item (knd := PySem.strKind _ _) N74 (.tail _ (.tail _ (.tail _ (.tail _ (.tail _ (.tail _ (.head _))))))) hO3.dict (strKind_is _ _ _ _) (v := .ref (τ.X y9)) (by rw [kvs_look, WS.dom_X hyd]; rfl) ?_
                  (try dsimp only)
                  w_strict k_steps
                  (try unfold Stop)
                  refine is_ref_same ?_
                  (try dsimp only)
                  exact hQ8 _ _ ⟨good_turnB T30 F74 (bare_fin hgens) (no_raise07 scr) (post07 scr), GrownAt.of N74 (.tail _ (.tail _ (.tail _ (.tail _ (.tail _ (.tail _ (.tail _ (.head _)))))))), True.intro⟩
      case main3 =>
        subst hm₂
        clear F21
        have restL : ∀ (τ : WS) (S : Addr × Obj) (h : Heap), News (ghostOf s1.heap [(584, 580)]) s1.heap.objs.size h ((ND, τ.oN) :: (580, τ.tab) :: lA LA τ :: (R, LCg.lst vs) :: (s1.heap.objs.size + 1 + 1 + 1 + 1 + 1, o5) :: (s1.heap.objs.size + 1 + 1 + 1 + 1, o4) :: (s1.heap.objs.size + 1 + 1 + 1, o3) :: (s1.heap.objs.size + 1 + 1, o2) :: (s1.heap.objs.size + 1, o1) :: ([S] ++ τ.G)) → WOk w ND LA τ → (∀ c, S.2.data ≠ .cell c) →
            (∀ p ∈ [S] ++ τ.G, p.1 ≠ s1.heap.objs.size + 1 + 1 + 1 + 1 + 1 ∧ p.1 ≠ s1.heap.objs.size + 1 + 1 + 1 + 1 ∧ p.1 ≠ s1.heap.objs.size + 1 + 1 + 1) := by
          intro τ S h N O hS p hp
          rcases List.mem_cons.mp hp with rfl | hp
          · have i0 : p ∈ [p] ++ τ.G := .head _
            have i1 := List.mem_append_right ((ND, τ.oN) :: (580, τ.tab) :: lA LA τ :: (R, LCg.lst vs) :: (s1.heap.objs.size + 1 + 1 + 1 + 1 + 1, o5) :: (s1.heap.objs.size + 1 + 1 + 1 + 1, o4) :: (s1.heap.objs.size + 1 + 1 + 1, o3) :: (s1.heap.objs.size + 1 + 1, o2) :: [(s1.heap.objs.size + 1, o1)]) i0
            obtain ⟨pa, po⟩ := p
            refine ⟨ne_of_data N i1 (.tail _ (.tail _ (.tail _ (.tail _ (.head _))))) ?_, ne_of_data N i1 (.tail _ (.tail _ (.tail _ (.tail _ (.tail _ (.head _)))))) ?_, ne_of_data N i1 (.tail _ (.tail _ (.tail _ (.tail _ (.tail _ (.tail _ (.head _))))))) ?_⟩
            · rw [hc5]; exact hS _
            · rw [hc4]; exact hS _
            · rw [hc3]; exact hS _
          · have g := O.gtA p hp
            exact ⟨Nat.ne_of_gt (Nat.lt_trans lt2.2.2.1 g), Nat.ne_of_gt (Nat.lt_trans lt2.2.2.2.1 g), Nat.ne_of_gt (Nat.lt_trans lt2.2.2.2.2.1 g)⟩
        refine wpAny_Try_except ?_
        w_strict k_steps
        unfold Stop
        rename Fr _ _ _ _ => F22
        rename News _ _ _ _ => N22
        refine gen_spec w (LA := LA) (outer := []) (row := words) (rowv := refs σ.X words) (zr := (refs σ.X words).length) (rest := wled ND LA σ [(R, LCg.lst vs), (s1.heap.objs.size + 1 + 1 + 1 + 1 + 1, o5), (s1.heap.objs.size + 1 + 1 + 1 + 1, o4), (s1.heap.objs.size + 1 + 1 + 1, o3), (s1.heap.objs.size + 1 + 1, o2), (s1.heap.objs.size + 1, o1)]) B1 F22 X1 (N22.perm led7_try) T1 (by rfl) (by rfl) (by exact Mine.r151 hw43) codeHd hlo lt1.2.2.2.2.2.2 ?dp3 ?un3 ?rS3
        (case dp3 => k_room)
        (case un3 => k_units)
        intro g L' h11 t1 t2 tk1 m0 code FG F11 N11 hkp GS
        dsimp only
        w_strict k_steps
        unfold Stop
        obtain ⟨N12, lt12⟩ := push_head F11 N11 (o := genO s1.gens.size (Str.ofString "_collapse_addresses_internal") (Str.ofString "_collapse_addresses_internal") t1 t2) rfl
        have F12 := F11.push (genO s1.gens.size (Str.ofString "_collapse_addresses_internal") (Str.ofString "_collapse_addresses_internal") t1 t2)
        obtain ⟨ga, hga⟩ : ∃ ga, ga = h11.objs.size := ⟨_, rfl⟩
        rw [← hga] at N12 lt12 ⊢
        clear N11 N22 F11 hkp
        have cG : ∀ τ : WS, WOk w ND LA τ → ∀ p ∈ τ.G, p.1 ≠ s1.heap.objs.size + 1 + 1 + 1 + 1 + 1 ∧ p.1 ≠ s1.heap.objs.size + 1 + 1 + 1 + 1 ∧ p.1 ≠ s1.heap.objs.size + 1 + 1 + 1 := fun τ O p hp => by
          have g := O.gtA p hp
          exact ⟨Nat.ne_of_gt (Nat.lt_trans lt2.2.2.1 g), Nat.ne_of_gt (Nat.lt_trans lt2.2.2.2.1 g), Nat.ne_of_gt (Nat.lt_trans lt2.2.2.2.2.1 g)⟩
        refine list_spec w (row := words) FG F12 (T1.keeps FG.keep) (N12.perm led7_g) GS ?hgs3 hO hdom (by exact Mine.r238 hkl hw43) hav ?hoff3 ?hDA3 ?hGD3 ?dp4 ?un4 ?one3 ?no3 ?err3
        case hgs3 => dsimp only; simp
        case hoff3 =>
          intro p hp
          simp only [List.mem_cons, List.not_mem_nil, or_false] at hp
          rcases hp with rfl | rfl | rfl | rfl | rfl | rfl | rfl
          · exact ⟨Nat.ne_of_gt (lt12 (580, σ.tab) (.tail _ (.tail _ (.head _)))), Nat.ne_of_gt (lt12 (ND, σ.oN) (.tail _ (.head _))), Nat.ne_of_gt (lt12 (lA LA σ) (.tail _ (.tail _ (.tail _ (List.mem_append_right _ (.head _))))))⟩
          · exact ⟨Ne.symm oR0, Nat.ne_of_lt lt1.1, Nat.ne_of_lt lt2.2.1⟩
          · exact ⟨Nat.ne_of_gt c580.1, Nat.ne_of_lt lt1.2.1, Nat.ne_of_lt lt2.2.2.1⟩
          · exact ⟨Nat.ne_of_gt c580.2.1, Nat.ne_of_lt lt1.2.2.1, Nat.ne_of_lt lt2.2.2.2.1⟩
          · exact ⟨Nat.ne_of_gt c580.2.2.1, Nat.ne_of_lt lt1.2.2.2.1, Nat.ne_of_lt lt2.2.2.2.2.1⟩
          · exact ⟨Nat.ne_of_gt c580.2.2.2.1, Nat.ne_of_lt lt1.2.2.2.2.1, Nat.ne_of_lt lt2.2.2.2.2.2.1⟩
          · exact ⟨Nat.ne_of_gt c580.2.2.2.2, Nat.ne_of_lt lt1.2.2.2.2.2.1, Nat.ne_of_lt lt2.2.2.2.2.2.2.1⟩
        case hDA3 => exact ⟨Ne.symm (offD (580, σ.tab) (.tail _ (.head _))), Ne.symm (offD (ND, σ.oN) (.head _)), Ne.symm (offD (lA LA σ) (.tail _ (.tail _ (.head _))))⟩
        case hGD3 => exact fun p hp => offD p (.tail _ (.tail _ (.tail _ (.tail _ (.tail _ (.tail _ (.tail _ (.tail _ (.tail _ hp)))))))))
        case dp4 => k_room
        case un4 => k_units
        case no3 =>
          intro S h' tk' τ c hs0 hW hA F13 N13
          rw [set_fin]
          (try dsimp only)
          w_strict k_steps
          unfold Stop
          rename Fr (ghostOf _ _) _ _ _ => F14
          rename News (ghostOf _ _) _ _ _ => N14
          have N15 := N14.perm led7_s
          rw [hPA]
          exact ⟨rfl, _, _, _, _, τ, [(S, W.listOf #[] c)], rfl, F14, N15, hW.ok, .inr (.inl ⟨S, c, rfl, rfl, by rw [hsub]; exact hs0⟩), hA, fun v hv => hW.ext.dom (hdom v hv), by subst hST; exact ⟨KtsTurn.refl, B1, X1, T1⟩, restL τ _ _ N15 hW.ok (fun c e => by cases e)⟩
        case one3 =>
          intro k y S h' tk' τ c hs0 hyd hW hA F13 N13
          rw [set_fin]
          (try dsimp only)
          w_strict k_steps
          unfold Stop
          rename Fr (ghostOf _ _) _ _ _ => F14
          rename News (ghostOf _ _) _ _ _ => N14
          have N15 := N14.perm led7_s
          rw [hPA]
          exact ⟨rfl, _, _, _, _, τ, [(S, W.listOf #[.ref (τ.X y)] c)], rfl, F14, N15, hW.ok, .inl ⟨S, c, k, y, rfl, rfl, by rw [hsub]; exact hs0, hyd⟩, hA, fun v hv => hW.ext.dom (hdom v hv), by subst hST; exact ⟨KtsTurn.refl, B1, X1, T1⟩, restL τ _ _ N15 hW.ok (fun c e => by cases e)⟩
        case err3 =>
          intro ex h' tk' τ h2' hW hA R13
          rw [set_fin]
          (try dsimp only)
          refine caught_X R13 (by rfl) B1 X1 T1 (fun A E Q s g' F X T h => nameX_B F X T (by k_is) PyProof.Rows.Boot.«TypeError» (by decide) h) PySem.F.isExc_TypeError PySem.F.notTuple_TypeError (by kts_sub) (by first | exact hM8 _ | passes_own) ?_
          intro h16 g16 T16 F16 N16 B16 X16 P16
          (try dsimp only)
          w_strict k_steps
          unfold Stop
          rename Fr g16 _ _ _ => F17
          rename News g16 _ _ _ => N17
          rw [hPA]
          exact ⟨rfl, _, _, _, _, τ, [], rfl, F17, N17.perm (led7_e (rest := [(R, LCg.lst vs), (s1.heap.objs.size + 1 + 1 + 1 + 1 + 1, o5), (s1.heap.objs.size + 1 + 1 + 1 + 1, o4), (s1.heap.objs.size + 1 + 1 + 1, o3), (s1.heap.objs.size + 1 + 1, o2), (s1.heap.objs.size + 1, o1)])), hW.ok, .inr (.inr ⟨rfl, rfl, by rw [hsub]; exact h2'⟩), hA, fun v hv => hW.ext.dom (hdom v hv), by subst hST; exact ⟨T16, B16, X16, P16⟩, fun p hp => cG τ hW.ok p hp⟩)
end Mine
end
set_option maxRecDepth 100000 in
set_option maxHeartbeats 8000000 in
theorem PySem.Challenge.cw_km0038_07_holds : PySem.Challenge.rw_km0038_07.Holds := by
  exact Mine.fin07
