import PyProof.Rows.All
import Wide.All
import OpenK.AllK
import Wide.FinOn
import PySem.Challenge.RW_km0038_06
set_option Elab.async false
section
open PySem PySem.W PyProof.Rows
noncomputable section
namespace Mine
def topRunT (tb : String → Option Builtin) (p : Program) (w : World) (n₀ : Nat) (ann : Option Value) : Nat → SharedT → Thread → Option SharedT
  | 0, _, _ => none
  | n + 1, s, t => match through t with
    | true => some s
    | false => match stepOk n₀ ann t with
      | false => none
      | true => match stepT (denote tb) p w s t with
        | some (s', t') => topRunT tb p w n₀ ann n s' t'
        | none => none
theorem topRunT_of {tb : String → Option Builtin} {p : Program} {w : World} {n₀ : Nat} {ann : Option Value} : ∀ {n : Nat} {s s' : SharedT} {t : Thread},
    topRunT tb p w n₀ ann n s t = some s' → topRun tb p w n₀ ann n s.abs t = some s'.abs
  | 0, _, _, _, h => by cases h
  | n + 1, s, s', t, h => by
    unfold topRunT at h
    unfold topRun
    cases he : through t with
    | true => rw [he] at h; cases h; rfl
    | false =>
      rw [he] at h
      cases hk : stepOk n₀ ann t with
      | false => rw [hk] at h; cases h
      | true =>
        rw [hk] at h
        cases hs : stepT (denote tb) p w s t with
        | none => rw [hs] at h; cases h
        | some r => obtain ⟨s₂, t₂⟩ := r; rw [hs] at h; dsimp only; rw [stepT_spec hs]; exact topRunT_of h

def plant (l : List Obj) : BT := (l.foldl (fun (x : BT × Nat) o => (x.1.ins x.2 o, x.2 + 1)) (BT.nil, 0)).1
def bootT (P : Params) : BT := plant (boot_heap P).objs.toList
def bootN : Nat := 11
def start0 (w : World) (os : OsState) : SharedT := ⟨bootT w.params, bootN, (boot_heap w.params).life, #[], boot_drawn, boot_toks, os⟩

def shotF {α : Type} (p q : Program) (loose : List Str) (s₀ : SharedT) (h₀ : Heap) (Yf : Shared → α) (M : Nat) (w : World) :=
  (topRunT treeTable p w 11 (some (.ref 6)) M s₀ (topStub p)).map fun sT =>
    ((staticsOk (importedModules p.main.body) h₀ sT.abs.heap && namesBound p sT.abs.heap && gensDone sT.abs && laidKept h₀ sT.abs.heap),
      openSeen q loose (importedModules p.main.body) (fun s => xlAt q [] s && recOk [] s) true sT.abs, Yf sT.abs)
end Mine
end
noncomputable section
namespace Mine
theorem boot_base (P : Params) : absHeap (bootT P) bootN (boot_heap P).life = boot_heap P := by kernel_rfl
theorem boot_size (w : World) : ((boot_heap w.params).isNs mainGlobals && (#[] : Array GenState).size == 0, (boot_heap w.params).objs.size, (boot_heap w.params).nsMap mainGlobals "__annotations__") = (true, 11, some (.ref 6)) := by kernel_rfl
theorem left_shot {p q : Program} {loose : List Str} {α : Type} {Yf : Shared → α} {Ya : World → α} {N : Nat}
    (e : opening p = plainProg p.main.scope.names) (hN : Nat.ble 600 N = true) (f : ∀ s, fenceModules? p s = some s)
    (h : ∀ w os, shotF p q loose (start0 w os) (boot_heap w.params) Yf N w = some (true, openGood q loose, Ya w)) :
    LeftO p q loose (fun s => xlAt q [] s && recOk [] s) Yf Ya N true := fun w => by
  obtain ⟨⟨hp, gs, d, k, os⟩, e1, e2⟩ := Option.map_eq_some_iff.mp (boot_open e hN f w)
  obtain ⟨rfl, rfl, rfl, rfl⟩ : hp = boot_heap w.params ∧ gs = #[] ∧ d = boot_drawn ∧ k = boot_toks := by simpa using e2
  obtain ⟨sT, r, l⟩ := Option.map_eq_some_iff.mp (h w os)
  obtain ⟨l1, l2, l3⟩ : _ ∧ _ ∧ _ := by simpa only [Prod.mk.injEq] using l
  have r := topRunT_of r
  rw [show (start0 w os).abs = ⟨boot_heap w.params, #[], boot_drawn, boot_toks, os⟩ from congrArg (fun x => (⟨x, #[], boot_drawn, boot_toks, os⟩ : Shared)) (boot_base w.params)] at r
  obtain ⟨z1, z2, z3⟩ : _ ∧ _ ∧ _ := by simpa only [Prod.mk.injEq] using boot_size w
  have t : topFrom treeTable p w N ⟨boot_heap w.params, #[], boot_drawn, boot_toks, os⟩ = some sT.abs := by
    unfold topFrom
    dsimp only
    rw [z1, z2, z3, r]
    show (match staticsOk (importedModules p.main.body) (boot_heap w.params) sT.abs.heap && namesBound p sT.abs.heap && gensDone sT.abs && laidKept (boot_heap w.params) sT.abs.heap with | true => _ | false => _) = _
    rw [l1]
  unfold openEnds
  rw [e1]
  show (topFrom treeTable p w N _).map _ = _
  rw [t]
  exact congrArg some (Prod.ext l2 l3)
end Mine
end
namespace Mine
theorem left_shotT (H : Hook) {p q : Program} {loose : List Str} {N : Nat}
    (T : {α : Type} → Program → Program → List Str → SharedT → Heap → (Shared → α) → Nat → World → _) (te : @shotF = @T)
    (e1 : opening p = plainProg p.main.scope.names) (hN : Nat.ble 600 N = true) (f : ∀ s, fenceModules? p s = some s)
    (h : ∀ w os, T p q loose (start0 w os) (boot_heap w.params) H.obs N w = some (true, openGood q loose, H.val w)) :
    LeftO p q loose (fun s => xlAt q [] s && recOk [] s) H.obs H.val N true := by
  refine left_shot e1 hN f ?_
  rw [te]
  exact h
end Mine
end
section
open PySem PySem.W PyProof.Rows
set_option maxRecDepth 100000
set_option maxHeartbeats 8000000
lay_quick Mine.shotF
noncomputable section
namespace Mine
abbrev pw := PySem.Challenge.pw_km0038_06
def qv : Program := view pw [27]
def lo : List Str := ["_wall", "_collapse_addresses_internal", "_IPAddressBase", "_gt_from_lt", "_le_from_lt", "_ge_from_lt", "_ge_from_le", "_lt_from_le", "_gt_from_le", "_lt_from_gt", "_ge_from_gt", "_le_from_gt", "_le_from_ge", "_gt_from_ge", "_lt_from_ge", "total_ordering", "_NOT_FOUND", "cached_property", "_BaseNetwork", "_BaseConstants", "_law_net", "_law_words"]
end Mine
end
set_option hygiene false
local macro_rules
  | `(tactic| o_head $H) => `(tactic| (
    refine PySem.W.holds_open (r := PySem.Challenge.rw_km0038_06.row) (q := Mine.qv) (loose := Mine.lo) (Xt := fun s => xlAt Mine.qv [] s && recOk [] s) (XP := XL Mine.qv []) (Yf := Hook.obs $H) (Ya := Hook.val $H) (YP := Hook.says $H) (N := 8000) ?hl (Hook.of $H) (Hook.keeps $H) (fun s e => xl_of s (Bool.and_eq_true_iff.mp e).1) XL.keeps (by rfl) (by rfl) (by rfl) (fun s e => recFacts_of (Bool.and_eq_true_iff.mp e).2) (by rfl) (by first | assumption | decide +kernel) (by decide +kernel) ⟨rfl, rfl, rfl, rfl, rfl, by decide +kernel⟩ ?hw ?hc;
    (case hl => (refine Mine.left_shotT $H (p := Mine.pw) _ PySem.W.Fast.te17940891641106722768 (by kernel_rfl) (by decide) (by intro s; kernel_rfl) ?_; intro w os; kernel_rfl))))
set_option hygiene true
namespace Mine
open_top hd for PySem.Challenge.rw_km0038_06
end Mine
end
section
open PySem PySem.W PyProof.Rows
namespace Mine
end Mine
namespace Mine
section
variable {prog : Program} {w : World} {A : Around} {E : Value → Shared → Prop} {s : Shared} {t : Tok} {Q : Value → Shared → Prop}
end
end Mine
namespace Mine
end Mine
namespace Mine
section
variable {prog : Program} {w : World} {A : Around} {E : Value → Shared → Prop} {s : Shared} {t u : Tok} {Q : Value → Shared → Prop} {h₀ : Heap} {L : Addr} {m : Str → Option Value} {news : List (Addr × Obj)} {d : Str}
end
end Mine
namespace Mine
end Mine
namespace Mine
end Mine
end
section
open PySem PySem.W PyProof.Rows PySem.Spec PySem.Calls
namespace Mine
section
variable {prog : Program} {w : World} {A₀ : Around} {E : Value → Shared → Prop} {s' : Shared} {base g g₀ G : Heap} {outer : List Env} {L a e t C : Addr} {m : Str → Option Value} {name : Str} {scope : Scope} {cd : Value}
  {vs : List Value} {n : Str} {b₀ : Stmt} {suite : List Stmt} {pos np : Pos} {rest : List ExceptHandler} {Q : Flow → Shared → Prop} {news : List (Addr × Obj)} {KF : Frag}
  {p : Program} {loose : List Str} {mean : ExcName → Option Value} {mg mb : Str → Option Value} {x : Str}
end
section
variable {prog : Program} {w : World} {A : Around} {E : Value → Shared → Prop} {s : Shared} {h₀ : Heap} {L e t C : Addr} {m : Str → Option Value} {news : List (Addr × Obj)} {d : Option Addr} {ws : Array Value} {sl : Array (Option Value)} {vs : List Value} {Q : Value → Shared → Prop}
end
end Mine
namespace Mine
section
variable {prog : Program} {w : World} {A : Around} {E : Value → Shared → Prop} {s : Shared} {h₀ : Heap} {L a b : Addr} {news : List (Addr × Obj)} {d : Option Addr} {sl : Array (Option Value)} {x y : Str} {t u : Tok} {n k : Nat} {Q : Value → Shared → Prop}
end
end Mine
namespace Mine
end Mine
namespace Mine
def Stop (p : Prop) : Prop := p
theorem stop_here {p : Prop} (h : Stop p) : p := h
section
variable {prog : Program} {w : World} {A : Around} {E : Value → Shared → Prop} {env : Env} {test : PySem.Expr} {body orelse : List Stmt} {Q : Flow → Shared → Prop}
def WPost (I : Nat → Shared → Prop) (n : Nat) (Q : Flow → Shared → Prop) (f : Flow) (s : Shared) : Prop := match f with
  | .next => ∃ n', n' < n ∧ I n' s
  | .cont => ∃ n', n' < n ∧ I n' s
  | .brk => Q .next s
  | .ret v => Q (.ret v) s
theorem while_ind (hE : PassesOwn (model prog w) A env E) (I : Nat → Shared → Prop)
    (turn : ∀ n s, I n s → wpAny (model prog w) A (isTrue test env (eval test env)) (fun b s₂ => WhlIf b (wpAny (model prog w) A (execs body env) (WPost I n Q) E s₂) (wpAny (model prog w) A (execs orelse env) Q E s₂)) E s)
    {pos : Pos} (n : Nat) {s : Shared} (h : I n s) : wpAny (model prog w) A (exec (.While test body orelse pos) env) Q E s := by
  refine whl_start 0 ?_
  have key : ∀ N n s, n < N → I n s → WhlRest prog w A E env test body orelse Q 1 s := by
    intro N
    induction N with
    | zero => intro n s hn; exact absurd hn (Nat.not_lt_zero _)
    | succ N ih =>
      intro n s hn hI
      refine whl_turn hE (wpAny_mono (turn n s hI) (fun b s₂ hb => ?_) fun _ _ e => e)
      unfold WhlIf at hb ⊢
      cases b with
      | false => exact hb
      | true =>
        refine wpAny_mono hb (fun f s₃ hf => ?_) fun _ _ e => e
        have go : (∃ n', n' < n ∧ I n' s₃) → WhlRest prog w A E env test body orelse Q 0 s₃ := fun ⟨n', l, i⟩ => ih n' s₃ (Nat.lt_of_lt_of_le l (Nat.le_of_lt_succ hn)) i
        cases f with
        | next => exact go hf
        | cont => exact go hf
        | brk => exact hf
        | ret v => exact hf
  exact key (n + 1) n s (Nat.lt_succ_self _) h
end
end Mine
namespace Mine
end Mine
end
section
open PySem PySem.W PyProof.Rows PySem.Spec PySem.Calls
namespace Mine
section
variable {prog : Program} {w : World} {A : Around} {E : Value → Shared → Prop} {s : Shared} {h₀ : Heap} {L a b : Addr} {news : List (Addr × Obj)} {ps qs : List (Str × Tok)} {n k : Nat} {vs : Array Value} {Q : Value → Shared → Prop}
end
section
open PySem.Spec PySem.Calls
end
section
open PySem.Spec PySem.Calls
end
end Mine
end
section
open PySem PySem.W PyProof.Rows
namespace Mine
section
variable {prog : Program} {w : World} {A : Around} {E : Value → Shared → Prop} {s : Shared} {t u : Tok} {Q : Value → Shared → Prop}
end
end Mine
end
section
open PySem PySem.W PyProof.Rows PySem.Spec PySem.Calls
namespace Mine
section
variable {prog : Program} {w : World} {A : Around} {E : Value → Shared → Prop} {s : Shared} {h₀ : Heap} {L D b : Addr} {m : Str → Option Value} {news news' : List (Addr × Obj)} {ps qs : List (Str × Tok)} {p : Str × Tok} {n k : Nat} {x y : Str} {t u : Tok}
end
section
variable {prog : Program} {w : World} {A : Around} {E : Value → Shared → Prop} {s : Shared} {t u : Tok} {Q : Value → Shared → Prop}
theorem add_small {x y : Str} (hx : x.length ≤ 200) (hy : y.length ≤ 200) (k : ∀ t' tk, Q (.str (x ++ y) t') { s with toks := tk }) : wpAny (model prog w) A (binaryOp .Add (.str x t) (.str y u)) Q E s := by
  refine add_str k ?_
  rw [sizeLine_eq]; omega
end
end Mine
end
section
open PySem PySem.W PyProof.Rows PySem.Spec PySem.Calls
namespace Mine
section
open LCg
variable {prog : Program} {w : World} {A : Around} {E : Value → Shared → Prop} {s : Shared} {h₀ : Heap} {L : Addr} {m : Str → Option Value} {env : Env}
end
end Mine
end
section
open PySem PySem.W PyProof.Rows
namespace Mine
end Mine
end
section
open PySem PySem.W PyProof.Rows
namespace Mine
section
variable {prog : Program} {w : World} {A : Around} {E : Value → Shared → Prop} {s : Shared} {t u : Tok} {Q : Value → Shared → Prop}
end
end Mine
end
section
open PySem PySem.W PyProof.Rows
namespace Mine
end Mine
end
section
open PySem PySem.W PyProof.Rows
namespace Mine
end Mine
end
section
open PySem PySem.W PyProof.Rows PySem.Spec PySem.Calls
namespace Mine
section
variable {prog : Program} {w : World} {A : Around} {E : Value → Shared → Prop} {s : Shared} {h₀ : Heap} {L a : Addr} {news : List (Addr × Obj)} {vs : List Value} {n : Nat} {Q : Value → Shared → Prop}
end
end Mine
end
section
open PySem PySem.W PyProof.Rows PySem.Spec PySem.Calls
set_option maxRecDepth 100000
namespace Mine
section
variable {prog : Program} {w : World} {A : Around} {E : Value → Shared → Prop} {s : Shared} {env : Env} {x : Str} {px : Pos} {body : List Stmt} {it : Value} {Q : Flow → Shared → Prop}
def ForTurn (prog : Program) (w : World) (A : Around) (E : Value → Shared → Prop) (env : Env) (x : Str) (px : Pos) (body : List Stmt) (Q : Flow → Shared → Prop) (I : Nat → Shared → Prop) (n : Nat) (r : Option Value) (s₁ : Shared) : Prop := match r with
  | none => wpAny (model prog w) A (execs [] env) Q E s₁
  | some v => wpAny (model prog w) A (assign (.Name x px) env v) (fun _ s₂ => wpAny (model prog w) A (execs body env) (WPost I n Q) E s₂) E s₁
theorem for_ind (hE : PassesOwn (model prog w) A env E) (I : Nat → Shared → Prop) (turn : ∀ n s, I n s → wpAny (model prog w) A (pyNext it) (ForTurn prog w A E env x px body Q I n) E s) (n : Nat) (h : I n s)
    (ht : ∀ v, letOwnedTupleGo (.Name x px) it v = pure () := by intro _; rfl) :
    codeAny (model prog w) A (.forLoop (.Name x px) it body [] env) (fun r s' => match r with | .ok f => Q f s' | .error e => cameBackBy (model prog w) A env E e s') s := by
  refine codeAny_forLoop I (fun n s hI => wpAny_passesOwn hE (wpAny_mono (turn n s hI) (fun r s₁ hr => ?_) fun _ _ e => e)) n h ht
  cases r with
  | none => exact wpAny_passesOwn hE hr
  | some v =>
    refine wpAny_passesOwn hE (wpAny_mono hr (fun _ s₂ h₂ => wpAny_passesOwn hE (wpAny_mono h₂ (fun f s₃ h₃ => ?_) fun _ _ e => e)) fun _ _ e => e)
    cases f with
    | next => exact h₃
    | cont => exact h₃
    | brk => exact h₃
    | ret v => exact h₃
end
end Mine
end
section
open PySem PySem.W PyProof.Rows PySem.Spec PySem.Calls
namespace Mine
section
open LCg
variable {prog : Program} {w : World} {A : Around} {E : Value → Shared → Prop} {s : Shared} {h₀ : Heap} {L : Addr} {m : Str → Option Value} {env : Env}
end
section
variable {prog : Program} {w : World} {A : Around} {E : Value → Shared → Prop} {s : Shared} {t : Tok} {Q : Value → Shared → Prop}
end
end Mine
end
section
open PySem PySem.W PyProof.Rows PySem.Spec PySem.Calls
set_option maxRecDepth 100000
namespace Mine
namespace RB
theorem slot_bytes_repr : Slot "bytes" "__repr__" "bytes.__repr__" :=
  .of (owner := "bytes") (n := "__repr__") (by rw [typeLookup_type, builtinLookup_eq_fast]; kernel_rfl) (by decide +kernel) (by decide +kernel) (by decide +kernel)
    (by first | exact .inl (by decide +kernel) | exact .inr (by decide +kernel)) (by rw [isSubtype_type]; kernel_rfl)
theorem entry_bytes_repr : entryFor table "bytes.__repr__" = some Builtin.«bytes.__repr__» := entryFor_of_tree (by kernel_rfl)
theorem args_bytes_repr (a : Value) : argsOk "bytes.__repr__" ⟨[a], []⟩ := by
  unfold argsOk; rw [signature?_of (id := "bytes.__repr__") (n := ['_', '_', 'r', 'p', 'e', 'r', '_', '_']) (o := ['s', 'e', 't', 'y', 'b']) (by kernel_rfl) FB.owner_bytes]; kernel_rfl
theorem fills_bytes_mod : fillsNumberSlot (.type "bytes") "mod" = pure true :=
  fillsNumberSlot_of (id := "bytes.__mod__") (r := some (.builtin "bytes.__rmod__")) (by rw [typeLookup_type, builtinLookup_eq_fast]; kernel_rfl) (by decide +kernel) (by rw [typeLookup_type, builtinLookup_eq_fast]; kernel_rfl)
theorem noFill (T : String) (h1 : typeLookup (.type T) (dunder "mod") = pure none) (h2 : typeLookup (.type T) (dunderR "mod") = pure none) : fillsNumberSlot (.type T) "mod" = pure false := by
  simp only [fillsNumberSlot, h1, h2, pure_bind]; rfl
theorem noFill_list : fillsNumberSlot (.type "list") "mod" = pure false := noFill _ (by rw [typeLookup_type, builtinLookup_eq_fast]; kernel_rfl) (by rw [typeLookup_type, builtinLookup_eq_fast]; kernel_rfl)
theorem noFill_None : fillsNumberSlot (.type "NoneType") "mod" = pure false := noFill _ (by rw [typeLookup_type, builtinLookup_eq_fast]; kernel_rfl) (by rw [typeLookup_type, builtinLookup_eq_fast]; kernel_rfl)
theorem get_bytes : typeLookup (.type "bytes") "__getitem__" = pure (some (.builtin "bytes.__getitem__")) := by rw [typeLookup_type, builtinLookup_eq_fast]; kernel_rfl
theorem get_list : typeLookup (.type "list") "__getitem__" = pure (some (.builtin "list.__getitem__")) := by rw [typeLookup_type, builtinLookup_eq_fast]; kernel_rfl
theorem get_None : typeLookup (.type "NoneType") "__getitem__" = pure none := by rw [typeLookup_type, builtinLookup_eq_fast]; kernel_rfl
theorem get_int : typeLookup (.type "int") "__getitem__" = pure none := by rw [typeLookup_type, builtinLookup_eq_fast]; kernel_rfl
theorem get_bool : typeLookup (.type "bool") "__getitem__" = pure none := by rw [typeLookup_type, builtinLookup_eq_fast]; kernel_rfl
theorem get_str : typeLookup (.type "str") "__getitem__" = pure (some (.builtin "str.__getitem__")) := by rw [typeLookup_type, builtinLookup_eq_fast]; kernel_rfl
end RB
section
variable {prog : Program} {w : World} {A : Around} {E : Value → Shared → Prop} {s : Shared}
end
end Mine
end
section
open PySem PySem.W PyProof.Rows PySem.Spec PySem.Calls
set_option maxRecDepth 100000
namespace Mine
section
variable {prog : Program} {w : World} {A : Around} {E : Value → Shared → Prop} {s : Shared}
end
end Mine
namespace Mine
section
variable {prog : Program} {w : World} {A : Around} {E : Value → Shared → Prop} {s : Shared}
end
end Mine
end
section
open PySem PySem.W PyProof.Rows PySem.Spec PySem.Calls
set_option maxRecDepth 100000
namespace Mine
theorem int_len {i : Int} (h1 : -(10 ^ 40) < i) (h2 : i < 10 ^ 40) : (Str.ofString (toString i)).length ≤ 1000 := by
  have hn : i.natAbs < 10 ^ 40 := by omega
  have := int_text_length_le10 (k := 40) (by decide) hn
  rw [PySem.ofString_length]
  omega
section
variable {prog : Program} {w : World} {A : Around} {E : Value → Shared → Prop} {s : Shared} {h₀ : Heap} {L : Addr} {m : Str → Option Value} {news : List (Addr × Obj)}
end
end Mine
end
section
open PySem PySem.W PyProof.Rows PySem.Spec PySem.Calls
set_option maxRecDepth 100000
namespace Mine
section
variable {prog : Program} {w : World} {A : Around} {E : Value → Shared → Prop} {s : Shared}
end
section
variable {prog : Program} {w : World} {A : Around}
end
end Mine
end
section
open PySem PySem.W PyProof.Rows PySem.Spec PySem.Calls
set_option maxRecDepth 100000
namespace Mine
section
open LCg
variable {prog : Program} {w : World} {A : Around} {E : Value → Shared → Prop} {s : Shared} {h₀ : Heap} {L : Addr} {m : Str → Option Value} {env : Env}
end
section
variable {prog : Program} {w : World} {A : Around} {E : Value → Shared → Prop} {s : Shared} {env : Env} {h₀ : Heap} {x : PySem.Str} {body : List Stmt} {Q : Flow → Shared → Prop}
end
end Mine
end
section
open PySem PySem.W PyProof.Rows PySem.Spec PySem.Calls
set_option maxRecDepth 100000
namespace Mine
section
open LCg
variable {prog : Program} {w : World} {A : Around} {E : Value → Shared → Prop} {s : Shared} {h₀ : Heap} {L : Addr} {m : Str → Option Value} {env : Env}
end
theorem ints_at : ∀ {vs : List Value} {ns : List Int}, IntsAre vs ns → ∀ {i : Nat} {v : Value}, vs[i]? = some v → ∃ k t, ns[i]? = some k ∧ v = .int k t
  | _, _, .nil, i, v, h => by simp at h
  | _, _, .cons n t hr, i, v, h => by
    cases i with
    | zero => exact ⟨n, t, rfl, by simpa using h.symm⟩
    | succ i => simpa using ints_at hr (by simpa using h)
section
variable {prog : Program} {w : World} {A : Around} {E : Value → Shared → Prop} {s : Shared} {t : Tok} {Q : Value → Shared → Prop}
end
end Mine
end
section
open PySem PySem.W PyProof.Rows PySem.Spec PySem.Calls
set_option maxRecDepth 100000
namespace Mine
end Mine
end
section
open PySem PySem.W PyProof.Rows PySem.Spec PySem.Calls
set_option maxRecDepth 100000
namespace Mine
theorem iter_new {h₀ h : Heap} {L l : Addr} {m : Str → Option Value} {LED : List (Addr × Obj)} (F : Fr h₀ L h m) (N : News h₀ L h LED) :
    News h₀ L (h.push { cls := .type "list_iterator", data := .fields #[.ref l, .int 0 0] }) ((h.objs.size, { cls := .type "list_iterator", data := .fields #[.ref l, .int 0 0] }) :: LED) ∧ ∀ p ∈ LED, p.1 ≠ h.objs.size := by
  refine ⟨fun p hp => ?_, fun p hp => Nat.ne_of_lt (Heap.lt_size (N p hp).1)⟩
  rcases List.mem_cons.mp hp with rfl | hp
  · exact ⟨Heap.get?_push_size _ rfl, Ne.symm (Nat.ne_of_lt F.ns.lt), next_is_new F⟩
  · exact ⟨Heap.get?_push_of_some _ (N p hp).1, (N p hp).2⟩
theorem iter_step {h₀ h h' : Heap} {L I l : Addr} {m : Str → Option Value} {LED : List (Addr × Obj)} {oI : Obj} {i : Nat} (F : Fr h₀ L h m) (N : News h₀ L h ((I, oI) :: LED)) (off : ∀ p ∈ LED, p.1 ≠ I) (hit : h'.IsListIter I l i) (hs : Heap.SameBut I h h') :
    ∃ o', o'.cls = .type "list_iterator" ∧ o'.data = .fields #[.ref l, .int i 0] ∧ Fr h₀ L h' m ∧ News h₀ L h' ((I, o') :: LED) := by
  obtain ⟨o', h1, h2, h3⟩ := hit
  have hI := N (I, oI) List.mem_cons_self
  refine ⟨o', h2, h3, F.change hs hI.2.1 hI.2.2, fun p hp => ?_⟩
  rcases List.mem_cons.mp hp with rfl | hp
  · exact ⟨h1, hI.2⟩
  · exact ⟨(hs.2 _ (off p hp)).trans (N p (List.mem_cons_of_mem _ hp)).1, (N p (List.mem_cons_of_mem _ hp)).2⟩
theorem iter_at {h₀ h : Heap} {L I l : Addr} {LED : List (Addr × Obj)} {oI : Obj} {i : Nat} (N : News h₀ L h ((I, oI) :: LED)) (h1 : oI.cls = .type "list_iterator") (h2 : oI.data = .fields #[.ref l, .int i 0]) : h.IsListIter I l i :=
  ⟨oI, (N (I, oI) List.mem_cons_self).1, h1, h2⟩
end Mine
end
section
open PySem PySem.W PyProof.Rows PySem.Spec PySem.Calls
set_option maxRecDepth 100000
namespace Mine
section
open LCg
variable {prog : Program} {w : World} {A : Around} {E : Value → Shared → Prop} {s : Shared} {h₀ : Heap} {L : Addr} {m : Str → Option Value} {env : Env}
end
end Mine
end
section
open PySem PySem.W PyProof.Rows PySem.Spec PySem.Calls
set_option maxRecDepth 100000
namespace Mine
section
open LCg
variable {prog : Program} {w : World} {A : Around} {E : Value → Shared → Prop} {s : Shared} {h₀ : Heap} {L : Addr} {m : Str → Option Value} {env : Env}
theorem comp_relP {elt : Expr} {x : Str} {scope : Scope} {cl : List (Str × Addr)} {Fin : List Value → List (Addr × Obj) → Prop} {news : List (Addr × Obj)} {S : List (Addr × Obj) → Prop} {P : Nat → Value → Prop} {n : Nat} (Rel : Nat → Value → Prop)
    (turn : ∀ (i : Nat) v I oI C oC D m₂ ys h tk (E' : Value → Shared → Prop), P i v → NsObj oC m₂ → m₂ x = some v → Fr h₀ L h m → News h₀ L h ((I, oI) :: (C, oC) :: (D, lst ys) :: news) → Off3 I C D news → ((@Ne Nat I C) ∧ (@Ne Nat I D) ∧ (@Ne Nat C D)) →
      wpAny (model prog w) A (eval elt (compEnvC scope cl C env)) (CompEnd h₀ L m { s with heap := h, toks := tk } I oI C oC D (lst ys) S (fun y news' => news' = news ∧ Rel i y)) E' { s with heap := h, toks := tk })
    (fin : ∀ ys : List Value, ys.length = n → (∀ i y, ys[i]? = some y → Rel i y) → Fin ys news) : CompRest prog w A h₀ L m env elt x scope cl s S P Fin n 0 [] news := by
  have key : ∀ (j i : Nat) (ys : List Value), i + j = n → ys.length = i → (∀ k y, ys[k]? = some y → Rel k y) → CompRest prog w A h₀ L m env elt x scope cl s S P Fin j i ys news := by
    intro j
    induction j with
    | zero =>
      intro i ys hi hl hr
      exact CompRest.zero (fin ys (by omega) hr)
    | succ j ih =>
      intro i ys hi hl hr
      refine CompRest.succ ?_
      intro v I oI C oC D m₂ h tk E' hv hC hx F N off ne
      refine wpAny_mono (turn i v I oI C oC D m₂ _ h tk E' hv hC hx F N off ne) (fun v s₂ hq => ?_) fun _ _ e => e
      obtain ⟨h', tk', nw, e, F', N', off', hS, hn, hy'⟩ := hq
      rw [hn] at N' off' hS
      refine ⟨h', tk', news, e, F', N', off', hS, ?_⟩
      refine ih (i + 1) _ (by omega) (by simp [hl]) fun k y hk => ?_
      by_cases hlt : k < ys.length
      · rw [List.getElem?_append_left hlt] at hk
        exact hr k y hk
      · rw [List.getElem?_append_right (by omega)] at hk
        have hk0 : k - ys.length = 0 := by
          rcases Nat.eq_zero_or_pos (k - ys.length) with h | h
          · exact h
          · rw [List.getElem?_eq_none (by simp only [List.length_singleton]; exact h)] at hk; cases hk
        rw [hk0] at hk
        have : v = y := by simpa using hk
        subst this
        have : k = i := by omega
        subst this
        exact hy'
  exact key n 0 [] (by omega) rfl (fun k y hk => by simp at hk)
end
section
variable {h₀ h : Heap} {L : Addr} {m : Str → Option Value}
theorem fr_name (F : Fr h₀ L h m) : ∃ m', m' = m ∧ Fr h₀ L h m' := ⟨_, rfl, F⟩
theorem fr_ext {m' : Str → Option Value} (F : Fr h₀ L h m) (e : ∀ y, m' y = m y) : Fr h₀ L h m' := by
  have : m' = m := funext e
  rw [this]; exact F
theorem off1_mem {D : Addr} : ∀ {l : List (Addr × Obj)}, LCg.Off1 D l → ∀ p ∈ l, p.1 ≠ D
  | [], _, _, h => nomatch h
  | q :: r, h, p, hp => by
    rcases List.mem_cons.mp hp with rfl | hp
    · exact h.1
    · exact off1_mem h.2 p hp
theorem iter_end {h' : Heap} {I : Addr} {oI : Obj} {LED : List (Addr × Obj)} (F : Fr h₀ L h m) (N : News h₀ L h ((I, oI) :: LED)) (off : ∀ p ∈ LED, p.1 ≠ I) (he : Heap.ExtBut I h h') : Fr h₀ L h' m ∧ News h₀ L h' LED := by
  have hI9 := N (I, oI) List.mem_cons_self
  exact ⟨⟨F.ns.at' fun o e => he _ _ (fun z => hI9.2.1 z.symm) e, fun b o e => he _ _ (fun z => by rw [z, hI9.2.2] at e; cases e) (F.keep b o e), F.above⟩,
    fun p hp => ⟨he _ _ (off p hp) (N p (List.mem_cons_of_mem _ hp)).1, (N p (List.mem_cons_of_mem _ hp)).2⟩⟩
theorem head_name {a : Addr} {o : Obj} {LED : List (Addr × Obj)} (N : News h₀ L h ((a, o) :: LED)) : ∃ a', a' = a ∧ News h₀ L h ((a', o) :: LED) := ⟨_, rfl, N⟩
end
end Mine
end
section
open PySem PySem.W PyProof.Rows PySem.Spec PySem.Calls
set_option maxRecDepth 100000
namespace Mine
section
variable {prog : Program} {w : World} {A₀ A : Around} {s : Shared} {base h₀ g₀ : Heap} {outer : List Env} {env : Env} {L a : Addr} {m : Str → Option Value} {news : List (Addr × Obj)} {K : Frag} {p : Program} {loose : List Str} {mean : ExcName → Option Value} {mg mb : Str → Option Value}
  {R : Result → Shared → Prop} {name qual : Str} {params : Arguments} {body : List Stmt} {scope : Scope} {dV kV doc pm cdv ct oc : Value} {an od : Option Addr} {osl : Array (Option Value)} {f : Addr} {args : Args} {binds : List (Str × Value)}
end
end Mine
end
section
open PySem PySem.W PyProof.Rows PySem.Spec PySem.Calls
set_option maxRecDepth 100000
namespace Mine
abbrev ents (H : Addr → Int) (xs : List (Addr × Value)) : List DictEntry := xs.map fun p => ⟨H p.1, .ref p.1, p.2⟩
section
variable {prog : Program} {w : World} {A : Around} {E : Value → Shared → Prop} {s : Shared} {H : Addr → Int} {xs : List (Addr × Value)} {k d : Addr} {o : Obj} {ep : Nat}
theorem ents_at (j : Nat) : (ents H xs).toArray[j]? = (xs[j]?).map fun p => ⟨H p.1, .ref p.1, p.2⟩ := by
  rw [List.getElem?_toArray, List.getElem?_map]
theorem ents_size : (ents H xs).toArray.size = xs.length := by rw [List.size_toArray, List.length_map]
theorem keys_unique (hn : (xs.map (·.1)).Nodup) {i j : Nat} {p q : Value} (hi : xs[i]? = some (k, p)) (hj : xs[j]? = some (k, q)) : i = j := by
  have hi' : (xs.map (·.1))[i]? = some k := by rw [List.getElem?_map, hi]; rfl
  have hj' : (xs.map (·.1))[j]? = some k := by rw [List.getElem?_map, hj]; rfl
  exact (List.getElem?_inj (List.getElem?_eq_some_iff.mp hi').1 hn).mp (hi'.trans hj'.symm)
theorem dictFind_ref {Q : Option Nat → Shared → Prop} (ho : s.heap.get? d = some o) (hd : o.data = .dict (ents H xs).toArray ep) (hn : (xs.map (·.1)).Nodup) (hH : ∀ p ∈ xs, H p.1 = H k → p.1 = k)
    (hnone : (∀ (j : Nat) (v : Value), xs[j]? ≠ some (k, v)) → Q none s) (hsome : ∀ (j : Nat) (v : Value), xs[j]? = some (k, v) → Q (some j) s) :
    wpAny (model prog w) A (dictFind d (.ref k) (H k)) Q E s := by
  generalize hes : (ents H xs).toArray = es at hd
  have hat : ∀ j : Nat, es[j]? = (xs[j]?).map fun p => (⟨H p.1, .ref p.1, p.2⟩ : DictEntry) := fun j => by rw [← hes]; exact ents_at j
  have hsz : es.size = xs.length := by rw [← hes]; exact ents_size
  have haskey : ∀ (j : Nat) (v : Value), xs[j]? = some (k, v) → ((es[j]?.map (·.hash)) == some (H k)) = true := by
    intro j v hj
    rw [hat j, hj]; simp
  have hany : ¬ (es.any fun e => e.key == Value.ref k && e.hash != H k) = true := by
    rw [← Array.any_toList, List.any_eq_true]
    rintro ⟨e, hin, hc⟩
    rw [← hes, List.toList_toArray] at hin
    obtain ⟨p, hp, rfl⟩ := List.mem_map.mp hin
    simp only [Bool.and_eq_true, beq_iff_eq, bne_iff_ne, ne_eq, Value.ref.injEq] at hc
    exact hc.2 (by rw [hc.1])
  have hst : ∀ v ∈ (placesWithHash es.size (fun i => es[i]?.map (·.hash)) (H k)).filterMap (fun i => es[i]?.map (·.key)), v = .ref k := by
    intro v hv
    obtain ⟨i, hi0, hi⟩ := List.mem_filterMap.mp hv
    have hp := (List.mem_filter.mp hi0).2
    dsimp only at hp
    rw [hat i] at hi hp
    cases hx : xs[i]? with
    | none => rw [hx] at hi; cases hi
    | some p =>
      rw [hx] at hi hp
      have e1 : H p.1 = H k := by simpa using hp
      have e2 : (.ref p.1 : Value) = v := by simpa using hi
      rw [← e2, hH p (List.mem_of_getElem? hx) e1]
  have hlen1 : ((placesWithHash es.size (fun i => es[i]?.map (·.hash)) (H k)).filterMap (fun i => es[i]?.map (·.key))) = [] ∨ ((placesWithHash es.size (fun i => es[i]?.map (·.hash)) (H k)).filterMap (fun i => es[i]?.map (·.key))) = [.ref k] := by
    have uniq : ∀ l : List Nat, l.Nodup → (∀ i ∈ l, ∃ v, xs[i]? = some (k, v)) → l.filterMap (fun i => es[i]?.map (·.key)) = [] ∨ l.filterMap (fun i => es[i]?.map (·.key)) = [.ref k] := by
      intro l hl hk
      match l, hl, hk with
      | [], _, _ => exact .inl rfl
      | [i], _, hk =>
        obtain ⟨v, hv⟩ := hk i (.head _)
        right
        rw [List.filterMap_cons, List.filterMap_nil, hat i, hv]
        rfl
      | i :: j :: r, hl, hk =>
        obtain ⟨v, hv⟩ := hk i (.head _)
        obtain ⟨u, hu⟩ := hk j (.tail _ (.head _))
        have := keys_unique hn hv hu
        subst this
        simp at hl
    refine uniq _ ?_ ?_
    · unfold placesWithHash
      exact List.nodup_range.filter _
    · intro i hi
      have hp := (List.mem_filter.mp hi).2
      dsimp only at hp
      rw [hat i] at hp
      cases hx : xs[i]? with
      | none => rw [hx] at hp; simp at hp
      | some p =>
        rw [hx] at hp
        have e1 : H p.1 = H k := by simpa using hp
        refine ⟨p.2, ?_⟩
        rw [← hH p (List.mem_of_getElem? hx) e1]
  unfold dictFind
  try with_reducible refine wpAny_holding ?_
  refine wpAny_bind (wpAny_dictEntries ho hd ?_)
  dsimp only
  rw [if_neg (show ¬ ((Value.ref k :: (placesWithHash es.size (fun i => es[i]?.map (·.hash)) (H k)).filterMap (fun i => es[i]?.map (·.key))).all carriedByValue) = true by simp [carriedByValue])]
  rw [if_neg hany]
  have htell : ∀ {Q' : Bool → Shared → Prop}, Q' false s → wpAny (model prog w) A (if (((placesWithHash es.size (fun i => es[i]?.map (·.hash)) (H k)).filterMap (fun i => es[i]?.map (·.key))) == [Value.ref k]) = true then pure false else tableMayTell (.ref k) ((placesWithHash es.size (fun i => es[i]?.map (·.hash)) (H k)).filterMap (fun i => es[i]?.map (·.key)))) Q' E s := by
    intro Q' hq
    rcases hlen1 with e | e
    · rw [e]
      rw [if_neg (by simp)]
      unfold tableMayTell
      rw [if_pos (by rfl)]
      exact wpAny_pure hq
    · rw [e]
      rw [if_pos (by simp)]
      exact wpAny_pure hq
  by_cases hone : (((placesWithHash es.size (fun i => es[i]?.map (·.hash)) (H k)).filterMap (fun i => es[i]?.map (·.key))) == [Value.ref k]) = true <;>
  (first | rw [if_pos hone] | rw [if_neg hone]) <;>
  (first | rw [if_pos hone] at htell | rw [if_neg hone] at htell) <;> (first | refine wpAny_bind (wpAny_pure ?_) | refine wpAny_bind (htell ?_)) <;> (
    rw [if_neg (by simp)]
    refine wpAny_bind ?_
    refine wpAny_forIn_list _
      (fun rest b s' => s' = s ∧ ∃ i hit, b = (none, hit) ∧ rest = (List.range' i (es.size - i)).filter (fun i => (es[i]?.map (·.hash)) == some (H k)) ∧ i ≤ es.size ∧
        ((hit = none ∧ ∀ j v, j < i → xs[j]? ≠ some (k, v)) ∨ ∃ j v, hit = some j ∧ j < i ∧ xs[j]? = some (k, v))) _ ?_ ?_ _ _
      ⟨rfl, 0, none, rfl, by rw [placesWithHash, List.range_eq_range', Nat.sub_zero], Nat.zero_le _, .inl ⟨rfl, fun _ _ h => absurd h (Nat.not_lt_zero _)⟩⟩
    · rintro x rest b s' ⟨rfl, i, hit, rfl, hr, hi, hHt⟩
      obtain ⟨hix, hxn, hpx, hskip, hrest⟩ := filter_range'_cons _ _ _ _ _ hr.symm
      have hlt : x < es.size := by omega
      have hrest' : rest = (List.range' (x + 1) (es.size - (x + 1))).filter (fun i => (es[i]?.map (·.hash)) == some (H k)) := by rw [hrest]; congr 2; omega
      obtain ⟨⟨b, v'⟩, hkv⟩ : ∃ y, xs[x]? = some y := ⟨xs[x]'(by rw [← hsz]; exact hlt), List.getElem?_eq_getElem _⟩
      have hex : es[x]? = some ⟨H b, .ref b, v'⟩ := by rw [hat x, hkv]; rfl
      have hbk : b = k := by
        rw [hex] at hpx
        exact hH (b, v') (List.mem_of_getElem? hkv) (by simpa using hpx)
      subst hbk
      rw [hex]
      dsimp only
      rw [if_pos (by simp)]
      have heq : ∀ {Q' : Bool → Shared → Prop}, Q' true s' → wpAny (model prog w) A (PySem.eqBool (.ref b) (.ref b)) Q' E s' := by
        intro Q' hq
        unfold PySem.eqBool
        try with_reducible refine wpAny_holding ?_
        rw [if_pos (by simp)]
        exact wpAny_bind (wpAny_rule (wpAny_pure hq))
      refine wpAny_bind (wpAny_dictEpoch ho hd (wpAny_bind (heq (wpAny_bind (wpAny_dictEpoch ho hd ?_)))))
      show wpAny _ _ (if (ep != ep) = true then _ else _) _ E _
      rw [if_neg (by simp)]
      rcases hHt with ⟨rfl, _⟩ | ⟨j, p, _, hjx, hj⟩
      · first | rw [if_pos rfl] | skip
        simp only [Option.isSome_none, Bool.false_eq_true, if_false]
        first | refine wpAny_bind (wpAny_pure ?_) | skip
        refine wpAny_bind (wpAny_rule ?_)
        split
        · exact wpAny_pure (wpAny_pure (hsome x _ hkv))
        · exact wpAny_pure ⟨rfl, x + 1, some x, rfl, hrest', hlt, .inr ⟨x, _, rfl, Nat.lt_succ_self x, hkv⟩⟩
      · exact absurd (keys_unique hn hj hkv) (by omega)
    · rintro b s' ⟨rfl, i, hit, rfl, hr, hi, hHt⟩
      have hall : ∀ j, i ≤ j → j < es.size → ((es[j]?.map (·.hash)) == some (H k)) = false := by
        intro j h1 h2
        have := List.filter_eq_nil_iff.mp hr.symm j (List.mem_range'_1.mpr ⟨h1, by omega⟩)
        simpa using this
      rcases hHt with ⟨rfl, hno⟩ | ⟨j, p, rfl, _, hj⟩
      · refine wpAny_pure (hnone fun j p hj => ?_)
        rcases Nat.lt_or_ge j i with h | h
        · exact hno j p h hj
        · have hjl : j < es.size := by
            rw [hsz]
            rcases Nat.lt_or_ge j xs.length with h' | h'
            · exact h'
            · rw [List.getElem?_eq_none h'] at hj; exact nomatch hj
          have := hall j h hjl
          rw [haskey j p hj] at this
          exact absurd this (by decide)
      · exact wpAny_pure (hsome j p hj))
end
end Mine
end
section
open PySem PySem.W PyProof.Rows PySem.Spec PySem.Calls
set_option maxRecDepth 100000
namespace Mine
section
variable {prog : Program} {w : World} {A : Around} {E : Value → Shared → Prop} {s : Shared} {K : Frag} {C L f : Addr} {h₀ : Heap} {m : Str → Option Value} {ox : Obj} {od : Option Obj} {news : List (Addr × Obj)} {k S : Addr} {Hk : Int}
def HashAt (prog : Program) (w : World) (A : Around) (h₀ : Heap) (L : Addr) (m : Str → Option Value) (news : List (Addr × Obj)) (f k : Addr) (Hk : Int) : Prop :=
  ∀ (s : Shared) (Q E : Value → Shared → Prop), Fr h₀ L s.heap m → News h₀ L s.heap news → (∀ h' tk' t, Fr h₀ L h' m → News h₀ L h' news → Q (.int Hk t) { s with heap := h', toks := tk' }) → wpAny (model prog w) A (call (.ref f) [.ref k]) Q E s
theorem hash_ref {Q : Int → Shared → Prop} (hu : A.units < cLine) (F : Fr h₀ L s.heap m) (N : News h₀ L s.heap news) (X₀ : K.In h₀) (I : InstAt s.heap k ox C od) (hs : findIn K (.ref C) "__hash__" = some (some (.ref f))) (hf : isFn K (.ref f) = true)
    (hr : -2 ^ 63 ≤ Hk ∧ Hk < 2 ^ 63 ∧ Hk ≠ -1) (hc : HashAt prog w A h₀ L m news f k Hk)
    (h : ∀ h' tk', Fr h₀ L h' m → News h₀ L h' news → Q Hk { s with heap := h', toks := tk' }) : wpAny (model prog w) A (pyHash (.ref k)) Q E s := by
  have X := X₀.keeps F.keep
  unfold pyHash
  refine wpAny_bind (wpAny_cRoomFor hu ?_)
  have sp : ∀ {Q' : Option Value → Shared → Prop}, Q' (some (.ref f)) s → wpAny (model prog w) A (specialOf (.ref k) "__hash__") Q' E s := by
    intro Q' hq
    unfold specialOf
    exact wpAny_bind (I.type.here ((looks_findIn X hs).here hq))
  refine wpAny_bind (sp ?_)
  rw [if_neg (by simp)]
  refine wpAny_bind (sp ?_)
  simp only [Option.isNone_some, Bool.false_eq_true, if_false]
  refine wpAny_bind ?_
  have main : wpAny (model prog w) A (call (.ref f) [.ref k] >>= fun v => pure (some v)) (fun r s' => ∃ h' tk' t, r = some (.int Hk t) ∧ s' = { s with heap := h', toks := tk' } ∧ Fr h₀ L h' m ∧ News h₀ L h' news) E s :=
    wpAny_bind (hc s _ _ F N fun h' tk' t F' N' => wpAny_pure ⟨h', tk', t, rfl, rfl, F', N'⟩)
  have two : wpAny (model prog w) A (callSpecialIfBoundUnlessNone? (.ref k) "__hash__" (do rule "hash.unhashable"; raiseError "TypeError" s!"unhashable type: '{← typeNameOf (.ref k)}'")) (fun r s' => ∃ h' tk' t, r = some (.int Hk t) ∧ s' = { s with heap := h', toks := tk' } ∧ Fr h₀ L h' m ∧ News h₀ L h' news) E s := by
    simp only [callSpecialIfBoundUnlessNone?, bindSpecialIfBound?]
    refine wpAny_holding (wpAny_bind (wpAny_bind (sp ?_)))
    refine wpAny_bind (wpAny_askSetting (wpAny_ite ?_))
    split
    · exact wpAny_bind ((bind_fn X _ (beq_iff_eq.mp hf)).here (wpAny_pure (by exact main)))
    · exact wpAny_tryCatch (wpAny_bind ((bind_fn X _ (beq_iff_eq.mp hf)).here (wpAny_pure (by exact main))))
  refine wpAny_mono two (fun r s' z => ?_) fun _ _ e => e
  obtain ⟨h', tk', t, rfl, rfl, F', N'⟩ := z
  dsimp only
  unfold pyHashByItsType.reduced
  rw [if_pos (by rw [decide_eq_true hr.1, decide_eq_true hr.2.1]; rfl)]
  refine wpAny_pure ?_
  rw [if_neg (by simpa using hr.2.2)]
  exact h h' tk' F' N'
end
section
variable {prog : Program} {w : World} {A : Around} {E : Value → Shared → Prop} {s : Shared} {K : Frag} {C L f : Addr} {h₀ : Heap} {m : Str → Option Value} {ox : Obj} {od : Option Obj} {news : List (Addr × Obj)} {k S : Addr} {H : Addr → Int} {xs : List (Addr × Value)} {n : Nat}
theorem atOf {v : Value} : ∀ {xs : List (Addr × Value)} {j : Nat}, (xs.map (·.1)).Nodup → xs[j]? = some (k, v) → xs.lookup k = some v
  | [], _, _, h => by simp at h
  | x :: r, 0, _, h => by
    have : x = (k, v) := by simpa using h
    subst this
    simp [List.lookup]
  | x :: r, j + 1, hn, h => by
    rw [List.map_cons, List.nodup_cons] at hn
    have h' : r[j]? = some (k, v) := by simpa using h
    have hne : (k == x.1) = false := by
      rw [beq_eq_false_iff_ne]
      rintro rfl
      exact hn.1 (List.mem_map.mpr ⟨_, List.mem_of_getElem? h', rfl⟩)
    obtain ⟨a, b⟩ := x
    simp only [List.lookup, hne]
    exact atOf hn.2 h'
theorem noneOf : ∀ {xs : List (Addr × Value)}, (∀ (j : Nat) (v : Value), xs[j]? ≠ some (k, v)) → xs.lookup k = none
  | [], _ => rfl
  | (a, b) :: r, h => by
    have hne : (k == a) = false := by
      rw [beq_eq_false_iff_ne]
      rintro rfl
      exact h 0 b rfl
    simp only [List.lookup, hne]
    exact noneOf fun j v hj => h (j + 1) v (by simpa using hj)
theorem get_ref {Q : Value → Shared → Prop} (hu : A.in1.units < cLine) (F : Fr h₀ L s.heap m) (N : News h₀ L s.heap news) (X₀ : K.In h₀) (I : InstAt s.heap k ox C od) (hs : findIn K (.ref C) "__hash__" = some (some (.ref f))) (hf : isFn K (.ref f) = true)
    (hr : -2 ^ 63 ≤ H k ∧ H k < 2 ^ 63 ∧ H k ≠ -1) (hc : HashAt prog w A.in1 h₀ L m news f k (H k)) (hS : (S, dictOf (ents H xs) n) ∈ news) (hsm : (S == sysModules) = false) (hn : (xs.map (·.1)).Nodup) (hH : ∀ p ∈ xs, H p.1 = H k → p.1 = k)
    (h : ∀ h' tk', Fr h₀ L h' m → News h₀ L h' news → Q ((xs.lookup k).getD .none) { s with heap := h', toks := tk' }) : wpAny (model prog w) A (call (.builtin "dict.get") [.ref S, .ref k]) Q E s := by
  have z := N _ hS
  refine wpAny_call_entry PySem.F.slot_dict_get ⟨_, z.1, rfl⟩ PySem.F.entry_dict_get ?_ (PySem.F.args_dict_get_2 _ _)
  show wpAny _ _ (Builtin.Dict.notOrdered "get" ⟨[.ref S, .ref k], []⟩ >>= fun _ => _) _ _ s
  refine wpAny_bind (wpAny_notOrdered_dict ⟨_, z.1, rfl⟩ ?_)
  show wpAny _ _ (dictGet S (.ref k) >>= _) _ _ s
  unfold dictGet
  refine wpAny_bind ?_
  try with_reducible refine wpAny_holding ?_
  refine wpAny_bind (hash_ref hu F N X₀ I hs hf hr hc fun h' tk' F' N' => ?_)
  have z' := N' _ hS
  refine wpAny_bind (dictFind_ref (H := H) (xs := xs) (ep := n) z'.1 rfl hn hH (fun hno => ?_) fun j v hj => ?_)
  · refine wpAny_pure ?_
    dsimp only
    show wpAny _ _ (Builtin.Dict.missed S (.ref k) >>= _) _ _ _
    refine wpAny_bind (wpAny_missed_other hsm (wpAny_pure ⟨.none, rfl, ?_⟩))
    have := h h' tk' F' N'
    rw [noneOf hno] at this
    exact this
  · refine wpAny_bind (wpAny_dictEntries z'.1 rfl (wpAny_pure ?_))
    rw [ents_at j, hj]
    have := h h' tk' F' N'
    rw [atOf hn hj] at this
    exact wpAny_pure ⟨v, rfl, this⟩
end
end Mine
end
section
open PySem PySem.W PyProof.Rows PySem.Spec PySem.Calls
set_option maxRecDepth 100000
namespace Mine
theorem map_erase {α β : Type} (f : α → β) : ∀ (l : List α) (j : Nat), (l.map f).eraseIdx j = (l.eraseIdx j).map f
  | [], _ => rfl
  | _ :: _, 0 => rfl
  | x :: r, j + 1 => by simp only [List.map_cons, List.eraseIdx_cons_succ, map_erase f r j]
theorem upd_at {h : Heap} {S : Addr} {o : Obj} (g : Obj → Obj) (ho : h.get? S = some o) (hf : (g o).isFreed = false) : (h.update S g).get? S = some (g o) := Heap.get?_update_self _ ho hf
theorem erase_keys {k : Addr} {v : Value} : ∀ {xs : List (Addr × Value)} {j : Nat}, (xs.map (·.1)).Nodup → xs[j]? = some (k, v) → xs.eraseIdx j = xs.filter (fun p => p.1 != k)
  | [], _, _, h => by simp at h
  | x :: r, 0, hn, h => by
    have : x = (k, v) := by simpa using h
    subst this
    rw [List.map_cons, List.nodup_cons] at hn
    rw [List.eraseIdx_cons_zero, List.filter_cons_of_neg (by simp)]
    symm
    rw [List.filter_eq_self]
    intro p hp
    have : p.1 ≠ k := fun e => hn.1 (List.mem_map.mpr ⟨p, hp, e⟩)
    simpa using this
  | x :: r, j + 1, hn, h => by
    rw [List.map_cons, List.nodup_cons] at hn
    have h' : r[j]? = some (k, v) := by simpa using h
    have hne : x.1 ≠ k := by
      rintro rfl
      exact hn.1 (List.mem_map.mpr ⟨_, List.mem_of_getElem? h', rfl⟩)
    rw [List.eraseIdx_cons_succ, List.filter_cons_of_pos (by simpa using hne), erase_keys hn.2 h']
section
variable {prog : Program} {w : World} {A : Around} {E : Value → Shared → Prop} {s : Shared} {K : Frag} {C L f : Addr} {h₀ : Heap} {m : Str → Option Value} {ox : Obj} {od : Option Obj} {rest : List (Addr × Obj)} {k S : Addr} {H : Addr → Int} {xs : List (Addr × Value)} {n : Nat} {v : Value}
theorem news_head {h h' : Heap} {o o' : Obj} (N : News h₀ L h ((S, o) :: rest)) (F : Fr h₀ L h m) (off : ∀ p ∈ rest, p.1 ≠ S) (hs : Heap.SameBut S h h') (ho : h'.get? S = some o') : Fr h₀ L h' m ∧ News h₀ L h' ((S, o') :: rest) := by
  have z := N (S, o) (.head _)
  refine ⟨F.change hs z.2.1 z.2.2, fun p hp => ?_⟩
  rcases List.mem_cons.mp hp with rfl | hp
  · exact ⟨ho, z.2⟩
  · exact ⟨(hs.2 _ (off p hp)).trans (N p (List.mem_cons_of_mem _ hp)).1, (N p (List.mem_cons_of_mem _ hp)).2⟩
theorem set_ref {Q : Unit → Shared → Prop} (hu : A.in1.units < cLine) (F : Fr h₀ L s.heap m) (N : News h₀ L s.heap ((S, dictOf (ents H xs) n) :: rest)) (off : ∀ p ∈ rest, p.1 ≠ S) (X₀ : K.In h₀) (I : InstAt s.heap k ox C od) (hs : findIn K (.ref C) "__hash__" = some (some (.ref f))) (hf : isFn K (.ref f) = true)
    (hr : -2 ^ 63 ≤ H k ∧ H k < 2 ^ 63 ∧ H k ≠ -1) (hc : HashAt prog w A.in1 h₀ L m ((S, dictOf (ents H xs) n) :: rest) f k (H k)) (hn : (xs.map (·.1)).Nodup) (hH : ∀ p ∈ xs, H p.1 = H k → p.1 = k) (hz : xs.length ≤ 1000) (hk : k ∉ xs.map (·.1))
    (h : ∀ h' tk', Fr h₀ L h' m → News h₀ L h' ((S, dictOf (ents H (xs ++ [(k, v)])) (n + 1)) :: rest) → Q () { s with heap := h', toks := tk' }) : wpAny (model prog w) A (setItem (.ref S) (.ref k) v) Q E s := by
  have z := N _ (.head _)
  have hT : s.TypeIs (.ref S) "dict" := ⟨_, z.1, rfl⟩
  unfold setItem
  try with_reducible refine wpAny_holding ?_
  refine wpAny_bind (wpAny_sequenceKey hT (by decide) ?_)
  refine wpAny_bind (wpAny_callSpecial?_slot (name := Str.ofString "__setitem__") hT slot_dict_setitem
    (wpAny_call_entry slot_dict_setitem hT entry_dict_setitem ?_ (args_dict_setitem _ _ _)))
  show wpAny _ _ (Builtin.Dict.notOrdered "__setitem__" ⟨[.ref S, .ref k, v], []⟩ >>= _) _ _ s
  refine wpAny_bind (wpAny_notOrdered_dict hT ?_)
  show wpAny _ _ (dictSet S (.ref k) v >>= _) _ _ s
  refine wpAny_bind ?_
  unfold dictSet
  try with_reducible refine wpAny_holding ?_
  refine wpAny_bind (hash_ref hu F N X₀ I hs hf hr hc fun h' tk' F' N' => ?_)
  have z' := N' _ (.head _)
  unfold dictSetHashed
  try with_reducible refine wpAny_holding ?_
  refine wpAny_bind (dictFind_ref (H := H) (xs := xs) (ep := n) z'.1 rfl hn hH (fun hno => ?_) fun j u hj => absurd (List.mem_map.mpr ⟨_, List.mem_of_getElem? hj, rfl⟩) hk)
  refine wpAny_bind (wpAny_rule (wpAny_updateDictKeys (hz := by rw [ents_size, sizeLine_eq]; omega) z'.1 rfl ?_))
  refine wpAny_pure ⟨.none, rfl, wpAny_pure ?_⟩
  obtain ⟨F2, N2⟩ := news_head (o' := dictOf (ents H (xs ++ [(k, v)])) (n + 1)) N' F' off (Heap.SameBut.update ..) (by
    refine (upd_at (Obj.mapDictKeys (·.push ⟨H k, .ref k, v⟩)) z'.1 rfl).trans ?_
    show some (Obj.mk _ _ (.dict ((ents H xs).toArray.push ⟨H k, .ref k, v⟩) (n + 1)) _) = _
    rw [List.push_toArray, ents, ents, List.map_append]
    rfl)
  exact h _ _ F2 N2
theorem del_ref {Q : Unit → Shared → Prop} {u : Value} (hu : A.in1.units < cLine) (F : Fr h₀ L s.heap m) (N : News h₀ L s.heap ((S, dictOf (ents H xs) n) :: rest)) (off : ∀ p ∈ rest, p.1 ≠ S) (X₀ : K.In h₀) (I : InstAt s.heap k ox C od) (hs : findIn K (.ref C) "__hash__" = some (some (.ref f))) (hf : isFn K (.ref f) = true)
    (hr : -2 ^ 63 ≤ H k ∧ H k < 2 ^ 63 ∧ H k ≠ -1) (hc : HashAt prog w A.in1 h₀ L m ((S, dictOf (ents H xs) n) :: rest) f k (H k)) (hn : (xs.map (·.1)).Nodup) (hH : ∀ p ∈ xs, H p.1 = H k → p.1 = k) (hz : xs.length ≤ 1000) (hk : xs.lookup k = some u)
    (h : ∀ h' tk', Fr h₀ L h' m → News h₀ L h' ((S, dictOf (ents H (xs.filter (fun p => p.1 != k))) (n + 1)) :: rest) → Q () { s with heap := h', toks := tk' }) : wpAny (model prog w) A (delItem (.ref S) (.ref k)) Q E s := by
  have z := N _ (.head _)
  have hT : s.TypeIs (.ref S) "dict" := ⟨_, z.1, rfl⟩
  refine wpAny_delItem_slot hT (by decide) PySem.F.slot_dict_delitem (wpAny_call_entry PySem.F.slot_dict_delitem hT PySem.F.entry_dict_delitem ?_ (PySem.F.args_dict_delitem_2 _ _))
  unfold Builtin.«dict.__delitem__»
  refine wpAny_bind ?_
  unfold Builtin.Dict.dictSlotArgs
  refine wpAny_bind (wpAny_notOrdered_dict hT ?_)
  show wpAny _ _ (pure (Value.ref S, Value.ref k)) _ _ s
  refine wpAny_pure ?_
  show wpAny _ _ (Builtin.Dict.takeOut S (.ref k) >>= _) _ _ s
  refine wpAny_bind ?_
  unfold Builtin.Dict.takeOut
  try with_reducible refine wpAny_holding ?_
  refine wpAny_bind (hash_ref hu F N X₀ I hs hf hr hc fun h' tk' F' N' => ?_)
  have z' := N' _ (.head _)
  refine wpAny_bind (dictFind_ref (H := H) (xs := xs) (ep := n) z'.1 rfl hn hH (fun hno => absurd hk (by rw [noneOf hno]; simp)) fun j u hj => ?_)
  refine wpAny_bind (wpAny_dictEntries z'.1 rfl ?_)
  rw [ents_at j, hj]
  refine wpAny_bind (wpAny_updateDictKeys (hz := by rw [ents_size, sizeLine_eq]; omega) z'.1 rfl (wpAny_pure ?_))
  refine wpAny_bind (wpAny_letGo (wpAny_pure ⟨.none, rfl, ?_⟩))
  obtain ⟨F2, N2⟩ := news_head (o' := dictOf (ents H (xs.filter (fun p => p.1 != k))) (n + 1)) N' F' off (Heap.SameBut.update ..) (by
    refine (upd_at (Obj.mapDictKeys (·.eraseIdxIfInBounds j)) z'.1 rfl).trans ?_
    show some (Obj.mk _ _ (.dict ((ents H xs).toArray.eraseIdxIfInBounds j) (n + 1)) _) = _
    have e : (ents H xs).toArray.eraseIdxIfInBounds j = (ents H (xs.filter (fun p => p.1 != k))).toArray := by
      rw [← erase_keys hn hj]
      have hjl : j < (ents H xs).length := by
        rw [List.length_map]
        exact (List.getElem?_eq_some_iff.mp hj).1
      apply Array.toList_inj.mp
      rw [Array.eraseIdxIfInBounds]
      simp only [List.size_toArray, hjl, dif_pos]
      rw [Array.toList_eraseIdx, List.toList_toArray]
      exact map_erase _ _ _
    rw [e])
  exact h _ _ F2 N2
end
end Mine
end
section
open PySem PySem.W PyProof.Rows PySem.Spec PySem.Calls
set_option maxRecDepth 100000
namespace Mine
section
variable {M : Model} {A : Around} {E : Value → Shared → Prop} {s : Shared} {σ : Type}
def wpT (M : Model) (A : Around) (E : Value → Shared → Prop) (s : Shared) {α : Type} (m : StateT σ Sem α) (Q : α → σ → Shared → Prop) (st : σ) : Prop :=
  wpAny M A (m.run st) (fun r s' => Q r.1 r.2 s') E s
theorem wpT_pure {α : Type} {a : α} {Q : α → σ → Shared → Prop} {st : σ} (h : Q a st s) : wpT M A E s (pure a : StateT σ Sem α) Q st := by
  unfold wpT; rw [StateT.run_pure]; exact wpAny_pure h
theorem wpT_bind {α β : Type} {m : StateT σ Sem α} {f : α → StateT σ Sem β} {Q : β → σ → Shared → Prop} {st : σ}
    (h : wpT M A E s m (fun a st' s' => wpT M A E s' (f a) Q st') st) : wpT M A E s (m >>= f) Q st := by
  unfold wpT at h ⊢; rw [StateT.run_bind]
  exact wpAny_bind (wpAny_mono h (fun _ _ h' => h') fun _ _ e => e)
theorem wpT_mono {α : Type} {m : StateT σ Sem α} {Q Q' : α → σ → Shared → Prop} {st : σ} (h : wpT M A E s m Q st) (hq : ∀ a st' s', Q a st' s' → Q' a st' s') : wpT M A E s m Q' st :=
  wpAny_mono h (fun r s' h' => hq _ _ _ h') fun _ _ e => e
theorem wpT_get {Q : σ → σ → Shared → Prop} {st : σ} (h : Q st st s) : wpT M A E s (get : StateT σ Sem σ) Q st := by
  unfold wpT; rw [StateT.run_get]; exact wpAny_pure h
theorem wpT_modify {f : σ → σ} {Q : PUnit → σ → Shared → Prop} {st : σ} (h : Q ⟨⟩ (f st) s) : wpT M A E s (modify f : StateT σ Sem PUnit) Q st := by
  unfold wpT; rw [StateT.run_modify]; exact wpAny_pure h
theorem wpT_lift {α : Type} {m : Sem α} {Q : α → σ → Shared → Prop} {st : σ} (h : wpAny M A m (fun a s' => Q a st s') E s) : wpT M A E s (liftM m : StateT σ Sem α) Q st := by
  unfold wpT
  show wpAny M A ((StateT.lift m : StateT σ Sem α).run st) _ E s
  rw [StateT.run_lift]
  exact wpAny_bind (wpAny_mono h (fun a s' h' => wpAny_pure h') fun _ _ e => e)
theorem wpT_first {β : Type} {a b : Nat} {f : Nat → β → StateT σ Sem (ForInStep β)} {c : β} {Q : β → σ → Shared → Prop} {st : σ} (hab : a < b)
    (h : wpT M A E s (f a c) (fun r st' s' => ∃ c', r = .done c' ∧ Q c' st' s') st) : wpT M A E s (forIn [a:b] c f) Q st := by
  rw [Std.Legacy.Range.forIn_eq_forIn_range']
  have hsz : ([a:b] : Std.Legacy.Range).size = b - a := by simp [Std.Legacy.Range.size]
  show wpT M A E s (forIn (List.range' a ([a:b] : Std.Legacy.Range).size 1) c f) Q st
  rw [hsz]
  obtain ⟨n, hn⟩ : ∃ n, b - a = n + 1 := ⟨b - a - 1, by omega⟩
  rw [hn, List.range'_succ, List.forIn_cons]
  refine wpT_bind (wpT_mono h fun r st' s' h' => ?_)
  obtain ⟨c', rfl, hq⟩ := h'
  exact wpT_pure hq
end
section
variable {prog : Program} {w : World} {A : Around} {E : Value → Shared → Prop} {s : Shared}
theorem lt_raises {st : SortSt} {i j : Nat} {x y p q : Value} {Q : Option Bool → SortSt → Shared → Prop} (hk : kindOf st = oneType') (hi : (arrOf st)[i]? = some (x, p)) (hj : (arrOf st)[j]? = some (y, q))
    (h : wpAny (model prog w) A (oneLt' true x y) (fun _ _ => False) (fun e s' => Q none (SortSt.mk' (kindOf st) (arrOf st) (pendingOf st) (gallopOf st) (some e)) s') s) :
    wpT (model prog w) A E s (ltAt' i j) Q st := by
  rw [ltAt'_eq]
  refine wpT_bind (wpT_get ?_)
  show wpT _ _ _ _ (do let x ← elem' (arrOf st) i; let y ← elem' (arrOf st) j; lt' x y) Q st
  rw [elem'_eq, elem'_eq, hi, hj]
  refine wpT_bind (wpT_pure (wpT_bind (wpT_pure ?_)))
  rw [lt'_eq]
  refine wpT_bind (wpT_get ?_)
  rw [hk, keyLt'_oneType]
  refine wpT_bind (wpT_lift (wpAny_attempt (wpAny_mono h (fun _ _ h' => h'.elim) fun e s' h' => ?_)))
  refine wpT_bind (wpT_modify (wpT_pure ?_))
  exact h'
theorem runs_raise {st : SortSt} {x y p q : Value} {Q : Unit → SortSt → Shared → Prop} (hk : kindOf st = oneType') (h0 : (arrOf st)[0]? = some (y, q)) (h1 : (arrOf st)[1]? = some (x, p))
    (h : wpAny (model prog w) A (oneLt' true x y) (fun _ _ => False) (fun e s' => Q () (SortSt.mk' (kindOf st) (arrOf st) (pendingOf st) (gallopOf st) (some e)) s') s) :
    wpT (model prog w) A E s sortRuns' Q st := by
  have h2 : 1 < (arrOf st).size := by
    rcases Nat.lt_or_ge 1 (arrOf st).size with h | h
    · exact h
    · rw [Array.getElem?_eq_none h] at h1; cases h1
  rw [sortRuns'_eq]
  refine wpT_bind (wpT_get ?_)
  dsimp only
  refine wpT_bind (wpT_first (by omega) ?_)
  rw [if_neg (by omega)]
  refine wpT_bind ?_
  rw [countRun0_eq]
  refine wpT_bind ?_
  unfold ascLoop
  refine wpT_first (by omega) ?_
  refine wpT_bind (lt_raises hk h1 h0 (wpAny_mono h (fun _ _ h' => h'.elim) fun e s' h' => ?_))
  dsimp only
  refine wpT_pure ⟨_, rfl, ?_⟩
  dsimp only
  refine wpT_pure ?_
  dsimp only
  refine wpT_pure ⟨_, rfl, ?_⟩
  dsimp only
  exact wpT_pure h'
end
end Mine
end
section
open PySem PySem.W PyProof.Rows PySem.Spec PySem.Calls
set_option maxRecDepth 100000
namespace Mine
section
variable {M : Model} {A : Around} {E : Value → Shared → Prop} {s : Shared} {C : Addr}
def OfClass (h : Heap) (C : Addr) (vs : List Value) : Prop := ∀ v ∈ vs, ∃ a o, v = .ref a ∧ h.get? a = some o ∧ o.cls = .ref C
theorem first_ref {v : Value} {Q : Option Value → Shared → Prop} (h : ∃ a o, v = .ref a ∧ s.heap.get? a = some o ∧ o.cls = .ref C) (hq : Q none s) : wpAny M A (firstOfTuple' v) Q E s := by
  obtain ⟨a, o, rfl, ho, hc⟩ := h
  show wpAny M A (do if (← typeOf (.ref a)) != .type "tuple" then return none
                     return (← Builtin.List.listItems (.ref a))[0]?) Q E s
  refine wpAny_bind ?_
  unfold typeOf
  refine wpAny_bind (wpAny_load ho (wpAny_pure ?_))
  rw [hc, if_pos (by simp)]
  exact wpAny_pure hq
theorem firsts_refs : ∀ {vs : List Value} {Q : List (Option Value) → Shared → Prop}, OfClass s.heap C vs → Q (vs.map fun _ => none) s → wpAny M A (vs.mapM firstOfTuple') Q E s
  | [], Q, _, hq => by rw [List.mapM_nil]; exact wpAny_pure hq
  | v :: r, Q, h, hq => by
    rw [List.mapM_cons]
    exact wpAny_bind (first_ref (h v (.head _)) (wpAny_bind (firsts_refs (fun u hu => h u (.tail _ hu)) (wpAny_pure hq))))
theorem types_refs : ∀ {vs : List Value} {Q : List Value → Shared → Prop}, OfClass s.heap C vs → Q (vs.map fun _ => .ref C) s → wpAny M A (vs.mapM typeOf) Q E s
  | [], Q, _, hq => by rw [List.mapM_nil]; exact wpAny_pure hq
  | v :: r, Q, h, hq => by
    rw [List.mapM_cons]
    obtain ⟨a, o, rfl, ho, hc⟩ := h v (.head _)
    refine wpAny_bind ?_
    unfold typeOf
    refine wpAny_bind (wpAny_load ho (wpAny_pure ?_))
    rw [hc]
    exact wpAny_bind (types_refs (fun u hu => h u (.tail _ hu)) (wpAny_pure hq))
theorem kind_refs {v₁ : Value} {vs : List Value} {Q : SortKind → Shared → Prop} (h : OfClass s.heap C (v₁ :: vs)) (hq : Q oneType' s) : wpAny M A (keyKind' (v₁ :: vs).toArray) Q E s := by
  rw [keyKind'_eq]
  simp only [List.mapM_toArray]
  refine wpAny_bind ?_
  rw [map_eq_pure_bind]
  refine wpAny_bind (firsts_refs h (wpAny_pure ?_))
  rw [if_neg (by simp), if_neg (by simp)]
  refine wpAny_bind ?_
  rw [oneTypeOnly'_eq]
  simp only [List.mapM_toArray]
  refine wpAny_bind ?_
  rw [map_eq_pure_bind]
  refine wpAny_bind (types_refs h (wpAny_pure ?_))
  have h0 : (List.map (fun _ => Value.ref C) (v₁ :: vs)).toArray[0]? = some (.ref C) := by simp
  rw [h0]
  have hall : ((List.map (fun _ => Value.ref C) (v₁ :: vs)).toArray.all fun x => x == Value.ref C) = true := by
    simp only [List.all_toArray, List.all_map, List.all_eq_true]
    intro _ _
    show (Value.ref C == Value.ref C) = true
    simp
  simp only [hall, if_true]
  refine wpAny_pure ?_
  simp only [Option.isSome_some, if_true]
  exact wpAny_pure hq
end
section
variable {prog : Program} {w : World} {A : Around} {E : Value → Shared → Prop} {s : Shared} {C L B : Addr} {h₀ : Heap} {m : Str → Option Value} {news : List (Addr × Obj)} {vs : List Value} {n : Nat}
theorem sort_world (F : Fr h₀ L s.heap m) (N : News h₀ L s.heap ((B, W.listOf vs.toArray n) :: news)) (off : ∀ p ∈ news, p.1 ≠ B) :
    ∃ e1 h', h' = ((s.heap.update B (Obj.mapSeq fun _ => #[])).push (seqObj "tuple" vs.toArray 0)).push (seqObj "list" #[] 0) ∧ (s.heap.update B (Obj.mapSeq fun _ => #[])).get? B = some (seqObj "list" #[] e1) ∧ Fr h₀ L h' m ∧ News h₀ L h' ((B, W.listOf #[] e1) :: news) := by
  have z := N _ (.head _)
  have hu := get?_update_seq (n := n) (xs := vs.toArray) (c := "list") z.1 (fun _ => #[])
  obtain ⟨F1, N1⟩ := news_head N F off (Heap.SameBut.update s.heap B (Obj.mapSeq fun _ => #[])) hu
  exact ⟨_, _, rfl, hu, (F1.push _).push _, (N1.grown fun _ _ e => Heap.get?_push_of_some _ (Heap.get?_push_of_some _ e))⟩
set_option maxHeartbeats 4000000 in
theorem sort_small {Q : Value → Shared → Prop} (F : Fr h₀ L s.heap m) (N : News h₀ L s.heap ((B, W.listOf vs.toArray n) :: news)) (off : ∀ p ∈ news, p.1 ≠ B) (hv : vs.length < 2)
    (h : ∀ h' n', Fr h₀ L h' m → News h₀ L h' ((B, W.listOf vs.toArray n') :: news) → Q .none { s with heap := h' }) : wpAny (model prog w) A (call (.builtin "list.sort") [.ref B]) Q E s := by
  have z := N _ (.head _)
  refine wpAny_call_entry slot_list_sort ⟨_, z.1, rfl⟩ entry_list_sort ?_ (args_list_sort _)
  rw [list_sort_plain]
  refine wpAny_bind (listItems_at z.1 rfl (wpAny_bind (listUpdate_at z.1 rfl ?_ (by rw [List.size_toArray, sizeLine_eq]; omega))))
  obtain ⟨e1, h1, rfl, hu, F1, N1⟩ := sort_world F N off
  refine wpAny_bind (seqEpoch_at hu rfl (wpAny_bind (wpAny_newTuple (wpAny_bind (wpAny_newList (wpAny_holding ?_))))))
  show wpAny (model prog w) A.in1 _ _ E { s with heap := ((s.heap.update B (Obj.mapSeq fun _ => #[])).push (seqObj "tuple" vs.toArray 0)).push (seqObj "list" #[] 0) }
  clear hu
  generalize ((s.heap.update B (Obj.mapSeq fun _ => #[])).push (seqObj "tuple" vs.toArray 0)).push (seqObj "list" #[] 0) = h1 at F1 N1
  have z1 := N1 _ (.head _)
  dsimp only
  rw [if_pos (show vs.toArray.size < 2 by rw [List.size_toArray]; exact hv), if_pos (show vs.toArray.size < 2 by rw [List.size_toArray]; exact hv)]
  refine wpAny_bind (wpAny_pure ?_)
  rw [StateT.run_pure]
  refine wpAny_bind (wpAny_pure ?_)
  dsimp only
  refine wpAny_bind (seqEpoch_at z1.1 rfl ?_)
  have e2 : ((vs.toArray.zip vs.toArray).map (·.2)) = vs.toArray := by
    apply Array.toList_inj.mp
    rw [Array.toList_map, Array.toList_zip, List.toList_toArray]
    exact List.map_snd_zip (Nat.le_refl _)
  refine wpAny_bind (listUpdate_at z1.1 rfl ?_ (by rw [sizeLine_eq]; simp) (by rw [e2, List.size_toArray, sizeLine_eq]; omega))
  simp only [bne_self_eq_false, Bool.false_eq_true, if_false]
  refine wpAny_pure ⟨_, rfl, ?_⟩
  have hu2 := get?_update_seq (n := e1) (xs := #[]) (c := "list") z1.1 (fun _ => ((vs.toArray.zip vs.toArray).map (·.2)))
  have e3 : ∀ k, seqObj "list" ((vs.toArray.zip vs.toArray).map (·.2)) k = W.listOf vs.toArray k := fun k => by rw [e2]
  obtain ⟨F2, N2⟩ := news_head N1 F1 off (Heap.SameBut.update _ B (Obj.mapSeq fun _ => ((vs.toArray.zip vs.toArray).map (·.2)))) (hu2.trans (congrArg some (e3 _)))
  exact h _ _ F2 N2
end
end Mine
end
section
open PySem PySem.W PyProof.Rows PySem.Spec PySem.Calls
set_option maxRecDepth 100000
namespace Mine
theorem funFrames_upd {Bh h h' : Heap} {B : Addr} (hs : Heap.SameBut B h h') : ∀ {l : List Env}, (∀ b ∈ l.filterMap (·.frame), b ≠ B) → h.FunFrames Bh l → h'.FunFrames (hideAll Bh [B]) l
  | [], _, _ => trivial
  | env :: r, hl, x => by
    obtain ⟨x1, ⟨L, o, hf, hn, ho, hd⟩, x3⟩ := x
    have hL : L ≠ B := hl L (List.mem_filterMap.mpr ⟨env, .head _, hf⟩)
    refine ⟨x1, ⟨L, o, hf, ?_, (hs.2 _ hL).trans ho, hd⟩, funFrames_upd hs (fun b hb => hl b (by
      obtain ⟨e, he, hfe⟩ := List.mem_filterMap.mp hb
      exact List.mem_filterMap.mpr ⟨e, .tail _ he, hfe⟩)) x3⟩
    cases q : (hideAll Bh [B]).get? L with
    | none => rfl
    | some o' => have := of_hideAll [B] q; rw [hn] at this; cases this
theorem raised_upd {base G h h' : Heap} {l : List Env} {e B : Addr} {cls : Value} {oB : Obj} {news : List (Addr × Obj)} (R : RaisedSN base G l e cls ((B, oB) :: news) h)
    (hl : ∀ b ∈ l.filterMap (·.frame), ∃ o, G.get? b = some o) (hs : Heap.SameBut B h h') (hd : ∀ vs, oB.data ≠ .fields vs) (off : ∀ p ∈ news, p.1 ≠ B) (hu : G.UpToSlots h) : RaisedSN base G l e cls news h' ∧ G.UpToSlots h' := by
  obtain ⟨Bh, a0, hB, hBG, hln, ⟨f1, f2, f3, f4⟩⟩ := R
  obtain ⟨b1, b2, b3⟩ := hln (B, oB) (.head _)
  have hn1 : ∀ b, b ≠ B → b ∉ [B] := fun b hb hm => hb (List.mem_singleton.mp hm)
  have none' : ∀ {x : Addr}, Bh.get? x = none → (hideAll Bh [B]).get? x = none := fun {x} hx => by
    cases q : (hideAll Bh [B]).get? x with
    | none => rfl
    | some o' => have := of_hideAll [B] q; rw [hx] at this; cases this
  have hb : h.get? B = some oB := f1 _ _ b1
  have hlB : ∀ b ∈ l.filterMap (·.frame), b ≠ B := fun b hm q => by
    obtain ⟨o, ho⟩ := hl b hm
    rw [q, b2] at ho; cases ho
  refine ⟨⟨hideAll Bh [B], a0, fun b o q => hideAll_get _ (hB b o q) (hn1 b fun z => by rw [z, b3] at q; cases q), fun b o q nm => hideAll_get _ (hBG b o q nm) (hn1 b fun z => by rw [z, b2] at q; cases q),
    fun q hq => ⟨hideAll_get _ (hln q (.tail _ hq)).1 (hn1 _ (off q hq)), (hln q (.tail _ hq)).2⟩, ⟨fun b o q => ?_, none' f2, funFrames_upd hs hlB f3, ?_⟩⟩, fun b o q hnf => ?_⟩
  · have hbB : b ≠ B := fun z => by
      subst z
      have := hideAll_none [b] (h := Bh) (List.mem_singleton.mpr rfl)
      rw [this] at q; cases q
    exact (hs.2 _ hbB).trans (f1 _ _ (of_hideAll [B] q))
  · obtain ⟨oe, vs, T, oT, ts, he, hc, hde, h1, hnT, hTe, hT, hdT, h3⟩ := f4
    have heB : e ≠ B := fun z => by rw [z, hb] at he; cases he; exact hd _ hde
    have hTB : T ≠ B := fun z => by rw [z, hb] at hT; cases hT; exact hd _ hdT
    exact ⟨oe, vs, T, oT, ts, (hs.2 _ heB).trans he, hc, hde, h1, none' hnT, hTe, (hs.2 _ hTB).trans hT, hdT, h3⟩
  · have hbB : b ≠ B := fun z => by rw [z, b2] at q; cases q
    obtain ⟨sl, hsl⟩ := hu b o q hnf
    exact ⟨sl, (hs.2 _ hbB).trans hsl⟩
def RaisedAt (base h₀ : Heap) (L : Addr) (m : Str → Option Value) (l : List Env) (e : Addr) (cls : Value) (news : List (Addr × Obj)) (h : Heap) : Prop :=
  ∃ G, Fr h₀ L G m ∧ RaisedSN base G l e cls news h ∧ G.UpToSlots h ∧ ∀ b ∈ l.filterMap (·.frame), ∃ o, G.get? b = some o
section
variable {prog : Program} {w : World} {A : Around} {E : Value → Shared → Prop} {s : Shared} {C L B flt : Addr} {base h₀ : Heap} {m : Str → Option Value} {news : List (Addr × Obj)} {vs : List Value} {n : Nat} {l : List Env} {cls x y : Value}
def LtRaises (prog : Program) (w : World) (A : Around) (base h₀ : Heap) (L : Addr) (m : Str → Option Value) (l : List Env) (cls : Value) (news : List (Addr × Obj)) (flt : Addr) (x y : Value) : Prop :=
  ∀ (s : Shared) (E : Value → Shared → Prop), Fr h₀ L s.heap m → News h₀ L s.heap news → (∀ e h' tk', RaisedAt base h₀ L m l e cls news h' → E (.ref e) { s with heap := h', toks := tk' }) → wpAny (model prog w) A (call (.ref flt) [x, y]) (fun _ _ => False) E s
set_option maxHeartbeats 4000000 in
theorem sort_raise {K : Frag} {a : Addr} {oa : Obj} {od : Option Obj} {Q : Value → Shared → Prop} (hu : A.in1.units < cLine) (F : Fr h₀ L s.heap m) (N : News h₀ L s.heap ((B, W.listOf (y :: .ref a :: vs).toArray n) :: news)) (off : ∀ p ∈ news, p.1 ≠ B) (hz : vs.length ≤ 1000)
    (X₀ : K.In h₀) (hc : ∀ v ∈ y :: .ref a :: vs, ∃ b o, v = .ref b ∧ (b, o) ∈ news ∧ o.cls = .ref C) (I : ∀ h, (∀ p ∈ news, h.get? p.1 = some p.2) → InstAt h a oa C od) (hs : findIn K (.ref C) "__lt__" = some (some (.ref flt))) (hf : isFn K (.ref flt) = true)
    (hlt : ∀ e1, LtRaises prog w A.in1 base h₀ L m l cls ((B, W.listOf #[] e1) :: news) flt (.ref a) y)
    (h : ∀ e h' tk', RaisedAt base h₀ L m l e cls news h' → E (.ref e) { s with heap := h', toks := tk' }) : wpAny (model prog w) A (call (.builtin "list.sort") [.ref B]) Q E s := by
  have z := N _ (.head _)
  refine wpAny_call_entry slot_list_sort ⟨_, z.1, rfl⟩ entry_list_sort ?_ (args_list_sort _)
  rw [list_sort_plain]
  refine wpAny_bind (listItems_at z.1 rfl (wpAny_bind (listUpdate_at z.1 rfl ?_ (by rw [List.size_toArray, sizeLine_eq]; simp only [List.length_cons]; omega))))
  obtain ⟨e1, h1, rfl, hu1, F1, N1⟩ := sort_world F N off
  refine wpAny_bind (seqEpoch_at hu1 rfl (wpAny_bind (wpAny_newTuple (wpAny_bind (wpAny_newList (wpAny_holding ?_))))))
  show wpAny (model prog w) A.in1 _ _ E { s with heap := ((s.heap.update B (Obj.mapSeq fun _ => #[])).push (seqObj "tuple" (y :: .ref a :: vs).toArray 0)).push (seqObj "list" #[] 0) }
  clear hu1
  generalize ((s.heap.update B (Obj.mapSeq fun _ => #[])).push (seqObj "tuple" (y :: .ref a :: vs).toArray 0)).push (seqObj "list" #[] 0) = h1 at F1 N1
  have z1 := N1 _ (.head _)
  dsimp only
  rw [if_neg (show ¬ (y :: Value.ref a :: vs).toArray.size < 2 by rw [List.size_toArray]; simp only [List.length_cons]; omega), if_neg (show ¬ (y :: Value.ref a :: vs).toArray.size < 2 by rw [List.size_toArray]; simp only [List.length_cons]; omega)]
  refine wpAny_bind (kind_refs (C := C) (s := { s with heap := h1 }) (fun v hv => ?_) ?_)
  · obtain ⟨b, o, e, hm, ho⟩ := hc v hv
    exact ⟨b, o, e, (N1 _ (.tail _ hm)).1, ho⟩
  have run := runs_raise (prog := prog) (w := w) (A := A.in1) (E := E) (s := { s with heap := h1 }) (st := SortSt.mk' oneType' ((y :: Value.ref a :: vs).toArray.zip (y :: Value.ref a :: vs).toArray) #[] 7 none) (x := .ref a) (y := y) (p := .ref a) (q := y)
    (Q := fun _ st s' => ∃ e h' tk', st = SortSt.mk' oneType' ((y :: Value.ref a :: vs).toArray.zip (y :: Value.ref a :: vs).toArray) #[] 7 (some (.ref e)) ∧ s' = { s with heap := h', toks := tk' } ∧ RaisedAt base h₀ L m l e cls ((B, W.listOf #[] e1) :: news) h') rfl (by show ((y :: Value.ref a :: vs).toArray.zip (y :: Value.ref a :: vs).toArray)[0]? = _; simp) (by show ((y :: Value.ref a :: vs).toArray.zip (y :: Value.ref a :: vs).toArray)[1]? = _; simp) ?_
  · refine wpAny_bind (wpAny_mono run ?_ fun _ _ e => e)
    rintro ⟨⟨⟩, st⟩ s' ⟨e, h', tk', rfl, rfl, G, FG, R, hsm, hl⟩
    dsimp only
    obtain ⟨Bh, _, _, _, hln, ⟨f1, _⟩⟩ := id R
    have hbB : h'.get? B = some (W.listOf #[] e1) := f1 _ _ (hln _ (.head _)).1
    refine wpAny_bind (seqEpoch_at (s := { s with heap := h', toks := tk' }) hbB rfl ?_)
    refine wpAny_bind (listUpdate_at (s := { s with heap := h', toks := tk' }) hbB rfl ?_ (by rw [sizeLine_eq]; simp) (by show (((y :: Value.ref a :: vs).toArray.zip (y :: Value.ref a :: vs).toArray).map (·.2)).size ≤ _; rw [sizeLine_eq]; simp only [Array.size_map, Array.size_zip, List.size_toArray, List.length_cons]; omega))
    refine wpAny_bind (wpAny_rule (wpAny_bind (wpAny_throw ?_)))
    obtain ⟨R2, U2⟩ := raised_upd R hl (Heap.SameBut.update h' B (Obj.mapSeq fun _ => _)) (fun _ q => by cases q) off hsm
    exact h e _ tk' ⟨G, FG, R2, U2, hl⟩
  · rw [oneLt'_eq]
    simp only [if_true]
    refine wpAny_bind (wpAny_cRoomFor hu (wpAny_bind (ifBound_K (X₀.keeps F1.keep) (I _ fun p hp => (N1 p (.tail _ hp)).1) hs hf ?_)))
    refine wpAny_mono (hlt e1 _ _ F1 N1 fun e h' tk' R => ?_) (fun _ _ h' => h'.elim) fun _ _ e => e
    exact ⟨e, h', tk', rfl, rfl, R⟩
end
end Mine
end
section
open PySem PySem.W PyProof.Rows PySem.Spec PySem.Calls
set_option maxRecDepth 100000
namespace Mine
def hp (a b : Int) : Int := reduceHash (Builtin.Tuple.tupleHashOf [hashInt a, hashInt b])
theorem kind_hash' : builtinKind "hash" = none := by decide +kernel
theorem plain_hash' : plainId "hash" = true := by decide +kernel
theorem entry_hash' : entryFor table "hash" = some Builtin.«hash» := entryFor_of_fast (by kernel_rfl)
theorem args_hash1' (a : Value) : argsOk "hash" ⟨[a], []⟩ := by unfold argsOk; kernel_rfl
section
variable {prog : Program} {w : World} {A : Around} {E : Value → Shared → Prop} {s : Shared} {D : Addr} {a b : Int} {t u : Tok}
theorem hash_pair {Q : Value → Shared → Prop} (hu : A.in1.units < cLine) (hD : s.heap.get? D = some { cls := .type "tuple", data := .seq #[.int a t, .int b u] }) (h : ∀ t' tk', Q (.int (hp a b) t') { s with toks := tk' }) :
    wpAny (model prog w) A (call (.builtin "hash") [.ref D]) Q E s := by
  refine call_function_entry kind_hash' plain_hash' entry_hash' (args_hash1' _) ?_
  show wpAny _ _ (pure (Value.ref D) >>= fun x => pyHash x >>= fun i => retInt i) _ _ s
  refine wpAny_bind (wpAny_pure ?_)
  have hi : ItemsAre (PySem.intKind prog w) [a, b] [Value.int a t, .int b u] := .cons (intKind_is _ _ _ _) (.cons (intKind_is _ _ _ _) .nil)
  refine wpAny_bind (wpAny_pyHash_tuple (knd := PySem.intKind prog w) (ks := [a, b]) hu ⟨_, _, _, hD, rfl, rfl, hi⟩ ?_)
  exact wpAny_ret_mkInt (h _ _)
end
end Mine
end
section
open PySem PySem.W PyProof.Rows
local macro_rules | `(tactic| k_all) => `(tactic| assumption)
local macro_rules | `(tactic| k_room) => `(tactic| ktr_room)
local macro_rules | `(tactic| ke_room) => `(tactic| ktr_units)
local macro_rules | `(tactic| k_units) => `(tactic| ktr_units)
local macro_rules | `(tactic| walk_at "call builtin:hash") => `(tactic| (k_here; k_dflt (refine' Mine.hash_pair ?u ?D ?_; (case u => ktr_units); (case D => exact (News.get (by k_asm) (by k_mem)))); intro t' tk'))
namespace Mine
abbrev P6 : Program := PySem.Challenge.rw_km0038_06.row.prog
abbrev atN (dp un : Nat) (gd : Option (List Code)) (env : Env) (outer : List Env) : Around := { handled := none, depth := dp, frames := some (env :: outer), guards := gd, units := un }
abbrev ent (P : Params) (k : String) (t : Tok) (v : Value) : DictEntry := { hash := PyData.keyHash P (Str.ofString k), key := Value.str (Str.ofString k) t, val := v }
structure Net where
  word : Str
  n : Int
  pl : Int
  f : Addr
  u0 : Tok
  u1 : Tok
  u2 : Tok
  u3 : Tok
  u4 : Tok
  k0 : Tok
  k1 : Tok
  k2 : Tok
  k3 : Tok
  k4 : Tok
  k5 : Tok
abbrev netD (P : Params) (q : Net) : Obj :=
  dictOf [ent P "name" q.k0 (.str q.word q.u0), ent P "_version" q.k1 (.int q.n q.u1), ent P "network_address" q.k2 (.int q.n q.u2), ent P "netmask" q.k3 (.int 0 q.u3), ent P "_prefixlen" q.k4 (.int q.pl q.u4), ent P "supernet" q.k5 (.ref q.f)] 6
set_option maxRecDepth 100000 in
set_option maxHeartbeats 8000000 in
theorem hash_spec (w : World) {mean : ExcName → Option Value} {mg mb : Str → Option Value} {q : Net} {x d : Addr} {dp un : Nat} {gd : Option (List Code)} {env : Env} {outer : List Env} {A₀ : Around} {base h₀ : Heap} {L : Addr} {m : Str → Option Value}
    {rest : List (Addr × Obj)} {s : Shared} {Q E : Value → Shared → Prop} {loose : List Str} {pgm : Program}
    (B : Below A₀ base outer h₀) (F : Fr h₀ L s.heap m) (X : (hd.heap_39 w.params).In h₀) (N : News h₀ L s.heap ((x, instObj 556 d) :: (d, netD w.params q) :: rest))
    (T : Top pgm loose mean mg mb h₀) (hfX : env.frame = some L) (hk : env.scope.kind = .function) 
    (hdp : dp + 10 < recursionLimit) (hu : un + 400 < cLine)
    (rS : ∀ h' tk' t', Fr h₀ L h' m → News h₀ L h' ((x, instObj 556 d) :: (d, netD w.params q) :: rest) → Q (.int (hp q.n 0) t') { s with heap := h', toks := tk' }) :
    wpAny (model P6 w) (atN dp un gd env outer) (call (.ref 354) [.ref x]) Q E s := by
  have hq : PySem.Challenge.rw_km0038_06 = PySem.Challenge.rw_km0038_06 ∧ hd.heap_39 = hd.heap_39 := ⟨rfl, rfl⟩
  revert hq
  k_fill
  intro hq
  w_on
  refine wpAny_call ?_
  k_dflt (refine' PySem.W.code_def ?k1 ?k2 ?k3 ?k4 ?k5 ?kA ?kF ?kK ?k6 ?k7 ?k8 ?k9 ?kB ?_ ?c2 ?c3 ?c4 ?c5; (case kA => exact rfl); (case kF => exact hfX); (case kK => exact hk); (case k1 => k_asm); (case k2 => k_asm); (case k3 => k_asm); (case k4 => k_asm); (case k5 => k_asm); (case k6 => k_is); (case k7 => k_is); (case k8 => k_room); (case k9 => first | exact BindsTo.of_eq rfl | exact binds_K (by k_in) rfl (by k_is) rfl rfl rfl); (case c5 => decide); (case kB => exact locs rfl); (case c2 => exact rfl); (case c3 => exact rfl); (case c4 => exact rfl); k_whole; intro g' L' h' FG' F' N' B' X' T'; (try dsimp only); (try k_lift B'); (try k_fold))
  w_strict k_steps
  rename Fr h₀ L _ _ => F9
  rename News h₀ L _ _ => N9
  exact rS _ _ _ F9 (News.tail' N9)
end Mine
namespace Mine
set_option maxRecDepth 100000 in
set_option maxHeartbeats 8000000 in
theorem eq_spec (w : World) {mean : ExcName → Option Value} {mg mb : Str → Option Value} {q q' : Net} {x d y e : Addr} {dp un : Nat} {gd : Option (List Code)} {env : Env} {outer : List Env} {A₀ : Around} {base h₀ : Heap} {L : Addr} {m : Str → Option Value}
    {rest : List (Addr × Obj)} {s : Shared} {Q E : Value → Shared → Prop} {loose : List Str} {pgm : Program}
    (B : Below A₀ base outer h₀) (F : Fr h₀ L s.heap m) (X : (hd.heap_39 w.params).In h₀) (N : News h₀ L s.heap ((x, instObj 556 d) :: (d, netD w.params q) :: (y, instObj 556 e) :: (e, netD w.params q') :: rest))
    (T : Top pgm loose mean mg mb h₀) (hfX : env.frame = some L) (hk : env.scope.kind = .function) 
    (hdp : dp + 10 < recursionLimit) (hu : un + 400 < cLine)
    (rS : ∀ h' tk', Fr h₀ L h' m → News h₀ L h' ((x, instObj 556 d) :: (d, netD w.params q) :: (y, instObj 556 e) :: (e, netD w.params q') :: rest) → Q (.bool (decide (q.n = q'.n))) { s with heap := h', toks := tk' }) :
    wpAny (model P6 w) (atN dp un gd env outer) (call (.ref 347) [.ref x, .ref y]) Q E s := by
  have hq : PySem.Challenge.rw_km0038_06 = PySem.Challenge.rw_km0038_06 ∧ hd.heap_39 = hd.heap_39 := ⟨rfl, rfl⟩
  revert hq
  k_fill
  intro hq
  w_on
  refine wpAny_call ?_
  k_dflt (refine' PySem.W.code_def ?k1 ?k2 ?k3 ?k4 ?k5 ?kA ?kF ?kK ?k6 ?k7 ?k8 ?k9 ?kB ?_ ?c2 ?c3 ?c4 ?c5; (case kA => exact rfl); (case kF => exact hfX); (case kK => exact hk); (case k1 => k_asm); (case k2 => k_asm); (case k3 => k_asm); (case k4 => k_asm); (case k5 => k_asm); (case k6 => k_is); (case k7 => k_is); (case k8 => k_room); (case k9 => first | exact BindsTo.of_eq rfl | exact binds_K (by k_in) rfl (by k_is) rfl rfl rfl); (case c5 => decide); (case kB => exact locs rfl); (case c2 => exact rfl); (case c3 => exact rfl); (case c4 => exact rfl); k_whole; intro g' L' h' FG' F' N' B' X' T'; (try dsimp only); (try k_lift B'); (try k_fold))
  w_strict k_steps
  all_goals (
    rename Fr h₀ L _ _ => F9
    rename News h₀ L _ _ => N9
    have r := fun tk' => rS _ tk' F9 N9)
  · rw [decide_eq_true (by assumption)] at r
    exact r _
  · exact r _
  · exact r _
set_option maxRecDepth 100000 in
set_option maxHeartbeats 8000000 in
theorem str_spec (w : World) {mean : ExcName → Option Value} {mg mb : Str → Option Value} {q : Net} {x d : Addr} {dp un : Nat} {gd : Option (List Code)} {env : Env} {outer : List Env} {A₀ : Around} {base h₀ : Heap} {L : Addr} {m : Str → Option Value}
    {rest : List (Addr × Obj)} {s : Shared} {Q E : Value → Shared → Prop} {loose : List Str} {pgm : Program}
    (B : Below A₀ base outer h₀) (F : Fr h₀ L s.heap m) (X : (hd.heap_39 w.params).In h₀) (N : News h₀ L s.heap ((x, instObj 556 d) :: (d, netD w.params q) :: rest))
    (T : Top pgm loose mean mg mb h₀) (hfX : env.frame = some L) (hk : env.scope.kind = .function) (h0 : 0 ≤ q.n) (h1 : q.n < 16384) (h2 : 0 ≤ q.pl) (h3 : q.pl < 16384)
    (hdp : dp + 20 < recursionLimit) (hu : un + 800 < cLine)
    (rS : ∀ h' tk' y t', Fr h₀ L h' m → News h₀ L h' ((x, instObj 556 d) :: (d, netD w.params q) :: rest) → y.length ≤ 2100 → Q (.str y t') { s with heap := h', toks := tk' }) :
    wpAny (model P6 w) (atN dp un gd env outer) (call (.ref 312) [.ref x]) Q E s := by
  have hq : PySem.Challenge.rw_km0038_06 = PySem.Challenge.rw_km0038_06 ∧ hd.heap_39 = hd.heap_39 := ⟨rfl, rfl⟩
  revert hq
  k_fill
  intro hq
  w_on
  refine wpAny_call ?_
  k_dflt (refine' PySem.W.code_def ?k1 ?k2 ?k3 ?k4 ?k5 ?kA ?kF ?kK ?k6 ?k7 ?k8 ?k9 ?kB ?_ ?c2 ?c3 ?c4 ?c5; (case kA => exact rfl); (case kF => exact hfX); (case kK => exact hk); (case k1 => k_asm); (case k2 => k_asm); (case k3 => k_asm); (case k4 => k_asm); (case k5 => k_asm); (case k6 => k_is); (case k7 => k_is); (case k8 => k_room); (case k9 => first | exact BindsTo.of_eq rfl | exact binds_K (by k_in) rfl (by k_is) rfl rfl rfl); (case c5 => decide); (case kB => exact locs rfl); (case c2 => exact rfl); (case c3 => exact rfl); (case c4 => exact rfl); k_whole; intro g' L' h' FG' F' N' B' X' T'; (try dsimp only); (try k_lift B'); (try k_fold))
  w_strict k_steps
  rename Fr h₀ L _ _ => F9
  rename News h₀ L _ _ => N9
  refine rS _ _ _ _ F9 (by first | exact N9 | exact News.tail' N9) ?_
  have e1 := int_len (i := q.n) (by omega) (by omega)
  have e2 := int_len (i := q.pl) (by omega) (by omega)
  rw [Str.length_append, Str.length_append, show (Str.ofString "/").length = 1 by decide +kernel]
  omega
end Mine
end
section
open PySem PySem.W PyProof.Rows PySem.Spec PySem.Calls PySem.NumText
set_option maxRecDepth 100000
namespace Mine
theorem typeCall_int_2 (a b : Value) : checkTypeCall "int" ⟨[a, b], []⟩ = pure () := by kernel_rfl
theorem newCall_int_2 (a b : Value) : checkBuiltinCall "int.__new__" ⟨[.type "int", a, b], []⟩ = pure () := by kernel_rfl
structure HidT (p : Prop) : Prop where
  out : p
set_option maxHeartbeats 4000000 in
theorem gives_base2 {x : PySem.Str} {u v : Tok} {n : Int} (ha : x.cps.all (· < 128) = true) (hl : (x.cps.toList.takeWhile (· != 0)).length ≤ 640) (hz : ((x.cps.toList.takeWhile (· != 0)).length == x.cps.toList.length) = true)
    (hn : (int_private% "readNumeral") 0 2 (x.cps.toList.takeWhile (· != 0)) = (int_private% "Numeral.value") n) : Gives (Builtin.«int.__new__» ⟨[.type "int", .str x u, .int 2 v], []⟩) (.int n) :=
  .of_wp fun M A E s Q h => by
    obtain ⟨hp, g, d, tk, os⟩ := s
    have f1 := F.conv_sub_int
    have f2 := F.madeHere_int
    have f6 : typeOf (.str x u) = pure (.type "str") := rfl
    have hk := HidT.mk (And.intro hl (And.intro hn hz))
    have hq := HidT.mk ha
    clear hl hn hz ha
    repeat (any_goals (first
      | assumption
      | ((with_reducible show wpAny _ _ ((int_private% "intFromText") _ _ _) _ _ _); refine wp_text2 hk.out.1 hk.out.2.1 hk.out.2.2 ?_)
      | wp_step))
    have e2 : Int.toNat 2 = 2 := rfl
    simp only [hq.out, if_true, e2]
    repeat (any_goals (first
      | assumption
      | (with_reducible refine wpAny_ite_true (decide_eq_true hk.out.1) ?_)
      | (with_reducible refine wpAny_ite_true (decide_eq_true hk.out.2.2) ?_)
      | wp_step))
    all_goals (try rw [hk.out.2.1])
    all_goals (try dsimp only)
    repeat (any_goals (first
      | assumption
      | (with_reducible refine wpAny_ite_true (decide_eq_true hk.out.1) ?_)
      | (with_reducible refine wpAny_ite_true (decide_eq_true hk.out.2.2) ?_)
      | wp_step))
    all_goals exact ⟨_, rfl, h⟩
section
variable {prog : Program} {w : World} {A : Around} {E : Value → Shared → Prop} {s : Shared} {Q : Value → Shared → Prop}
theorem call_base2 {x : PySem.Str} {t u : Tok} {n : Int} (ha : x.cps.all (· < 128) = true) (hl : (x.cps.toList.takeWhile (· != 0)).length ≤ 640) (hz : ((x.cps.toList.takeWhile (· != 0)).length == x.cps.toList.length) = true)
    (hn : (int_private% "readNumeral") 0 2 (x.cps.toList.takeWhile (· != 0)) = (int_private% "Numeral.value") n) (h : Q (.int n s.toks) { s with toks := s.toks + 1 }) :
    wpAny (model prog w) A (call (.type "int") [.str x t, .int 2 u]) Q E s :=
  callType_new F.called_int F.newNe_int (typeCall_int_2 _ _) (newCall_int_2 _ _) (fun obj => PySem.F.args_object_init_3 _ _ _) F.entry_int_new (gives_base2 ha hl hz hn).meets (show (Made.int n).post _ s from ⟨rfl, h⟩)
end
def sgn (b : Bool) : Nat := if b then 49 else 48
def code (w : List Bool) : Nat := w.foldl (fun a b => 2 * a + b.toNat) 1
def ndStep (r : Array Nat × Bool) (c : Nat) : Option (Array Nat × Bool) :=
  if c == 95 then (if r.2 then some (r.1, false) else none)
  else match (int_private% "digitValue?") c with
    | some d => if d < 2 then some (r.1.push d, true) else none
    | none => none
theorem nd_eq (cs : List Nat) : (int_private% "numeralDigits?") 2 cs = ((cs.foldlM ndStep ((#[] : Array Nat), false)).bind fun r => if r.2 then some r.1 else none) := rfl
theorem nd_step (r : Array Nat × Bool) (b : Bool) : ndStep r (sgn b) = some (r.1.push b.toNat, true) := by
  cases b <;> rfl
theorem nd_fold : ∀ (w : List Bool) (r : Array Nat × Bool), (w.map sgn).foldlM ndStep r = some (r.1 ++ (w.map Bool.toNat).toArray, r.2 || !w.isEmpty)
  | [], r => by simp
  | b :: w, r => by
    rw [List.map_cons, List.foldlM_cons, nd_step]
    show (w.map sgn).foldlM ndStep _ = _
    rw [nd_fold w]
    simp
theorem nd_word (w : List Bool) : (int_private% "numeralDigits?") 2 (49 :: w.map sgn) = some (#[1] ++ (w.map Bool.toNat).toArray) := by
  have e : (49 :: w.map sgn) = (true :: w).map sgn := rfl
  rw [nd_eq, e, nd_fold]
  simp
theorem rd_eq (r : List Nat) : (int_private% "readNumeral") 0 2 (49 :: r) = (match (int_private% "numeralDigits?") 2 (((49 :: r).reverse.dropWhile (int_private% "isBlank")).reverse) with
    | none => (int_private% "Numeral.invalid")
    | some ds => (int_private% "Numeral.value") ((ds.foldl (fun acc d => acc * 2 + d) 0 : Nat) : Int)) := rfl
theorem sgn_bl (b : Bool) : (int_private% "isBlank") (sgn b) = false := by cases b <;> rfl
theorem dw_word (w : List Bool) : (((49 :: w.map sgn).reverse.dropWhile (int_private% "isBlank")).reverse) = 49 :: w.map sgn := by
  have key : ∀ v : List Bool, v ≠ [] → ((v.map sgn).reverse.dropWhile (int_private% "isBlank")).reverse = v.map sgn := by
    intro v hv
    obtain ⟨p, b, rfl⟩ : ∃ p b, v = p ++ [b] := ⟨v.dropLast, v.getLast hv, (List.dropLast_concat_getLast hv).symm⟩
    rw [List.map_append, List.reverse_append]
    show (((sgn b :: (p.map sgn).reverse).dropWhile _).reverse) = _
    rw [List.dropWhile_cons, sgn_bl]
    simp
  exact key (true :: w) (by simp)
theorem tw_all : ∀ (l : List Nat), (∀ c ∈ l, (c != 0) = true) → l.takeWhile (· != 0) = l
  | [], _ => rfl
  | a :: r, h => by
    rw [List.takeWhile_cons, h a (.head _)]
    simp only [if_true]
    rw [tw_all r fun c hc => h c (.tail _ hc)]
theorem fold_code : ∀ (w : List Bool) (a : Nat), (w.map Bool.toNat).foldl (fun acc d => acc * 2 + d) a = w.foldl (fun a b => 2 * a + b.toNat) a
  | [], _ => rfl
  | b :: w, a => by
    rw [List.map_cons, List.foldl_cons, List.foldl_cons, fold_code w, Nat.mul_comm]
theorem read_word (w : List Bool) : (int_private% "readNumeral") 0 2 (49 :: w.map sgn) = (int_private% "Numeral.value") ((code w : Nat) : Int) := by
  rw [rd_eq, dw_word, nd_word]
  dsimp only
  have e : (#[1] ++ (w.map Bool.toNat).toArray).foldl (fun acc d => acc * 2 + d) 0 = code w := by
    rw [← Array.foldl_toList]
    simp only [Array.toList_append, List.foldl_append]
    exact fold_code w 1
  rw [e]
def wordStr (w : List Bool) : Str := ⟨(w.map sgn).toArray⟩
section
variable {prog : Program} {w : World} {A : Around} {E : Value → Shared → Prop} {s : Shared} {Q : Value → Shared → Prop}
theorem call_word {v : List Bool} {t u : Tok} (hv : v.length ≤ 100) (h : Q (.int ((code v : Nat) : Int) s.toks) { s with toks := s.toks + 1 }) :
    wpAny (model prog w) A (call (.type "int") [.str (Str.ofString "1" ++ wordStr v) t, .int 2 u]) Q E s := by
  have e : (Str.ofString "1" ++ wordStr v).cps.toList = 49 :: v.map sgn := by
    show ((Str.ofString "1").cps ++ (wordStr v).cps).toList = _
    rw [Array.toList_append, show (Str.ofString "1").cps.toList = [49] by decide +kernel]
    simp [wordStr]
  have hne : ∀ c ∈ (49 :: v.map sgn), c != 0 := by
    intro c hc
    rcases List.mem_cons.mp hc with rfl | hc
    · rfl
    · obtain ⟨b, -, rfl⟩ := List.mem_map.mp hc
      cases b <;> rfl
  have htw : (49 :: v.map sgn).takeWhile (· != 0) = 49 :: v.map sgn := tw_all _ hne
  refine call_base2 ?_ ?_ ?_ ?_ h
  · rw [← Array.all_toList, e, List.all_eq_true]
    intro c hc
    rcases List.mem_cons.mp hc with rfl | hc
    · rfl
    · obtain ⟨b, -, rfl⟩ := List.mem_map.mp hc
      cases b <;> rfl
  · rw [e, htw, List.length_cons, List.length_map]; omega
  · rw [e, htw]; simp
  · rw [e, htw]; exact read_word v
end
end Mine
end
section
open PySem PySem.W PyProof.Rows
set_option maxRecDepth 100000
namespace Mine
def unrot (a : Nat) : Nat := (a * 2 ^ 33) % 2 ^ 64 + a / 2 ^ 31
def unhash (h : Int) : Nat :=
  let m : Nat := 2 ^ 64
  let a3 := (h % (m : Int)).toNat
  let a2 := (a3 + (m - (2 ^^^ (2870177450012600261 ^^^ 3527539)))) % m
  let a1 := unrot ((a2 * 614540362697595703) % m)
  let a0 := unrot ((a1 * 614540362697595703) % m)
  ((a0 + (m - 2870177450012600261)) * 839798700976720815) % m
def hpChk (n : Nat) : Bool := unhash (hp (n : Int) 0) == n && decide (-2 ^ 63 ≤ hp (n : Int) 0) && decide (hp (n : Int) 0 < 2 ^ 63) && !(hp (n : Int) 0 == -1)
theorem hp_all : (List.range 128).all (fun a => (List.range 64).all fun b => hpChk (64 * a + b)) = true := by decide +kernel
theorem hp_chk {n : Nat} (h : n < 8192) : hpChk n = true := by
  have h1 := List.all_eq_true.mp hp_all (n / 64) (List.mem_range.mpr (by omega))
  have h2 := List.all_eq_true.mp h1 (n % 64) (List.mem_range.mpr (by omega))
  rw [show 64 * (n / 64) + n % 64 = n by omega] at h2
  exact h2
theorem hp_ok8 {n : Nat} (h : n < 8192) : -2 ^ 63 ≤ hp (n : Int) 0 ∧ hp (n : Int) 0 < 2 ^ 63 ∧ hp (n : Int) 0 ≠ -1 := by
  have := hp_chk h
  simp only [hpChk, Bool.and_eq_true, decide_eq_true_eq, Bool.not_eq_true', beq_eq_false_iff_ne, beq_iff_eq] at this
  exact ⟨this.1.1.2, this.1.2, this.2⟩
theorem hp_inj8 {u v : Nat} (hu : u < 8192) (hv : v < 8192) (e : hp (u : Int) 0 = hp (v : Int) 0) : u = v := by
  have h1 := hp_chk hu
  have h2 := hp_chk hv
  simp only [hpChk, Bool.and_eq_true, decide_eq_true_eq, Bool.not_eq_true', beq_eq_false_iff_ne, beq_iff_eq] at h1 h2
  rw [← h1.1.1.1, e, h2.1.1.1]
theorem sgn_inj {a b : Bool} (h : sgn a = sgn b) : a = b := by cases a <;> cases b <;> first | rfl | exact absurd h (by decide)
theorem wordStr_inj {u v : List Bool} (h : wordStr u = wordStr v) : u = v := by
  have e : u.map sgn = v.map sgn := by
    have := congrArg (fun x : Str => x.cps.toList) h
    simpa [wordStr] using this
  exact List.map_inj_right (fun _ _ => sgn_inj) |>.mp e
theorem wordStr_len (v : List Bool) : (wordStr v).length = v.length := by simp [wordStr, Str.length]
theorem slice_last (v : List Bool) : Txt.slice (wordStr v) none (some (-1)) = wordStr v.dropLast := by
  by_cases hv : v = []
  · subst hv; decide +kernel
  · have hl : 0 < v.length := List.length_pos_iff.mpr hv
    show StrLaws.sliceText (wordStr v) none (some (-1)) = _
    rw [StrLaws.sliceText_to_neg (by decide) (by rw [wordStr_len]; omega), wordStr_len]
    have e : (wordStr v).cps.toList = v.map sgn := by simp [wordStr]
    rw [e, List.drop_zero, show ((-1 : Int) + (v.length : Int) - 0).toNat = v.length - 1 by omega]
    show _ = (⟨(v.dropLast.map sgn).toArray⟩ : Str)
    rw [List.dropLast_eq_take, List.map_take]
theorem wordStr_snoc (v : List Bool) (b : Bool) : wordStr v ++ (if b then Str.ofString "1" else Str.ofString "0") = wordStr (v ++ [b]) := by
  have h0 : (Str.ofString "0").cps = #[48] := by decide +kernel
  have h1 : (Str.ofString "1").cps = #[49] := by decide +kernel
  show (⟨_ ++ _⟩ : Str) = ⟨_⟩
  congr 1
  cases b
  · simp only [Bool.false_eq_true, if_false, h0]; simp [wordStr, sgn]
  · simp only [if_true, h1]; simp [wordStr, sgn]
theorem rev_ind {P : List Bool → Prop} (h0 : P []) (h1 : ∀ v b, P v → P (v ++ [b])) (v : List Bool) : P v := by
  have key : ∀ r : List Bool, P r.reverse := by
    intro r
    induction r with
    | nil => exact h0
    | cons b r ih => rw [List.reverse_cons]; exact h1 _ b ih
  have := key v.reverse
  rwa [List.reverse_reverse] at this
theorem code_snoc (v : List Bool) (b : Bool) : code (v ++ [b]) = 2 * code v + b.toNat := by simp [code]
theorem code_pos (v : List Bool) : 2 ^ v.length ≤ code v ∧ code v < 2 ^ (v.length + 1) := by
  refine rev_ind (P := fun v => 2 ^ v.length ≤ code v ∧ code v < 2 ^ (v.length + 1)) (by decide) (fun v b ih => ?_) v
  · rw [code_snoc, List.length_append, List.length_singleton, Nat.pow_succ, Nat.pow_succ 2 (v.length + 1)]
    have : b.toNat ≤ 1 := by cases b <;> decide
    omega
theorem code_inj : ∀ {u v : List Bool}, code u = code v → u = v := by
  intro u
  refine rev_ind (P := fun u => ∀ {v : List Bool}, code u = code v → u = v) ?_ ?_ u
  · intro v h
    rcases List.eq_nil_or_concat v with rfl | ⟨p, b, rfl⟩
    · rfl
    · rw [List.concat_eq_append, code_snoc] at h
      have := (code_pos p).1
      have h2 : 0 < 2 ^ p.length := Nat.pow_pos (by decide)
      have h1 : code [] = 1 := rfl
      omega
  · intro p b ih v h
    rcases List.eq_nil_or_concat v with rfl | ⟨q, c, rfl⟩
    · rw [code_snoc] at h
      have := (code_pos p).1
      have h2 : 0 < 2 ^ p.length := Nat.pow_pos (by decide)
      have h1 : code [] = 1 := rfl
      omega
    · rw [List.concat_eq_append] at h ⊢
      rw [code_snoc, code_snoc] at h
      have hb : b.toNat ≤ 1 := by cases b <;> decide
      have hc : c.toNat ≤ 1 := by cases c <;> decide
      have e1 : code p = code q := by omega
      have e2 : b.toNat = c.toNat := by omega
      rw [ih e1, show b = c by cases b <;> cases c <;> first | rfl | exact absurd e2 (by decide)]
theorem code_lt {v : List Bool} (h : v.length ≤ 12) : code v < 8192 := by
  have h1 := (code_pos v).2
  have h2 : 2 ^ (v.length + 1) ≤ 2 ^ 13 := Nat.pow_le_pow_right (by decide) (by omega)
  exact Nat.lt_of_lt_of_le h1 h2
end Mine
end
section
open PySem PySem.W PyProof.Rows PySem.Spec PySem.Calls
set_option maxRecDepth 100000
namespace Mine
section
open LCg LCt
variable {prog : Program} {w : World} {A : Around} {E : Value → Shared → Prop} {s : Shared} {h₀ : Heap} {L : Addr} {m : Str → Option Value} {env : Env}
end
end Mine
end
section
open PySem PySem.W PyProof.Rows
local macro_rules | `(tactic| k_all) => `(tactic| assumption)
local macro_rules | `(tactic| k_room) => `(tactic| ktr_room)
local macro_rules | `(tactic| ke_room) => `(tactic| ktr_units)
local macro_rules | `(tactic| k_units) => `(tactic| ktr_units)
local macro_rules | `(tactic| walk_at "eval Lambda") => `(tactic| refine Mine.stop_here ?_)
local macro_rules | `(tactic| walk_at "compareOp NotIn str ref") => `(tactic| refine Mine.stop_here ?_)
local macro_rules | `(tactic| walk_at "setItem ref str") => `(tactic| refine Mine.stop_here ?_)
local macro_rules | `(tactic| walk_at "call type:int") => `(tactic| refine Mine.stop_here ?_)
local macro_rules | `(tactic| walk_at "subscriptTail") => `(tactic| ((with_reducible show wpAny _ _ (subscriptTail _ _ (Value.ref _) (Value.str _ _)) _ _ _); refine Mine.stop_here ?_))
namespace Mine
abbrev lamParams : Arguments := { posonlyargs := [], args := [], vararg := none, kwonlyargs := [], kw_defaults := [], kwarg := none, defaults := [] }
abbrev lamPos (c e : Nat) : Pos := { line := 395, col := c, endLine := 395, endCol := e }
abbrev lamBody : Expr := (Expr.Name (Str.ofString "_law_net") (lamPos 31 39)).Call
  [Expr.Name (Str.ofString "nets") (lamPos 40 44), (Expr.Name (Str.ofString "word") (lamPos 46 50)).Subscript (Expr.Slice none (some ((Expr.Constant (Const.int 1) 0 (lamPos 53 54)).UnaryOp UnaryOp.USub (lamPos 52 54))) none (lamPos 51 54)) (lamPos 46 55)] [] (lamPos 31 56)
abbrev lamScope : Scope := { kind := ScopeKind.function, names := [(Str.ofString "nets", NameKind.free), (Str.ofString "word", NameKind.free), (Str.ofString "_law_net", NameKind.globalImplicit)], isGenerator := false, isCoroutine := false }
abbrev lawNetScope : Scope := { kind := ScopeKind.function, names := [(Str.ofString "nets", NameKind.cell), (Str.ofString "word", NameKind.cell), (Str.ofString "net", NameKind.local), (Str.ofString "_BaseNetwork", NameKind.globalImplicit), (Str.ofString "int", NameKind.globalImplicit), (Str.ofString "len", NameKind.globalImplicit)], isGenerator := false, isCoroutine := false }
abbrev lamQual : Str := (envOfC (Str.ofString "_law_net") lawNetScope 0 585 (Value.ref 584)).qual ++ Str.ofString "<lambda>"
abbrev lamO (pm : Value) (c' : Addr) (ctv : Value) (a1 a2 : Addr) : Obj :=
  kla_obj (Str.ofString "<lambda>") lamQual lamParams lamBody lamScope [(Str.ofString "word", a2), (Str.ofString "nets", a1)] pm c' ctv
set_option maxRecDepth 100000 in
set_option maxHeartbeats 2000000 in
theorem net_known (w : World) {mean : ExcName → Option Value} {mg mb : Str → Option Value} {word : Str} {kvs : List (Str × Value)} {oN : Obj} {a ND : Addr} {t : Tok} {dp un : Nat} {gd : Option (List Code)} {env : Env} {outer : List Env} {A₀ : Around} {base h₀ : Heap} {L : Addr} {m : Str → Option Value}
    {rest : List (Addr × Obj)} {s : Shared} {Q E : Value → Shared → Prop} {loose : List Str} {pgm : Program}
    (B : Below A₀ base outer h₀) (F : Fr h₀ L s.heap m) (X : (hd.heap_39 w.params).In h₀) (N : News h₀ L s.heap ((ND, oN) :: rest)) (hN : oN.IsDictOf (PySem.strKind P6 w) kvs) (hlo : (ND == sysModules) = false) (hk1 : valueAt kvs word = some (.ref a))
    (T : Top pgm loose mean mg mb h₀) (hfX : env.frame = some L) (hk : env.scope.kind = .function)
    (hdp : dp + 10 < recursionLimit) (hu : un + 400 < cLine)
    (rS : ∀ h' tk', Fr h₀ L h' m → News h₀ L h' ((ND, oN) :: rest) → Q (.ref a) { s with heap := h', toks := tk' }) :
    wpAny (model P6 w) (atN dp un gd env outer) (call (.ref 585) [.ref ND, .str word t]) Q E s := by
  have hq : PySem.Challenge.rw_km0038_06 = PySem.Challenge.rw_km0038_06 ∧ hd.heap_39 = hd.heap_39 := ⟨rfl, rfl⟩
  revert hq
  k_fill
  intro hq
  w_on
  refine wpAny_call ?_
  k_dflt (refine' code_defC ?k1 ?k2 ?k3 ?k4 ?k5 ?kA ?kF ?kK ?k6 ?k7 ?k8 ?k9 ?kB ?kD ?_ ?c2 ?c3 ?c4; (case kA => exact rfl); (case kF => exact hfX); (case kK => exact hk); (case k1 => k_asm); (case k2 => k_asm); (case k3 => k_asm); (case k4 => k_asm); (case k5 => k_asm); (case k6 => k_is); (case k7 => k_is); (case k8 => k_room); (case k9 => first | exact BindsTo.of_eq rfl | exact binds_K (by k_in) rfl (by k_is) rfl rfl rfl); (case kB => exact rfl); (case kD => decide +kernel); (case c2 => exact rfl); (case c3 => exact rfl); (case c4 => exact rfl); k_whole; intro g' L' h' tk' cells' FG' F' N' Y' B' X' T' l1; (try k_lt l1); k_cells Y'; (try simp only [List.cons_append, List.nil_append] at N'); (try dsimp only); (try k_lift B'); (try k_fold))
  w_strict k_steps
  unfold Stop
  refine kdg_notin (knd := PySem.strKind _ _) N' (by k_mem) hN hlo (strKind_is _ _ _ _) true (by rw [hk1]; rfl) ?_
  dsimp only [Bool.not_true]
  w_strict k_steps
  unfold Stop
  refine kda_item (knd := PySem.strKind _ _) N' (by k_mem) hN (strKind_is _ _ _ _) hk1 ?_
  w_strict k_steps
  rename News h₀ L _ _ => N9
  rename Fr h₀ L _ _ => F9
  exact rS _ _ F9 (News.tail' (News.tail' N9))
theorem stored_new {kvs : List (Str × Value)} {k : Str} {v : Value} (h : valueAt kvs k = none) : stored kvs k v = kvs ++ [(k, v)] := by
  unfold stored
  have : kvs.any (fun kv => decide (kv.1 = k)) = false := by
    rw [Bool.eq_false_iff]
    intro z
    obtain ⟨x, hx, e⟩ := List.any_eq_true.mp z
    unfold valueAt at h
    rw [Option.map_eq_none_iff, List.find?_eq_none] at h
    exact h x hx e
  rw [this]; rfl
theorem valueAt_snoc {kvs : List (Str × Value)} {k u : Str} {v : Value} (h : valueAt kvs k = none) : valueAt (kvs ++ [(k, v)]) u = if k = u then some v else valueAt kvs u := by
  unfold valueAt
  rw [List.find?_append]
  by_cases e : k = u
  · subst e
    unfold valueAt at h
    rw [Option.map_eq_none_iff] at h
    rw [h, if_pos rfl]
    simp
  · rw [if_neg e]
    cases q : kvs.find? (fun kv => decide (kv.1 = u)) with
    | none => simp [e]
    | some x => simp
abbrev tab1 (c' : Addr) : Obj := tabObj (#[] ++ #[rawInt ((395 : Nat) : Int), rawInt ((23 : Nat) : Int), .ref c'])
def LamCode (c' : Addr) (news : List (Addr × Obj)) : Prop := ∃ oc vs t, (c', oc) ∈ news ∧ oc.data = .fields vs ∧ vs[1]? = some (.str lamQual t)
def NetAt (P : Params) (ND c' : Addr) (v : List Bool) (x : Addr) (news : List (Addr × Obj)) : Prop :=
  ∃ d q pm ctv a1 a2 o1 o2 t, (x, instObj 556 d) ∈ news ∧ (d, netD P q) ∈ news ∧ q.word = wordStr v ∧ q.n = (code v : Int) ∧ q.pl = (v.length : Int) ∧ (q.f, lamO pm c' ctv a1 a2) ∈ news ∧
    ((a1, o1) ∈ news ∧ o1.data = .cell (some (.ref ND))) ∧ ((a2, o2) ∈ news ∧ o2.data = .cell (some (.str (wordStr v) t)))
theorem NetAt.of {P : Params} {ND c' x : Addr} {v : List Bool} {news : List (Addr × Obj)} {d f : Addr} {u0 u1 u2 u3 u4 k0 k1 k2 k3 k4 k5 : Tok} {pm ctv : Value} {a1 a2 : Addr} {o1 o2 : Obj} {t : Tok}
    (h1 : (x, instObj 556 d) ∈ news) (h2 : (d, netD P ⟨wordStr v, ((code v : Nat) : Int), ((wordStr v).length : Int), f, u0, u1, u2, u3, u4, k0, k1, k2, k3, k4, k5⟩) ∈ news) (h3 : (f, lamO pm c' ctv a1 a2) ∈ news) (h4 : (a1, o1) ∈ news) (h5 : (a2, o2) ∈ news)
    (g4 : o1.data = .cell (some (.ref ND))) (g5 : o2.data = .cell (some (.str (wordStr v) t))) : NetAt P ND c' v x news :=
  ⟨d, _, pm, ctv, a1, a2, o1, o2, t, h1, h2, rfl, rfl, by rw [wordStr_len], h3, ⟨h4, g4⟩, h5, g5⟩
theorem allLt_get {d : Nat} {l : List (Addr × Obj)} (h : AllLt d l) (p : Addr × Obj) (hp : p ∈ l) : @LT.lt Nat _ p.1 d := by
  induction l with
  | nil => nomatch hp
  | cons a r ih =>
    have h1 : @LT.lt Nat _ a.1 d := h.1
    have h2 : AllLt d r := h.2
    cases hp with
    | head => exact h1
    | tail _ hp => exact ih h2 hp
set_option maxRecDepth 100000 in
set_option maxHeartbeats 2000000 in
theorem net_new (w : World) {mean : ExcName → Option Value} {mg mb : Str → Option Value} {v : List Bool} {kvs : List (Str × Value)} {oN : Obj} {ND : Addr} {t : Tok} {dp un : Nat} {gd : Option (List Code)} {env : Env} {outer : List Env} {A₀ : Around} {base h₀ : Heap} {L : Addr} {m : Str → Option Value}
    {rest : List (Addr × Obj)} {s : Shared} {Q E : Value → Shared → Prop} {loose : List Str} {pgm : Program}
    (B : Below A₀ base outer h₀) (F : Fr h₀ L s.heap m) (X : (hd.heap_39 w.params).In h₀) (N : News h₀ L s.heap ((ND, oN) :: (580, tabObj #[]) :: rest)) (hN : oN.IsDictOf (PySem.strKind P6 w) kvs) (hlo : (ND == sysModules) = false) (hk1 : valueAt kvs (wordStr v) = none) (hv : v.length ≤ 12) (hkl : kvs.length ≤ 1000)
    (T : Top pgm loose mean mg mb h₀) (hfX : env.frame = some L) (hk : env.scope.kind = .function) (C : CodeHd h₀ 584 580) (hoff : ∀ p ∈ rest, p.1 ≠ 580 ∧ p.1 ≠ ND) (hlt : @LT.lt Nat _ 580 ND)
    (hdp : dp + 10 < recursionLimit) (hu : un + 400 < cLine)
    (rS : ∀ h' tk' x c' oN' G, Fr h₀ L h' m → News h₀ L h' (G ++ (ND, oN') :: (580, tab1 c') :: rest) → oN'.IsDictOf (PySem.strKind P6 w) (stored kvs (wordStr v) (.ref x)) → NetAt w.params ND c' v x G → LamCode c' G → (∀ p ∈ G, @LT.lt Nat _ ND p.1 ∧ ∀ q ∈ rest, @LT.lt Nat _ q.1 p.1) → Q (.ref x) { s with heap := h', toks := tk' }) :
    wpAny (model P6 w) (atN dp un gd env outer) (call (.ref 585) [.ref ND, .str (wordStr v) t]) Q E s := by
  have hq : PySem.Challenge.rw_km0038_06 = PySem.Challenge.rw_km0038_06 ∧ hd.heap_39 = hd.heap_39 := ⟨rfl, rfl⟩
  revert hq
  k_fill
  intro hq
  w_on
  refine wpAny_call ?_
  k_dflt (refine' code_defC ?k1 ?k2 ?k3 ?k4 ?k5 ?kA ?kF ?kK ?k6 ?k7 ?k8 ?k9 ?kB ?kD ?_ ?c2 ?c3 ?c4; (case kA => exact rfl); (case kF => exact hfX); (case kK => exact hk); (case k1 => k_asm); (case k2 => k_asm); (case k3 => k_asm); (case k4 => k_asm); (case k5 => k_asm); (case k6 => k_is); (case k7 => k_is); (case k8 => k_room); (case k9 => first | exact BindsTo.of_eq rfl | exact binds_K (by k_in) rfl (by k_is) rfl rfl rfl); (case kB => exact rfl); (case kD => decide +kernel); (case c2 => exact rfl); (case c3 => exact rfl); (case c4 => exact rfl); k_whole; intro g' L' h' tk' cells' FG' F' N' Y' B' X' T' l1; (try k_lt l1); k_cells Y'; (try simp only [List.cons_append, List.nil_append] at N'); (try dsimp only); (try k_lift B'); (try k_fold))
  have lz := l1
  w_strict k_steps
  unfold Stop
  refine kdg_notin (knd := PySem.strKind _ _) N' (by k_mem) hN hlo (strKind_is _ _ _ _) false (by rw [hk1]; rfl) ?_
  dsimp only [Bool.not_false]
  w_strict k_steps
  refine add_small (by rw [show (Str.ofString "1").length = 1 by decide +kernel]; decide) (by rw [wordStr_len]; omega) fun t1 tk1 => ?_
  w_strict k_steps
  unfold Stop
  refine call_word (by omega) ?_
  w_strict k_steps
  refine PyProof.Rows.len_str (by rw [wordStr_len]; omega) ?_
  w_strict k_steps
  unfold Stop
  refine kla_eval rfl ?_
  k_dflt (refine' kla_nest (ps := #[]) ?F ?N ?T ?C ?cd ?U ?t ?n ?cl ?_; (case F => k_asm); (case N => k_asm); (case T => k_asm); (case cd => exact rfl); (case C => exact CodeHd.keeps C (Fr.keep FG')); k_whole)
  case t => kn_triples
  case n => kn_among
  case cl => exact rfl
  case U =>
    refine UpdF.tail (by k_ne) (UpdF.tail (by k_ne) (UpdF.tail (by k_ne) (UpdF.tail (by k_ne) (UpdF.tail (by k_ne) (UpdF.head fun p hp => (hoff p hp).1)))))
  intro f' c' oc' vs' t' ct' h' tk' F' N' d1' d2' l1 l2; (try dsimp only at N'); (try k_lt l1); (try k_lt2 l2)
  w_strict k_steps
  unfold Stop
  rename Fr g' L' _ _ => F3
  rename News g' L' _ _ => N3
  refine kda_set (knd := PySem.strKind _ _) F3 N3 (UpdF.tail (by k_ne) (UpdF.tail (by k_ne) (UpdF.tail (by k_ne) (UpdF.tail (by k_ne) (UpdF.tail (by k_ne) (UpdF.tail (by k_ne) (UpdF.head ?hU))))))) hN (strKind_is _ _ _ _) (by rw [sizeLine_eq]; omega) ?_
  case hU =>
    intro p hp
    rcases List.mem_cons.mp hp with rfl | hp
    · exact Nat.ne_of_lt hlt
    · exact (hoff p hp).2
  intro h4 oN4 F4 N4 hN4
  (try dsimp only at N4)
  clear F3 N3
  w_strict k_steps
  unfold Stop
  refine kda_item (knd := PySem.strKind _ _) N4 (by k_mem) hN4 (strKind_is _ _ _ _) (by rw [stored_new hk1, valueAt_snoc hk1, if_pos rfl]) ?_
  w_strict k_steps
  rename News h₀ L _ _ => N9
  rename Fr h₀ L _ _ => F9
  refine rS _ _ _ _ _ [_, _, _, _, _, _] F9 N9 hN4 ?_ ?_ ?_
  · refine' NetAt.of ?h1 ?h2 ?h3 ?h4 ?h5 ?g4 ?g5
    case h1 => k_mem
    case h2 => k_mem
    case h3 => k_mem
    case h4 => k_mem
    case h5 => k_mem
    case g4 => assumption
    case g5 => assumption
  · exact ⟨oc', vs', t', by k_mem, by assumption, by assumption⟩
  · have kq := allLt_get lz.2.2
    simp only [List.forall_mem_cons]
    refine ⟨⟨by omega, fun q hq => ?_⟩, ⟨by omega, fun q hq => ?_⟩, ⟨by omega, fun q hq => ?_⟩, ⟨by omega, fun q hq => ?_⟩, ⟨by omega, fun q hq => ?_⟩, ⟨by omega, fun q hq => ?_⟩, fun _ h => (nomatch h)⟩
    all_goals (have := kq q hq; omega)
set_option maxRecDepth 100000 in
set_option maxHeartbeats 2000000 in
theorem net_hit (w : World) {mean : ExcName → Option Value} {mg mb : Str → Option Value} {v : List Bool} {kvs : List (Str × Value)} {oN : Obj} {ND c' : Addr} {t : Tok} {dp un : Nat} {gd : Option (List Code)} {env : Env} {outer : List Env} {A₀ : Around} {base h₀ : Heap} {L : Addr} {m : Str → Option Value}
    {rest : List (Addr × Obj)} {s : Shared} {Q E : Value → Shared → Prop} {loose : List Str} {pgm : Program}
    (B : Below A₀ base outer h₀) (F : Fr h₀ L s.heap m) (X : (hd.heap_39 w.params).In h₀) (N : News h₀ L s.heap ((ND, oN) :: (580, tab1 c') :: rest)) (hN : oN.IsDictOf (PySem.strKind P6 w) kvs) (hlo : (ND == sysModules) = false) (hk1 : valueAt kvs (wordStr v) = none) (hv : v.length ≤ 12) (hkl : kvs.length ≤ 1000)
    (T : Top pgm loose mean mg mb h₀) (hfX : env.frame = some L) (hk : env.scope.kind = .function) (C : CodeHd h₀ 584 580) (hoff : ∀ p ∈ rest, p.1 ≠ 580 ∧ p.1 ≠ ND) (hlt : @LT.lt Nat _ 580 ND)
    (hdp : dp + 10 < recursionLimit) (hu : un + 400 < cLine)
    (rS : ∀ h' tk' x oN' G, Fr h₀ L h' m → News h₀ L h' (G ++ (ND, oN') :: (580, tab1 c') :: rest) → oN'.IsDictOf (PySem.strKind P6 w) (stored kvs (wordStr v) (.ref x)) → NetAt w.params ND c' v x G → (∀ p ∈ G, @LT.lt Nat _ ND p.1 ∧ ∀ q ∈ rest, @LT.lt Nat _ q.1 p.1) → Q (.ref x) { s with heap := h', toks := tk' }) :
    wpAny (model P6 w) (atN dp un gd env outer) (call (.ref 585) [.ref ND, .str (wordStr v) t]) Q E s := by
  have hq : PySem.Challenge.rw_km0038_06 = PySem.Challenge.rw_km0038_06 ∧ hd.heap_39 = hd.heap_39 := ⟨rfl, rfl⟩
  revert hq
  k_fill
  intro hq
  w_on
  refine wpAny_call ?_
  k_dflt (refine' code_defC ?k1 ?k2 ?k3 ?k4 ?k5 ?kA ?kF ?kK ?k6 ?k7 ?k8 ?k9 ?kB ?kD ?_ ?c2 ?c3 ?c4; (case kA => exact rfl); (case kF => exact hfX); (case kK => exact hk); (case k1 => k_asm); (case k2 => k_asm); (case k3 => k_asm); (case k4 => k_asm); (case k5 => k_asm); (case k6 => k_is); (case k7 => k_is); (case k8 => k_room); (case k9 => first | exact BindsTo.of_eq rfl | exact binds_K (by k_in) rfl (by k_is) rfl rfl rfl); (case kB => exact rfl); (case kD => decide +kernel); (case c2 => exact rfl); (case c3 => exact rfl); (case c4 => exact rfl); k_whole; intro g' L' h' tk' cells' FG' F' N' Y' B' X' T' l1; (try k_lt l1); k_cells Y'; (try simp only [List.cons_append, List.nil_append] at N'); (try dsimp only); (try k_lift B'); (try k_fold))
  have lz := l1
  w_strict k_steps
  unfold Stop
  refine kdg_notin (knd := PySem.strKind _ _) N' (by k_mem) hN hlo (strKind_is _ _ _ _) false (by rw [hk1]; rfl) ?_
  dsimp only [Bool.not_false]
  w_strict k_steps
  refine add_small (by rw [show (Str.ofString "1").length = 1 by decide +kernel]; decide) (by rw [wordStr_len]; omega) fun t1 tk1 => ?_
  w_strict k_steps
  unfold Stop
  refine call_word (by omega) ?_
  w_strict k_steps
  refine PyProof.Rows.len_str (by rw [wordStr_len]; omega) ?_
  w_strict k_steps
  unfold Stop
  refine kla_eval rfl ?_
  k_dflt (refine' kla_hit ?F ?N ?T ?C ?cd ?mem ?t ?n ?cl ?_; (case F => k_asm); (case N => k_asm); (case T => k_asm); (case cd => exact rfl); (case C => exact CodeHd.keeps C (Fr.keep FG')); (case mem => k_mem); k_whole)
  case t => kn_triples
  case n => kn_hit
  case cl => exact rfl
  intro f' ct' h' tk' F' N' l1; (try dsimp only at N'); (try k_lt l1)
  w_strict k_steps
  unfold Stop
  rename Fr g' L' _ _ => F3
  rename News g' L' _ _ => N3
  refine kda_set (knd := PySem.strKind _ _) F3 N3 (UpdF.tail (by k_ne) (UpdF.tail (by k_ne) (UpdF.tail (by k_ne) (UpdF.tail (by k_ne) (UpdF.tail (by k_ne) (UpdF.head ?hU)))))) hN (strKind_is _ _ _ _) (by rw [sizeLine_eq]; omega) ?_
  case hU =>
    intro p hp
    rcases List.mem_cons.mp hp with rfl | hp
    · exact Nat.ne_of_lt hlt
    · exact (hoff p hp).2
  intro h4 oN4 F4 N4 hN4
  (try dsimp only at N4)
  clear F3 N3
  w_strict k_steps
  unfold Stop
  refine kda_item (knd := PySem.strKind _ _) N4 (by k_mem) hN4 (strKind_is _ _ _ _) (by rw [stored_new hk1, valueAt_snoc hk1, if_pos rfl]) ?_
  w_strict k_steps
  rename News h₀ L _ _ => N9
  rename Fr h₀ L _ _ => F9
  refine rS _ _ _ _ [_, _, _, _, _] F9 N9 hN4 ?_ ?_
  · refine' NetAt.of ?h1 ?h2 ?h3 ?h4 ?h5 ?g4 ?g5
    case h1 => k_mem
    case h2 => k_mem
    case h3 => k_mem
    case h4 => k_mem
    case h5 => k_mem
    case g4 => assumption
    case g5 => assumption
  · have kq := allLt_get lz.2.2
    simp only [List.forall_mem_cons]
    refine ⟨⟨by omega, fun q hq => ?_⟩, ⟨by omega, fun q hq => ?_⟩, ⟨by omega, fun q hq => ?_⟩, ⟨by omega, fun q hq => ?_⟩, ⟨by omega, fun q hq => ?_⟩, fun _ h => (nomatch h)⟩
    all_goals (have := kq q hq; omega)
end Mine
end
section
open PySem PySem.W PyProof.Rows
set_option maxRecDepth 100000
namespace Mine
structure WS where
  ks : List (List Bool × Addr)
  oN : Obj
  c0 : Addr
  tab : Obj
  G : List (Addr × Obj)
abbrev kvsOf (ks : List (List Bool × Addr)) : List (Str × Value) := ks.map fun p => (wordStr p.1, Value.ref p.2)
structure WOk (w : World) (ND : Addr) (σ : WS) : Prop where
  dict : σ.oN.IsDictOf (PySem.strKind P6 w) (kvsOf σ.ks)
  tabs : (σ.ks = [] ∧ σ.tab = tabObj #[]) ∨ (σ.tab = tab1 σ.c0 ∧ LamCode σ.c0 σ.G)
  net : ∀ p ∈ σ.ks, p.1.length ≤ 12 ∧ NetAt w.params ND σ.c0 p.1 p.2 σ.G
  words : (σ.ks.map (·.1)).Nodup
  adds : (σ.ks.map (·.2)).Nodup
  gt : ∀ p ∈ σ.G, @LT.lt Nat _ ND p.1
structure Ext (σ τ : WS) : Prop where
  ks : ∃ more, τ.ks = σ.ks ++ more
  G : ∀ p ∈ σ.G, p ∈ τ.G
theorem Ext.refl (σ : WS) : Ext σ σ := ⟨⟨[], by simp⟩, fun _ h => h⟩
theorem Ext.trans {a b c : WS} (x : Ext a b) (y : Ext b c) : Ext a c := by
  obtain ⟨m1, e1⟩ := x.ks
  obtain ⟨m2, e2⟩ := y.ks
  exact ⟨⟨m1 ++ m2, by rw [e2, e1, List.append_assoc]⟩, fun p h => y.G p (x.G p h)⟩
theorem lookup_app {v : List Bool} {x : Addr} : ∀ {a b : List (List Bool × Addr)}, a.lookup v = some x → (a ++ b).lookup v = some x
  | [], _, h => by simp at h
  | p :: r, b, h => by
    rw [List.cons_append, List.lookup_cons] at *
    cases q : v == p.1 with
    | true => rw [q] at h; exact h
    | false => rw [q] at h; exact lookup_app h
theorem Ext.look {a b : WS} (x : Ext a b) {v : List Bool} {k : Addr} (h : a.ks.lookup v = some k) : b.ks.lookup v = some k := by
  obtain ⟨m, e⟩ := x.ks
  rw [e]; exact lookup_app h
theorem kvs_look {ks : List (List Bool × Addr)} {v : List Bool} : valueAt (kvsOf ks) (wordStr v) = (ks.lookup v).map Value.ref := by
  induction ks with
  | nil => rfl
  | cons p r ih =>
    unfold valueAt at ih ⊢
    show ((((wordStr p.1, Value.ref p.2) :: kvsOf r).find? _).map _) = _
    rw [List.find?_cons, List.lookup_cons]
    by_cases e : p.1 = v
    · subst e; simp
    · have h1 : decide (wordStr p.1 = wordStr v) = false := decide_eq_false fun z => e (wordStr_inj z)
      have h2 : (v == p.1) = false := by rw [beq_eq_false_iff_ne]; exact fun z => e z.symm
      rw [h1, h2]
      exact ih
theorem lookup_mem' {v : List Bool} {x : Addr} : ∀ {ks : List (List Bool × Addr)}, ks.lookup v = some x → (v, x) ∈ ks
  | [], h => by simp at h
  | p :: r, h => by
    rw [List.lookup_cons] at h
    cases q : v == p.1 with
    | true =>
      rw [q] at h
      cases h
      rw [beq_iff_eq.mp q]
      exact .head _
    | false => rw [q] at h; exact .tail _ (lookup_mem' h)
theorem lookup_none {v : List Bool} : ∀ {ks : List (List Bool × Addr)}, ks.lookup v = none → v ∉ ks.map (·.1)
  | [], _ => by simp
  | p :: r, h => by
    rw [List.lookup_cons] at h
    cases q : v == p.1 with
    | true => rw [q] at h; cases h
    | false =>
      rw [q] at h
      have := lookup_none h
      have h2 : v ≠ p.1 := by rw [← beq_eq_false_iff_ne]; exact q
      simp only [List.map_cons, List.mem_cons]
      exact fun z => z.elim h2 this
theorem NetAt.mono {P : Params} {ND c' x : Addr} {v : List Bool} {a b : List (Addr × Obj)} (h : NetAt P ND c' v x a) (i : ∀ p ∈ a, p ∈ b) : NetAt P ND c' v x b := by
  obtain ⟨d, q, pm, ctv, a1, a2, o1, o2, t, h1, h2, e1, e2, e3, h3, ⟨h4, g4⟩, h5, g5⟩ := h
  exact ⟨d, q, pm, ctv, a1, a2, o1, o2, t, i _ h1, i _ h2, e1, e2, e3, i _ h3, ⟨i _ h4, g4⟩, i _ h5, g5⟩
theorem LamCode.mono {c' : Addr} {a b : List (Addr × Obj)} (h : LamCode c' a) (i : ∀ p ∈ a, p ∈ b) : LamCode c' b := by
  obtain ⟨oc, vs, t, h1, h2⟩ := h
  exact ⟨oc, vs, t, i _ h1, h2⟩
abbrev wled (ND : Addr) (σ : WS) (rest : List (Addr × Obj)) : List (Addr × Obj) := (ND, σ.oN) :: (580, σ.tab) :: (σ.G ++ rest)
theorem WOk.add {w : World} {ND x c' : Addr} {σ : WS} {v : List Bool} {oN' : Obj} {G' : List (Addr × Obj)} (O : WOk w ND σ) (hn : σ.ks.lookup v = none) (hv : v.length ≤ 12) (hd : oN'.IsDictOf (PySem.strKind P6 w) (kvsOf (σ.ks ++ [(v, x)])))
    (hc : (c' = σ.c0 ∧ LamCode σ.c0 σ.G) ∨ (σ.ks = [] ∧ LamCode c' G')) (hx : NetAt w.params ND c' v x G') (hG : ∀ p ∈ G', @LT.lt Nat _ ND p.1 ∧ ∀ q ∈ σ.G, @LT.lt Nat _ q.1 p.1) :
    WOk w ND ⟨σ.ks ++ [(v, x)], oN', c', tab1 c', G' ++ σ.G⟩ := by
  have inl : ∀ p ∈ G', p ∈ G' ++ σ.G := fun p hp => List.mem_append_left _ hp
  have inr : ∀ p ∈ σ.G, p ∈ G' ++ σ.G := fun p hp => List.mem_append_right _ hp
  refine ⟨hd, .inr ⟨rfl, ?_⟩, fun p hp => ?_, ?_, ?_, fun p hp => ?_⟩
  · rcases hc with ⟨rfl, h⟩ | ⟨-, h⟩
    · exact h.mono inr
    · exact h.mono inl
  · have hp0 : p ∈ σ.ks ++ [(v, x)] := hp
    rcases List.mem_append.mp hp0 with hq | hq
    · rcases hc with ⟨rfl, h⟩ | ⟨e, -⟩
      · exact ⟨(O.net p hq).1, (O.net p hq).2.mono inr⟩
      · rw [e] at hq; cases hq
    · rw [List.mem_singleton.mp hq]; exact ⟨hv, hx.mono inl⟩
  · rw [List.map_append]
    refine List.nodup_append.mpr ⟨O.words, by simp, fun a ha b hb => ?_⟩
    rw [List.mem_singleton.mp hb]
    intro e
    have e' : a = v := e
    rw [e'] at ha
    exact lookup_none hn ha
  · rw [List.map_append]
    refine List.nodup_append.mpr ⟨O.adds, by simp, fun a ha b hb => ?_⟩
    rw [List.mem_singleton.mp hb]
    obtain ⟨p, hp, rfl⟩ := List.mem_map.mp ha
    obtain ⟨-, d, q, pm, ctv, a1, a2, o1, o2, t, i1, -⟩ := O.net p hp
    obtain ⟨d', q', pm', ctv', a1', a2', o1', o2', t', j1, -⟩ := hx
    exact Nat.ne_of_lt ((hG _ j1).2 _ i1)
  · rcases List.mem_append.mp hp with hp | hp
    · exact (hG p hp).1
    · exact O.gt p hp
theorem kvs_snoc {ks : List (List Bool × Addr)} {v : List Bool} {x : Addr} (h : ks.lookup v = none) : stored (kvsOf ks) (wordStr v) (.ref x) = kvsOf (ks ++ [(v, x)]) := by
  rw [stored_new (by rw [kvs_look, h]; rfl), kvsOf, kvsOf, List.map_append]; rfl
theorem look_snoc {ks : List (List Bool × Addr)} {v : List Bool} {x : Addr} (h : ks.lookup v = none) : (ks ++ [(v, x)]).lookup v = some x := by
  induction ks with
  | nil => simp
  | cons p r ih =>
    rw [List.cons_append, List.lookup_cons]
    rw [List.lookup_cons] at h
    cases q : v == p.1 with
    | true => rw [q] at h; cases h
    | false => rw [q] at h; exact ih h
theorem led_w {a b : Addr × Obj} {G' G r : List (Addr × Obj)} : ∀ q ∈ (a :: b :: ((G' ++ G) ++ r)), q ∈ (G' ++ a :: b :: (G ++ r)) := by
  intro q hq; simp only [List.mem_cons, List.mem_append] at hq ⊢; grind
theorem net06 (w : World) {mean : ExcName → Option Value} {mg mb : Str → Option Value} {v : List Bool} {ND : Addr} {σ : WS} {t : Tok} {dp un : Nat} {gd : Option (List Code)} {env : Env} {outer : List Env} {A₀ : Around} {base h₀ : Heap} {L : Addr} {m : Str → Option Value}
    {rest : List (Addr × Obj)} {s : Shared} {Q E : Value → Shared → Prop} {loose : List Str} {pgm : Program}
    (B : Below A₀ base outer h₀) (F : Fr h₀ L s.heap m) (X : (hd.heap_39 w.params).In h₀) (N : News h₀ L s.heap (wled ND σ rest)) (O : WOk w ND σ) (hlo : (ND == sysModules) = false) (hv : v.length ≤ 12) (hkl : σ.ks.length ≤ 1000)
    (T : Top pgm loose mean mg mb h₀) (hfX : env.frame = some L) (hk : env.scope.kind = .function) (C : CodeHd h₀ 584 580) (hoff : ∀ p ∈ rest, p.1 ≠ 580 ∧ p.1 ≠ ND) (hlt : @LT.lt Nat _ 580 ND)
    (hdp : dp + 10 < recursionLimit) (hu : un + 400 < cLine)
    (rS : ∀ h' tk' τ x, Fr h₀ L h' m → News h₀ L h' (wled ND τ rest) → WOk w ND τ → Ext σ τ → τ.ks.lookup v = some x → τ.ks.length ≤ σ.ks.length + 1 → (∀ p ∈ τ.G, p ∈ σ.G ∨ ∀ q ∈ rest, @LT.lt Nat _ q.1 p.1) → Q (.ref x) { s with heap := h', toks := tk' }) :
    wpAny (model P6 w) (atN dp un gd env outer) (call (.ref 585) [.ref ND, .str (wordStr v) t]) Q E s := by
  obtain ⟨ks, oN, c0, tab, G⟩ := σ
  dsimp only at *
  have hoff2 : ∀ p ∈ G ++ rest, p.1 ≠ 580 ∧ p.1 ≠ ND := fun p hp => by
    rcases List.mem_append.mp hp with hp | hp
    · have := O.gt p hp
      exact ⟨Nat.ne_of_gt (Nat.lt_trans hlt this), Nat.ne_of_gt this⟩
    · exact hoff p hp
  cases hl : ks.lookup v with
  | some x =>
    exact net_known w B F X N O.dict hlo (by rw [kvs_look, hl]; rfl) T hfX hk hdp hu fun h' tk' F' N' => rS h' tk' ⟨ks, oN, c0, tab, G⟩ x F' N' O (Ext.refl _) hl (Nat.le_succ _) fun p hp => .inl hp
  | none =>
    have fin : ∀ (h' : Heap) (tk' : Nat) (x c' : Addr) (oN' : Obj) (G' : List (Addr × Obj)), Fr h₀ L h' m → News h₀ L h' (G' ++ (ND, oN') :: (580, tab1 c') :: (G ++ rest)) → oN'.IsDictOf (PySem.strKind P6 w) (stored (kvsOf ks) (wordStr v) (.ref x)) → NetAt w.params ND c' v x G' →
        ((c' = c0 ∧ LamCode c0 G) ∨ (ks = [] ∧ LamCode c' G')) → (∀ p ∈ G', @LT.lt Nat _ ND p.1 ∧ ∀ q ∈ G ++ rest, @LT.lt Nat _ q.1 p.1) → Q (.ref x) { s with heap := h', toks := tk' } := by
      intro h' tk' x c' oN' G' F' N' hd' hx hc hG
      rw [kvs_snoc hl] at hd'
      refine rS h' tk' ⟨ks ++ [(v, x)], oN', c', tab1 c', G' ++ G⟩ x F' (N'.perm led_w) (WOk.add O hl hv hd' hc hx fun p hp => ⟨(hG p hp).1, fun q hq => (hG p hp).2 q (List.mem_append_left _ hq)⟩) ⟨⟨_, rfl⟩, fun p hp => List.mem_append_right _ hp⟩ (look_snoc hl) (by simp) fun p hp => ?_
      rcases List.mem_append.mp hp with hp | hp
      · exact .inr fun q hq => (hG p hp).2 q (List.mem_append_right _ hq)
      · exact .inl hp
    have hk1 : valueAt (kvsOf ks) (wordStr v) = none := by rw [kvs_look, hl]; rfl
    rcases O.tabs with ⟨e1, e2⟩ | ⟨e1, e2⟩
    · dsimp only at e1 e2
      subst e2
      exact net_new w B F X N O.dict hlo hk1 hv (by simpa using hkl) T hfX hk C hoff2 hlt hdp hu fun h' tk' x c' oN' G' F' N' hd' hx hcd hG => fin h' tk' x c' oN' G' F' N' hd' hx (.inr ⟨e1, hcd⟩) hG
    · dsimp only at e1 e2
      subst e1
      exact net_hit w B F X N O.dict hlo hk1 hv (by simpa using hkl) T hfX hk C hoff2 hlt hdp hu fun h' tk' x oN' G' F' N' hd' hx hG => fin h' tk' x c0 oN' G' F' N' hd' hx (.inl ⟨rfl, e2⟩) hG
end Mine
end
section
open PySem PySem.W PyProof.Rows
local macro_rules | `(tactic| k_all) => `(tactic| assumption)
local macro_rules | `(tactic| k_room) => `(tactic| ktr_room)
local macro_rules | `(tactic| ke_room) => `(tactic| ktr_units)
local macro_rules | `(tactic| k_units) => `(tactic| ktr_units)
local macro_rules | `(tactic| walk_at "leaving ref") => `(tactic| (refine Mine.stop_here ?_))
local macro_rules | `(tactic| walk_at "convS ref") => `(tactic| (k_here; (with_reducible show wpAny _ _ (PySem.convS (Value.ref _)) _ _ _); (show wpAny _ _ (PySem.pyStrObj (Value.ref _)) _ _ _); k_dflt (refine' PySem.W.kfo_str ?u ?X ?I ?s ?f ?_; (case u => ktr_units); (case X => k_in); (case I => k_inst); (case s => k_is); (case f => k_is); k_whole)))
local macro_rules | `(tactic| walk_at "call ref") => `(tactic| ((with_reducible show wpAny _ _ (call (Value.ref 312) _) _ _ _); refine Mine.stop_here ?_))
namespace Mine
theorem fin_msg {prog : Program} {w : World} {A : Around} {E : Value → Shared → Prop} {s : Shared} {x : Str} {n : Nat} {Q : Value → Shared → Prop} (hx : x.length ≤ n) (h : ∀ msg t k, msg.length ≤ n → Q (.str msg t) { s with toks := k }) (hn : n ≤ 10000 := by decide) :
    wpAny (model prog w) A (joinParts x []) Q E s := by
  show wpAny _ _ (mkStr x) _ _ _
  exact wpAny_mkStr (h _ _ _ hx) (by rw [sizeLine_eq]; omega)
set_option maxRecDepth 100000 in
set_option maxHeartbeats 8000000 in
theorem lt_spec (w : World) {mean : ExcName → Option Value} {mg mb : Str → Option Value} {q q' : Net} {x d y e : Addr} {dp un : Nat} {gd : Option (List Code)} {env : Env} {outer : List Env} {A₀ : Around} {base h₀ : Heap} {L : Addr} {m : Str → Option Value}
    {rest : List (Addr × Obj)} {s : Shared} {E : Value → Shared → Prop} {loose : List Str} {pgm : Program}
    (B : Below A₀ base outer h₀) (F : Fr h₀ L s.heap m) (X : (hd.heap_39 w.params).In h₀) (N : News h₀ L s.heap ((x, instObj 556 d) :: (d, netD w.params q) :: (y, instObj 556 e) :: (e, netD w.params q') :: rest))
    (T : Top pgm loose mean mg mb h₀) (hfX : env.frame = some L) (hk : env.scope.kind = .function) (h0 : 0 ≤ q.n) (h1 : q.n < 16384) (h2 : 0 ≤ q'.n) (h3 : q'.n < 16384) (b4 : 0 ≤ q.pl) (b5 : q.pl < 16384) (b6 : 0 ≤ q'.pl) (b7 : q'.pl < 16384) (hne : q.n ≠ q'.n)
    (hdp : dp + 40 < recursionLimit) (hu : un + 2000 < cLine)
    (rE : ∀ ex h' tk', RaisedAt base h₀ L m (env :: outer) ex (.type "TypeError") ((x, instObj 556 d) :: (d, netD w.params q) :: (y, instObj 556 e) :: (e, netD w.params q') :: rest) h' → E (.ref ex) { s with heap := h', toks := tk' }) :
    wpAny (model P6 w) (atN dp un gd env outer) (call (.ref 340) [.ref x, .ref y]) (fun _ _ => False) E s := by
  have hq : PySem.Challenge.rw_km0038_06 = PySem.Challenge.rw_km0038_06 ∧ hd.heap_39 = hd.heap_39 := ⟨rfl, rfl⟩
  revert hq
  k_fill
  intro hq
  w_on
  refine wpAny_call ?_
  k_dflt (refine' PySem.W.code_def ?k1 ?k2 ?k3 ?k4 ?k5 ?kA ?kF ?kK ?k6 ?k7 ?k8 ?k9 ?kB ?_ ?c2 ?c3 ?c4 ?c5; (case kA => exact rfl); (case kF => exact hfX); (case kK => exact hk); (case k1 => k_asm); (case k2 => k_asm); (case k3 => k_asm); (case k4 => k_asm); (case k5 => k_asm); (case k6 => k_is); (case k7 => k_is); (case k8 => k_room); (case k9 => first | exact BindsTo.of_eq rfl | exact binds_K (by k_in) rfl (by k_is) rfl rfl rfl); (case c5 => decide); (case kB => exact locs rfl); (case c2 => exact rfl); (case c3 => exact rfl); (case c4 => exact rfl); k_whole; intro g' L' h' FG' F' N' B' X' T'; (try dsimp only); (try k_lift B'); (try k_fold))
  w_strict k_steps
  unfold Stop
  rename Fr _ _ _ _ => F2
  rename News _ _ _ _ => N2
  rename Below _ _ _ _ => B2
  rename PySem.W.Frag.In _ _ => X2
  rename Top _ _ _ _ _ _ => T2
  refine str_spec w B2 F2 X2 N2 T2 (by rfl) (by rfl) h0 h1 b4 b5 ?dp ?un ?rS
  (case dp => ktr_room)
  (case un => ktr_units)
  intro h6 tk6 y6 t6 F6 N6 hl6
  clear F2 N2
  dsimp only [StrBack]
  w_strict k_steps
  unfold Stop
  have N7 : News _ _ h6 ((y, instObj 556 e) :: (e, netD w.params q') :: (x, instObj 556 d) :: (d, netD w.params q) :: rest) := fun p hp => N6 p (by simp only [List.mem_cons] at hp ⊢; grind)
  refine str_spec w B2 F6 X2 N7 T2 (by rfl) (by rfl) h2 h3 b6 b7 ?dp2 ?un2 ?rS2
  (case dp2 => ktr_room)
  (case un2 => ktr_units)
  intro h8 tk8 y8 t8 F8 N8 hl8
  have N9 : News _ _ h8 ((x, instObj 556 d) :: (d, netD w.params q) :: (y, instObj 556 e) :: (e, netD w.params q') :: rest) := fun p hp => N8 p (by simp only [List.mem_cons] at hp ⊢; grind)
  clear F6 N6 N7 N8
  dsimp only [StrBack]
  iterate 5 walk1
  refine fin_msg (n := 5000) ?_ ?_
  · rw [Str.length_append, Str.length_append, Str.length_append, Str.length_append]
    have a1 : Str.empty.length = 0 := by decide +kernel
    have a2 : (Str.ofString " and ").length = 5 := by decide +kernel
    have a3 : (Str.ofString " are not of the same version").length = 28 := by decide +kernel
    omega
  intro msg tm km hmsg
  dsimp only
  w_strict k_steps
  unfold Stop
  rename PySem.Heap.NewExc _ _ _ _ => hx
  refine leave_newS (h := h8) B2 hx F8 N9 fun h9 R9 _ U9 => ?_
  refine rE _ _ _ ⟨_, FG', R9, U9, fun b hb => ?_⟩
  obtain ⟨_, o, ho, _⟩ := B2.frames.mem hb
  exact ⟨o, ho⟩
end Mine
end
section
open PySem PySem.W PyProof.Rows
local macro_rules | `(tactic| k_all) => `(tactic| assumption)
local macro_rules | `(tactic| k_room) => `(tactic| ktr_room)
local macro_rules | `(tactic| ke_room) => `(tactic| ktr_units)
local macro_rules | `(tactic| k_units) => `(tactic| ktr_units)
local macro_rules | `(tactic| walk_at "eval Name") => `(tactic| (k_here; k_dflt (refine' nameX_F ?N ?c ?m ?d ?_ ?a ?b; (case a => rfl); (case b => rfl); (case N => k_asm); (case c => rfl); (case m => k_mem); (case d => k_asm); k_whole)))
local macro_rules | `(tactic| walk_at "call ref") => `(tactic| ((with_reducible show wpAny _ _ (call (Value.ref 585) _) _ _ _); refine Mine.stop_here ?_))
namespace Mine
set_option maxRecDepth 100000 in
set_option maxHeartbeats 2000000 in
theorem sup06 (w : World) {mean : ExcName → Option Value} {mg mb : Str → Option Value} {v : List Bool} {ND y : Addr} {σ : WS} {dp un : Nat} {gd : Option (List Code)} {env : Env} {outer : List Env} {A₀ : Around} {base h₀ : Heap} {L : Addr} {m : Str → Option Value}
    {rest : List (Addr × Obj)} {s : Shared} {Q E : Value → Shared → Prop} {loose : List Str} {pgm : Program} {f a1 a2 : Addr} {pm ctv : Value} {o1 o2 : Obj} {t : Tok}
    (B : Below A₀ base outer h₀) (F : Fr h₀ L s.heap m) (X : (hd.heap_39 w.params).In h₀) (N : News h₀ L s.heap (wled ND σ rest)) (O : WOk w ND σ) (hlo : (ND == sysModules) = false) (hv : v.length ≤ 12) (hkl : σ.ks.length ≤ 1000)
    (CK : LamCode σ.c0 σ.G) (m3 : (f, lamO pm σ.c0 ctv a1 a2) ∈ σ.G) (m4 : (a1, o1) ∈ σ.G) (m5 : (a2, o2) ∈ σ.G) (g4 : o1.data = .cell (some (.ref ND))) (g5 : o2.data = .cell (some (.str (wordStr v) t)))
    (T : Top pgm loose mean mg mb h₀) (hfX : env.frame = some L) (hk : env.scope.kind = .function) (C : CodeHd h₀ 584 580) (hoff : ∀ p ∈ rest, p.1 ≠ 580 ∧ p.1 ≠ ND) (hlt : @LT.lt Nat _ 580 ND)
    (hdp : dp + 30 < recursionLimit) (hu : un + 1000 < cLine)
    (rS : ∀ h' tk' τ x, Fr h₀ L h' m → News h₀ L h' (wled ND τ rest) → WOk w ND τ → Ext σ τ → τ.ks.lookup v.dropLast = some x → τ.ks.length ≤ σ.ks.length + 1 → (∀ p ∈ τ.G, p ∈ σ.G ∨ ∀ q ∈ rest, @LT.lt Nat _ q.1 p.1) → Q (.ref x) { s with heap := h', toks := tk' }) :
    wpAny (model P6 w) (atN dp un gd env outer) (call (.ref f) []) Q E s := by
  obtain ⟨oc', vs', t', cK, cD, cV⟩ := CK
  have N2 : News h₀ L s.heap ((f, lamO pm σ.c0 ctv a1 a2) :: (σ.c0, oc') :: (a1, o1) :: (a2, o2) :: wled ND σ rest) := by
    have k : ∀ p ∈ σ.G, p ∈ wled ND σ rest := fun p hp => .tail _ (.tail _ (List.mem_append_left _ hp))
    refine N.perm fun p hp => ?_
    rcases List.mem_cons.mp hp with rfl | hp
    · exact k _ m3
    rcases List.mem_cons.mp hp with rfl | hp
    · exact k _ cK
    rcases List.mem_cons.mp hp with rfl | hp
    · exact k _ m4
    rcases List.mem_cons.mp hp with rfl | hp
    · exact k _ m5
    exact hp
  have hq : PySem.Challenge.rw_km0038_06 = PySem.Challenge.rw_km0038_06 ∧ hd.heap_39 = hd.heap_39 := ⟨rfl, rfl⟩
  revert hq
  k_fill
  intro hq
  w_on
  refine wpAny_call ?_
  k_dflt (refine' kla_code ?k1 ?k2 ?k3 ?k4 ?k5 ?kA ?kF ?kK ?k6 ?k7 ?k8 ?k9 ?kB ?_ ?c2 ?c3 ?c4 ?c5; (case kA => exact rfl); (case kF => exact hfX); (case kK => exact hk); (case k1 => k_asm); (case k2 => k_asm); (case k3 => k_asm); (case k4 => k_asm); (case k5 => k_asm); (case k6 => k_mem); (case k7 => exact codeRec_news (by k_asm) (by k_mem) (by assumption) (by assumption)); (case k8 => k_room); (case k9 => exact rfl); (case c5 => decide); (case kB => exact locs rfl); (case c2 => exact rfl); (case c3 => exact rfl); (case c4 => exact rfl); k_whole; intro g' L' h' FG' F' N' B' X' T'; (try dsimp only); (try k_lift B'); (try k_fold))
  w_strict k_steps
  refine slice_strN_ns (s := ⟨_, _, _, _, _⟩) F' N' ?_ (hsz := by rw [wordStr_len, sizeLine_eq]; omega)
  intro h5 t5 k5 F5 N5
  rw [slice_last]
  w_strict k_steps
  unfold Stop
  rename Fr g' L' _ _ => F6
  rename News g' L' _ _ => N6
  refine net06 w B' F6 X' (N6.perm fun p hp => .tail _ (.tail _ (.tail _ (.tail _ hp)))) O hlo (by rw [List.length_dropLast]; omega) hkl T' (by rfl) (by rfl) (CodeHd.keeps C (Fr.keep FG')) hoff hlt ?dp ?un ?rS
  (case dp => ktr_room)
  (case un => ktr_units)
  intro h7 tk7 τ x F7 N7 O7 e7 l7 k7 g7
  clear F6 N6
  (try dsimp only)
  w_strict k_steps
  rename News h₀ L _ _ => N9
  rename Fr h₀ L _ _ => F9
  exact rS _ _ τ x F9 N9 O7 e7 l7 k7 g7
end Mine
end
section
open PySem
namespace Mine
abbrev Wd := List Bool
structure CSt where
  todo : List Wd
  sub : List (Wd × Wd)
  asked : List Wd
def csize (c : CSt) : Nat := 2 * c.todo.length + c.sub.length
def cstep (hs : Wd → Wd) (c : CSt) : CSt :=
  match c.todo.getLast? with
  | none => c
  | some n =>
    match c.sub.lookup (hs n) with
    | none => ⟨c.todo.dropLast, c.sub ++ [(hs n, n)], c.asked ++ [n]⟩
    | some e => if e = n then ⟨c.todo.dropLast, c.sub, c.asked ++ [n]⟩ else ⟨c.todo.dropLast ++ [hs n], c.sub.filter (fun p => p.1 != hs n), c.asked ++ [n]⟩
def cruns (hs : Wd → Wd) : Nat → CSt → CSt
  | 0, c => c
  | n + 1, c => cruns hs n (cstep hs c)
def cfin (hs : Wd → Wd) (c : CSt) : CSt := cruns hs (csize c) c
theorem cstep_nil {hs : Wd → Wd} {c : CSt} (h : c.todo = []) : cstep hs c = c := by simp [cstep, h]
theorem cruns_nil {hs : Wd → Wd} {c : CSt} (h : c.todo = []) : ∀ n, cruns hs n c = c
  | 0 => rfl
  | n + 1 => by rw [cruns, cstep_nil h, cruns_nil h n]
theorem lookup_len {k e : Wd} : ∀ {l : List (Wd × Wd)}, l.lookup k = some e → (l.filter (fun p => p.1 != k)).length < l.length
  | [], h => by simp at h
  | p :: r, h => by
    rw [List.lookup_cons] at h
    cases q : k == p.1 with
    | true =>
      have : p.1 = k := (beq_iff_eq.mp q).symm
      simp [this, Nat.lt_succ_of_le (List.length_filter_le _ r)]
    | false =>
      rw [q] at h
      have ih := lookup_len (l := r) h
      have : (p.1 != k) = true := by
        rw [bne_iff_ne]; intro z; rw [z] at q; simp at q
      simp [List.filter_cons, this, ih]
theorem cstep_less {hs : Wd → Wd} {c : CSt} (h : c.todo ≠ []) : csize (cstep hs c) < csize c := by
  have hl : 0 < c.todo.length := List.length_pos_iff.mpr h
  unfold cstep csize
  rw [List.getLast?_eq_some_getLast h]
  dsimp only
  split
  · simp; omega
  · rename_i e he
    split
    · simp; omega
    · have := lookup_len he
      simp; omega
theorem cruns_enough {hs : Wd → Wd} : ∀ (n : Nat) (c : CSt), csize c ≤ n → cruns hs n c = cfin hs c := by
  have key : ∀ (k n : Nat) (c : CSt), csize c ≤ k → csize c ≤ n → cruns hs n c = cruns hs k c := by
    intro k
    induction k with
    | zero =>
      intro n c hk hn
      have : c.todo = [] := by
        cases q : c.todo with
        | nil => rfl
        | cons a r => simp [csize, q] at hk
      rw [cruns_nil this, cruns_nil this]
    | succ k ih =>
      intro n c hk hn
      by_cases h : c.todo = []
      · rw [cruns_nil h, cruns_nil h]
      · cases n with
        | zero =>
          have := cstep_less (hs := hs) h
          omega
        | succ n =>
          have := cstep_less (hs := hs) h
          exact ih n _ (by omega) (by omega)
  intro n c h
  exact key _ n c (Nat.le_refl _) h
theorem cfin_step {hs : Wd → Wd} {c : CSt} (h : c.todo ≠ []) : cfin hs (cstep hs c) = cfin hs c := by
  have l := cstep_less (hs := hs) h
  rw [← cruns_enough (csize c - 1) (cstep hs c) (by omega)]
  show _ = cruns hs (csize c) c
  obtain ⟨k, hk⟩ : ∃ k, csize c = k + 1 := ⟨csize c - 1, by omega⟩
  rw [hk]
  rfl
theorem cfin_done {hs : Wd → Wd} {c : CSt} (h : c.todo = []) : cfin hs c = c := cruns_nil h _
end Mine
namespace Mine
section
variable {Dm : Wd → Prop} {X : Wd → Addr} {sub : List (Wd × Wd)} {u : Wd}
abbrev pairs (X : Wd → Addr) (sub : List (Wd × Wd)) : List (Addr × Value) := sub.map fun p => (X p.1, Value.ref (X p.2))
theorem pairs_lookup (inj : ∀ a b, Dm a → Dm b → X a = X b → a = b) (hu : Dm u) : ∀ {sub : List (Wd × Wd)}, (∀ p ∈ sub, Dm p.1 ∧ Dm p.2) → (pairs X sub).lookup (X u) = (sub.lookup u).map fun e => Value.ref (X e)
  | [], _ => rfl
  | p :: r, h => by
    have h1 := (h p (.head _)).1
    have ih := pairs_lookup inj hu (sub := r) fun q hq => h q (.tail _ hq)
    show List.lookup (X u) ((X p.1, Value.ref (X p.2)) :: pairs X r) = _
    rw [List.lookup_cons, List.lookup_cons]
    by_cases q : u = p.1
    · rw [show (X u == X p.1) = true by rw [q]; exact beq_self_eq_true _, show (u == p.1) = true by rw [q]; exact beq_self_eq_true _]; rfl
    · have e1 : (u == p.1) = false := by rw [beq_eq_false_iff_ne]; exact q
      have e2 : (X u == X p.1) = false := by rw [beq_eq_false_iff_ne]; exact fun z => q (inj _ _ hu h1 z)
      rw [e1, e2]
      exact ih
theorem pairs_nodup (inj : ∀ a b, Dm a → Dm b → X a = X b → a = b) : ∀ {sub : List (Wd × Wd)}, (∀ p ∈ sub, Dm p.1 ∧ Dm p.2) → (sub.map (·.1)).Nodup → ((pairs X sub).map (·.1)).Nodup
  | [], _, _ => .nil
  | p :: r, h, hn => by
    have hn' := List.nodup_cons.mp (show (p.1 :: r.map (·.1)).Nodup from hn)
    refine List.nodup_cons.mpr ⟨fun z => ?_, pairs_nodup inj (fun q hq => h q (.tail _ hq)) hn'.2⟩
    obtain ⟨y, hy, e⟩ := List.mem_map.mp z
    obtain ⟨q, hq, rfl⟩ := List.mem_map.mp hy
    exact hn'.1 (List.mem_map.mpr ⟨q, hq, inj _ _ (h q (.tail _ hq)).1 (h p (.head _)).1 e⟩)
theorem pairs_notin (inj : ∀ a b, Dm a → Dm b → X a = X b → a = b) (hu : Dm u) (h : ∀ p ∈ sub, Dm p.1 ∧ Dm p.2) (hl : sub.lookup u = none) : X u ∉ (pairs X sub).map (·.1) := fun z => by
  obtain ⟨y, hy, e⟩ := List.mem_map.mp z
  obtain ⟨q, hq, rfl⟩ := List.mem_map.mp hy
  have : q.1 = u := inj _ _ (h q hq).1 hu e
  have := List.lookup_eq_none_iff.mp hl q hq
  simp_all
theorem pairs_filter (inj : ∀ a b, Dm a → Dm b → X a = X b → a = b) (hu : Dm u) : ∀ {sub : List (Wd × Wd)}, (∀ p ∈ sub, Dm p.1 ∧ Dm p.2) → (pairs X sub).filter (fun p => p.1 != X u) = pairs X (sub.filter fun p => p.1 != u)
  | [], _ => rfl
  | p :: r, h => by
    have h1 := (h p (.head _)).1
    have ih := pairs_filter inj hu (sub := r) fun q hq => h q (.tail _ hq)
    show List.filter _ ((X p.1, Value.ref (X p.2)) :: pairs X r) = _
    rw [List.filter_cons, List.filter_cons, ih]
    by_cases q : p.1 = u
    · have e1 : (X p.1 != X u) = false := by rw [q]; exact bne_self_eq_false _
      have e2 : (p.1 != u) = false := by rw [q]; exact bne_self_eq_false _
      simp [e1, e2]
    · have e2 : (p.1 != u) = true := bne_iff_ne.mpr q
      have e1 : (X p.1 != X u) = true := bne_iff_ne.mpr fun z => q (inj _ _ h1 hu z)
      simp [e1, e2]
theorem lookup_mem {e : Wd} (h : sub.lookup u = some e) : (u, e) ∈ sub := by
  induction sub with
  | nil => simp at h
  | cons p r ih =>
    rw [List.lookup_cons] at h
    cases q : u == p.1 with
    | true => rw [q] at h; rw [beq_iff_eq.mp q]; simp at h; rw [← h]; exact .head _
    | false => rw [q] at h; exact .tail _ (ih h)
end
section
variable {hs : Wd → Wd} {p : List Wd} {v u e : Wd} {sub : List (Wd × Wd)} {a : List Wd}
theorem cstep_none (hu : hs v = u) (h : sub.lookup u = none) : cstep hs ⟨p ++ [v], sub, a⟩ = ⟨p, sub ++ [(u, v)], a ++ [v]⟩ := by
  subst hu
  simp [cstep, h]
theorem cstep_same (hu : hs v = u) (h : sub.lookup u = some v) : cstep hs ⟨p ++ [v], sub, a⟩ = ⟨p, sub, a ++ [v]⟩ := by
  subst hu
  simp [cstep, h]
theorem cstep_other (hu : hs v = u) (h : sub.lookup u = some e) (hne : e ≠ v) : cstep hs ⟨p ++ [v], sub, a⟩ = ⟨p ++ [u], sub.filter (fun q => q.1 != u), a ++ [v]⟩ := by
  subst hu
  simp [cstep, h, hne]
end
theorem cfin_todo {hs : Wd → Wd} : ∀ (n : Nat) (c : CSt), csize c ≤ n → (cruns hs n c).todo = [] := by
  intro n
  induction n with
  | zero =>
    intro c h
    cases q : c.todo with
    | nil => exact q
    | cons a r => simp [csize, q] at h
  | succ n ih =>
    intro c h
    by_cases q : c.todo = []
    · rw [cruns_nil q]; exact q
    · have := cstep_less (hs := hs) q
      exact ih _ (by omega)
theorem cstep_ne {hs : Wd → Wd} {c : CSt} (h : c.todo ≠ [] ∨ c.sub ≠ []) : (cstep hs c).todo ≠ [] ∨ (cstep hs c).sub ≠ [] := by
  unfold cstep
  split
  · exact h
  · rename_i n hn
    split
    · right; simp
    · rename_i e he
      split
      · right
        intro z
        dsimp only at z
        rw [z] at he
        simp at he
      · left; simp
theorem cruns_ne {hs : Wd → Wd} : ∀ (n : Nat) (c : CSt), c.todo ≠ [] ∨ c.sub ≠ [] → (cruns hs n c).todo ≠ [] ∨ (cruns hs n c).sub ≠ []
  | 0, _, h => h
  | n + 1, _, h => cruns_ne n _ (cstep_ne h)
theorem cfin_ne {hs : Wd → Wd} {row : List Wd} (h : row ≠ []) : (cfin hs ⟨row, [], []⟩).sub ≠ [] := by
  rcases cruns_ne (hs := hs) (csize ⟨row, [], []⟩) ⟨row, [], []⟩ (.inl h) with k | k
  · exact absurd (cfin_todo _ _ (Nat.le_refl _)) k
  · exact k
end Mine
end
section
open PySem PySem.W PyProof.Rows
set_option maxRecDepth 100000
namespace Mine
def WS.X (σ : WS) (v : Wd) : Addr := (σ.ks.lookup v).getD 0
def WS.dom (σ : WS) (v : Wd) : Prop := ∃ x, σ.ks.lookup v = some x
def WS.wordOf (σ : WS) (a : Addr) : Wd := ((σ.ks.find? fun p => p.2 == a).map (·.1)).getD []
def WS.ha (σ : WS) (a : Addr) : Int := hp ((code (σ.wordOf a) : Nat) : Int) 0
theorem WS.dom_X {σ : WS} {v : Wd} (h : σ.dom v) : σ.ks.lookup v = some (σ.X v) := by
  obtain ⟨x, hx⟩ := h
  rw [WS.X, hx]; rfl
theorem WS.mem {σ : WS} {v : Wd} (h : σ.dom v) : (v, σ.X v) ∈ σ.ks := lookup_mem' (WS.dom_X h)
theorem Ext.dom {σ τ : WS} (x : Ext σ τ) {v : Wd} (h : σ.dom v) : τ.dom v := by
  obtain ⟨k, hk⟩ := h
  exact ⟨k, x.look hk⟩
theorem Ext.X {σ τ : WS} (x : Ext σ τ) {v : Wd} (h : σ.dom v) : τ.X v = σ.X v := by
  have := x.look (WS.dom_X h)
  rw [WS.X, this]; rfl
theorem nodup_map_inj {α β : Type} {f : α → β} {l : List α} (h : (l.map f).Nodup) {a b : α} (ha : a ∈ l) (hb : b ∈ l) (e : f a = f b) : a = b := by
  induction l with
  | nil => cases ha
  | cons c r ih =>
    have h' := List.nodup_cons.mp (show (f c :: r.map f).Nodup from h)
    rcases List.mem_cons.mp ha with ea | ha
    · rcases List.mem_cons.mp hb with eb | hb
      · rw [ea, eb]
      · rw [ea] at e; exact absurd (List.mem_map.mpr ⟨b, hb, e.symm⟩) h'.1
    · rcases List.mem_cons.mp hb with eb | hb
      · rw [eb] at e; exact absurd (List.mem_map.mpr ⟨a, ha, e⟩) h'.1
      · exact ih h'.2 ha hb
theorem WOk.inj {w : World} {ND : Addr} {σ : WS} (O : WOk w ND σ) : ∀ a b, σ.dom a → σ.dom b → σ.X a = σ.X b → a = b := fun a b ha hb e => by
  have := nodup_map_inj O.adds (WS.mem ha) (WS.mem hb) e
  exact (Prod.mk.inj this).1
theorem WOk.len {w : World} {ND : Addr} {σ : WS} (O : WOk w ND σ) {v : Wd} (h : σ.dom v) : v.length ≤ 12 := (O.net _ (WS.mem h)).1
theorem WOk.at' {w : World} {ND : Addr} {σ : WS} (O : WOk w ND σ) {v : Wd} (h : σ.dom v) : NetAt w.params ND σ.c0 v (σ.X v) σ.G := (O.net _ (WS.mem h)).2
theorem WOk.code' {w : World} {ND : Addr} {σ : WS} (O : WOk w ND σ) {v : Wd} (h : σ.dom v) : LamCode σ.c0 σ.G := by
  rcases O.tabs with ⟨e, -⟩ | ⟨-, e⟩
  · have := WS.mem h
    rw [e] at this; cases this
  · exact e
theorem WOk.ha_X {w : World} {ND : Addr} {σ : WS} (O : WOk w ND σ) {v : Wd} (h : σ.dom v) : σ.ha (σ.X v) = hp ((code v : Nat) : Int) 0 := by
  have hm := WS.mem h
  have : σ.wordOf (σ.X v) = v := by
    unfold WS.wordOf
    cases q : σ.ks.find? (fun p => p.2 == σ.X v) with
    | none =>
      have := List.find?_eq_none.mp q _ hm
      simp at this
    | some p =>
      have h1 := List.mem_of_find?_eq_some q
      have h2 := List.find?_some q
      have h3 : p.2 = σ.X v := beq_iff_eq.mp h2
      have := nodup_map_inj O.adds h1 hm h3
      rw [this]; rfl
  unfold WS.ha
  rw [this]
theorem ents_ext {w : World} {ND : Addr} {σ τ : WS} (x : Ext σ τ) (O : WOk w ND σ) (O' : WOk w ND τ) {sub : List (Wd × Wd)} (h : ∀ p ∈ sub, σ.dom p.1 ∧ σ.dom p.2) : ents σ.ha (pairs σ.X sub) = ents τ.ha (pairs τ.X sub) := by
  unfold ents pairs
  rw [List.map_map, List.map_map]
  refine List.map_congr_left fun p hp => ?_
  have h1 := (h p hp).1
  have h2 := (h p hp).2
  show (⟨σ.ha (σ.X p.1), .ref (σ.X p.1), .ref (σ.X p.2)⟩ : DictEntry) = ⟨τ.ha (τ.X p.1), .ref (τ.X p.1), .ref (τ.X p.2)⟩
  rw [O.ha_X h1, O'.ha_X (x.dom h1), x.X h1, x.X h2]
abbrev refs (X : Wd → Addr) (l : List Wd) : List Value := l.map fun v => .ref (X v)
theorem refs_ext {σ τ : WS} (x : Ext σ τ) {l : List Wd} (h : ∀ v ∈ l, σ.dom v) : refs σ.X l = refs τ.X l :=
  List.map_congr_left fun v hv => by rw [x.X (h v hv)]
end Mine
end
section
open PySem PySem.W PyProof.Rows PySem.Spec PySem.Calls
set_option maxRecDepth 100000
namespace Mine
def DictHas (h : Heap) (d : Addr) (es : Array DictEntry) (ep : Nat) : Prop := ∃ o, h.get? d = some o ∧ o.cls = .type "dict" ∧ o.data = .dict es ep
theorem DictHas.at {h h' : Heap} {d : Addr} {es : Array DictEntry} {ep : Nat} (x : DictHas h d es ep) (k : ∀ o, h.get? d = some o → h'.get? d = some o) : DictHas h' d es ep := let ⟨o, a, r⟩ := x; ⟨o, k o a, r⟩
theorem DictHas.lt {h : Heap} {d : Addr} {es : Array DictEntry} {ep : Nat} (x : DictHas h d es ep) : d < h.objs.size := let ⟨_, a, _⟩ := x; Heap.lt_size a
theorem DictHas.typeIs {s : Shared} {d : Addr} {es : Array DictEntry} {ep : Nat} (x : DictHas s.heap d es ep) : s.TypeIs (.ref d) "dict" := let ⟨o, a, b, _⟩ := x; ⟨o, a, b⟩
section
variable {prog : Program} {w : World} {A : Around} {E : Value → Shared → Prop} {s : Shared} {it d v : Addr} {es : Array DictEntry} {ep i : Nat}
theorem values_view {Q : Value → Shared → Prop} (hm : DictHas s.heap d es ep) (hsm : (d == sysModules) = false) (hq : Q (.ref s.heap.objs.size) { s with heap := s.heap.push { cls := .type "dict_values", data := .fields #[.ref d] } }) :
    wpAny (model prog w) A (call (.builtin "dict.values") [.ref d]) Q E s := by
  refine wpAny_call_entry PySem.F.slot_dict_values hm.typeIs PySem.F.entry_dict_values ?_ (PySem.F.args_dict_values_1 _)
  refine wpAny_bind ?_
  unfold Builtin.Dict.noArgs
  refine wpAny_bind (wpAny_notOrdered_dict hm.typeIs ?_)
  show wpAny _ _ (pure d) _ _ s
  refine wpAny_pure ?_
  show wpAny _ _ (Builtin.Dict.showsAll d >>= _) _ _ s
  unfold Builtin.Dict.showsAll
  rw [if_neg (by rw [hsm]; exact Bool.false_ne_true)]
  refine wpAny_bind (wpAny_pure ?_)
  exact wpAny_bind (wpAny_newObj_type (wpAny_pure ⟨_, rfl, hq⟩))
theorem values_iter {Q : Value → Shared → Prop} (hv : s.heap.IsValuesView v d) (hm : DictHas s.heap d es ep)
    (hQ : Q (.ref s.heap.objs.size) { s with heap := s.heap.push { cls := .type "dict_valueiterator", data := .fields #[.ref d, .int 0 0, .int es.size 0, .int ep 0] } }) :
    wpAny (model prog w) A (pyIter (.ref v)) Q E s := by
  obtain ⟨ov, hov, hcv, hdv⟩ := id hv
  obtain ⟨o, ho, hc, hdat⟩ := id hm
  refine wpAny_pyIter_slot hv.typeIs PySem.F.slot_dict_values_iter (wpAny_call_entry PySem.F.slot_dict_values_iter hv.typeIs PySem.F.entry_dict_values_iter ?_ (PySem.F.args_dict_values_iter_1 _))
  unfold Builtin.«dict_values.__iter__»
  refine wpAny_bind (wpAny_pure (wpAny_bind ?_))
  unfold Builtin.Dict_items.dictOf
  refine wpAny_bind (wpAny_field hov hdv (x := .ref d) rfl (wpAny_pure (wpAny_bind ?_)))
  unfold Builtin.Dict_items.newIterator
  refine wpAny_bind (wpAny_dictEntries ho hdat (wpAny_bind (wpAny_dictEpoch ho hdat ?_)))
  simp only [show Builtin.Dict_items.ownsTuple "dict_valueiterator" = false by decide, Bool.false_eq_true, if_false]
  refine wpAny_newObj_type (wpAny_pure ⟨_, rfl, "dict_valueiterator", _, ⟨_, Heap.get?_push_size _ rfl, rfl⟩, PySem.F.slot_dict_valueiterator_next.lookup, ?_⟩)
  simpa [rawInt] using hQ
theorem values_next {Q : Option Value → Shared → Prop} (hit : s.heap.IsValIter it d i es.size ep) (hm : DictHas s.heap d es ep)
    (h1 : ∀ hi : i < es.size, ∀ h', h'.IsValIter it d (i + 1) es.size ep → Heap.SameBut it s.heap h' → Q (some es[i].val) { s with heap := h' })
    (hh : A.handled = none) (h2 : es.size ≤ i → ∀ h', Heap.ExtBut it s.heap h' → Q none { s with heap := h' }) : wpAny (model prog w) A (pyNext (.ref it)) Q E s := by
  obtain ⟨o, ho, hc, hd⟩ := id hit
  obtain ⟨od, hod, hcd, hdd⟩ := id hm
  unfold pyNext
  refine wpAny_bind (wpAny_attempt (wpAny_callSpecial?_slot (name := Str.ofString "__next__") hit.typeIs PySem.F.slot_dict_valueiterator_next
    (wpAny_call_entry PySem.F.slot_dict_valueiterator_next hit.typeIs PySem.F.entry_dict_valueiterator_next ?_ (PySem.F.args_dict_valueiterator_next_1 _))))
  refine wpAny_bind (wpAny_pure (wpAny_bind (wpAny_bind ?_)))
  first | refine wpAny_bind (wpAny_typeNameOfWhole_valiter hit.typeIs (wpAny_pure ?_)) | refine wpAny_bind (wpAny_typeNameOf_valiter hit.typeIs (wpAny_pure ?_))
  refine wpAny_bind (wpAny_fieldsOf ho hd ?_)
  simp only [show Builtin.Dict_items.ownsTuple "dict_valueiterator" = false by decide, Bool.false_eq_true, if_false]
  show wpAny _ _ (if (Value.ref d == Value.none) = true then _ else _) _ _ s
  rw [if_neg (show ¬ ((Value.ref d == Value.none) = true) from Bool.false_ne_true)]
  refine wpAny_bind (wpAny_pure (wpAny_bind (wpAny_dictEntries hod hdd ?_)))
  rw [if_neg (by simp)]
  refine wpAny_bind (wpAny_pure (wpAny_bind (wpAny_dictEpoch hod hdd ?_)))
  rw [if_neg (by simp)]
  refine wpAny_pure ?_
  by_cases hi : i < es.size
  · simp only [show ¬ ((i : Int) < 0) from by omega, if_false, Int.toNat_natCast, Array.getElem?_eq_getElem hi]
    refine wpAny_bind ?_
    first | refine wpAny_bind (wpAny_typeNameOfWhole_valiter hit.typeIs (wpAny_pure ?_)) | refine wpAny_bind (wpAny_typeNameOf_valiter hit.typeIs (wpAny_pure ?_))
    refine wpAny_bind (wpAny_isOneOf_valiter hit.typeIs ?_)
    show wpAny _ _ (setField (.ref it) 1 (rawInt ((i : Int) + 1)) >>= _) _ _ s
    refine wpAny_bind (wpAny_setField ho hd (by simp) ?_)
    have hit' : (s.heap.update it (Obj.mapFields (·.setIfInBounds 1 (rawInt ((i : Int) + 1))))).IsValIter it d (i + 1) es.size ep :=
      ⟨_, Heap.get?_update_self _ ho (Obj.isFreed_of_fields (Obj.data_mapFields hd _)), (Obj.cls_mapFields ..).trans hc, by rw [Obj.data_mapFields hd]; simp [rawInt]⟩
    refine wpAny_bind (wpAny_holding ?_)
    refine wpAny_bind (wpAny_isOneOf_valiter (s := { s with heap := s.heap.update it (Obj.mapFields (·.setIfInBounds 1 (rawInt ((i : Int) + 1)))) }) hit'.typeIs ?_)
    refine wpAny_bind (wpAny_isOneOf_valiter (s := { s with heap := s.heap.update it (Obj.mapFields (·.setIfInBounds 1 (rawInt ((i : Int) + 1)))) }) hit'.typeIs ?_)
    show wpAny _ _ (pure es[i].val) _ _ _
    exact wpAny_pure (wpAny_pure ⟨_, rfl, wpAny_pure (h1 hi _ hit' (Heap.SameBut.update ..))⟩)
  · have hge : es.size ≤ i := by omega
    simp only [show ¬ ((i : Int) < 0) from by omega, if_false, Int.toNat_natCast, Array.getElem?_eq_none hge]
    refine wpAny_bind ?_
    first | refine wpAny_bind (wpAny_typeNameOfWhole_valiter hit.typeIs (wpAny_pure ?_)) | refine wpAny_bind (wpAny_typeNameOf_valiter hit.typeIs (wpAny_pure ?_))
    show wpAny _ _ (setField (.ref it) 0 .none >>= _) _ _ s
    refine wpAny_bind (wpAny_setField ho hd (by simp) ?_)
    show wpAny _ _ (newExc (.type "StopIteration") [] >>= _) _ _ _
    refine wpAny_bind ?_
    simp only [newExc, newTuple]
    refine wpAny_bind (wpAny_newObj_type ?_ (by size_fits))
    refine wpAny_bind (m := firstArgMember _ _) (wpAny_of_eq (a := Value.none) (by first | rfl | (simp only [firstArgMember]; rfl)) ?_)
    refine wpAny_newObj_type ?_ (by size_fits)
    simp only [raiseNew]
    refine wpAny_bind (wpAny_handled ?_)
    rw [show A.in1.handled = none from hh]
    refine wpAny_bind (wpAny_pure (wpAny_throw ?_))
    refine wpAny_bind (wpAny_isInstance (T := "StopIteration") (b := true) ⟨_, Heap.get?_push_size _ rfl, rfl⟩ isSubtype_stop ?_)
    exact wpAny_pure (h2 hge _ (((Heap.SameBut.update ..).extBut.push _).push _))
theorem walks_values (hh : A.handled = none) (I d : Addr) (hne : d ≠ I) (es : Array DictEntry) (ep : Nat) :
    Walks prog w A I [I, d] [I] es.size (fun i v => ∃ e, es[i]? = some e ∧ v = e.val) (fun i h => h.IsValIter I d i es.size ep ∧ DictHas h d es ep) where
  sub := fun b hb => by simp at hb; simp [hb]
  frame := fun _ _ _ st hk => ⟨st.1.at fun o e => hk I (by simp) o e, st.2.at fun o e => hk d (by simp) o e⟩
  item := fun i s Q E hi st hQ => values_next st.1 st.2 (fun hi' h' hit' hs' => hQ es[i].val h' s.toks ⟨es[i], Array.getElem?_eq_getElem hi', rfl⟩ ⟨hit', st.2.at fun o e => (hs'.2 _ hne).trans e⟩ fun b o hb e => hs'.extBut b o (fun h => hb (by simp [h])) e) hh fun h _ _ => absurd hi (by omega)
  done := fun s Q E st hQ => values_next st.1 st.2 (fun hi' _ _ _ => absurd hi' (Nat.lt_irrefl _)) hh fun _ h' he' => hQ h' s.toks fun b o hb e => he' b o (fun h => hb (by simp [h])) e
  self := fun _ _ _ _ st hQ => wpAny_pyIter_valiter st.1 hQ
theorem src_values : KdlSrc prog w "dict_values" v d es.size (fun i u => ∃ e, es[i]? = some e ∧ u = e.val) (fun h => h.IsValuesView v d ∧ DictHas h d es ep) where
  type := fun _ hm => hm.1.typeIs
  there := fun _ hm => ⟨let ⟨_, ho, _⟩ := hm.1; Heap.lt_size ho, hm.2.lt⟩
  keep := fun _ _ hm hk => ⟨let ⟨o, ho, x⟩ := hm.1; ⟨o, hk v (.inl rfl) o ho, x⟩, hm.2.at fun o e => hk d (.inr rfl) o e⟩
  notList := by decide
  notTuple := by decide
  hint := fun _ _ _ _ hm hq => kdl_hint_values hm.1.typeIs hq
  iter := fun _ _ hh hm => ⟨_, _, (fun _ _ hq => values_iter hm.1 hm.2 hq), walks_values hh _ d (Nat.ne_of_lt hm.2.lt) es ep, ⟨⟨_, Heap.get?_push_size _ rfl, rfl, rfl⟩, hm.2.at fun o e => Heap.get?_push_of_some _ e⟩⟩
end
end Mine
end
section
open PySem PySem.W PyProof.Rows PySem.Spec PySem.Calls
set_option maxRecDepth 100000
namespace Mine
section
variable {prog : Program} {w : World} {A₀ A : Around} {s : Shared} {base h₀ : Heap} {outer : List Env} {env : Env} {L a : Addr} {m : Str → Option Value} {news : List (Addr × Obj)} {K : Frag} {p : Program} {loose : List Str} {mean : ExcName → Option Value} {mg mb : Str → Option Value}
  {R : Result → Shared → Prop} {name qual : Str} {params : Arguments} {body : List Stmt} {scope : Scope} {dV kV doc pm cdv ct oc : Value} {an od : Option Addr} {osl : Array (Option Value)} {f : Addr} {args : Args} {binds : List (Str × Value)}
abbrev genO (gi : Nat) (name qual : Str) (t1 t2 : Tok) : Obj := { cls := .type "generator", data := .fields #[.int gi 0, .str name t1, .str qual t2] }
theorem gen_def (B : Below A₀ base outer h₀) (F : Fr h₀ L s.heap m) (X₀ : K.In h₀) (N : News h₀ L s.heap news) (T : Top p loose mean mg mb h₀) (hA : A.frames = some (env :: outer)) (hf : env.frame = some L) (hke : env.scope.kind = .function)
    (ho : K.lookup f = some ⟨oc, od, .func (fnOf name qual params body scope dV kV doc pm an cdv ct), osl⟩) (hcd : codeIn K cdv qual = true) (hroom : A.depth < recursionLimit)
    (hbind : BindsTo s (fnOf name qual params body scope dV kV doc pm an cdv ct) args binds) (hloc : ∀ y ∈ binds, scope.names.lookup y.1 = some .local)
    (h : ∀ g L' h₁ t1 t2 tk, Fr h₀ L g m → Fr g L' h₁ (fun y => binds.reverse.lookup y) → News g L' h₁ news → Below A base (env :: outer) g → K.In g → Top p loose mean mg mb g → (∀ b o, s.heap.get? b = some o → h₁.get? b = some o) → s.heap.objs.size = L' →
      R (.ok (.ret (.ref h₁.objs.size))) { s with gens := s.gens.push (.fresh (.func body (envOf qual scope L' f cdv))), heap := h₁.push (genO s.gens.size name qual t1 t2), toks := tk })
    (hco : scope.isCoroutine = false) (hgen : scope.isGenerator = true) (hk : scope.kind = .function)
    (hcell : ∀ x ∈ scope.names, x.2 ≠ .cell) : codeAny (model prog w) A (.call (.ref f) args) R s := by
  have X := X₀.keeps F.keep
  obtain ⟨FG, BG, st, lv⟩ := groundX (R := R) B F N hA hf hke
  refine codeAny_call_generator (fd := fnOf name qual params body scope dV kV doc pm an cdv ct) (body := body) hroom (X _ _ ho) rfl hco hgen rfl (codeRec_of X hcd) (hbind _ _ _ _ ?_)
  refine wpAny_newFunctionEnv hcell hloc (fun h₁ hns hsb => ⟨((T.nolimit).keeps F.keep).fresh _ hsb, ?_⟩) hk
  have hk₁ : ∀ b o, s.heap.get? b = some o → h₁.get? b = some o := fun b o e => hsb.extBut b o (Nat.ne_of_lt (Heap.lt_size e)) (Heap.get?_push_of_some _ e)
  exact h _ s.heap.objs.size h₁ _ _ _ FG ⟨hns, fun b o e => hk₁ b o (of_hideAll _ e), Nat.le_of_eq (hideAll_size _ _)⟩
    (fun p hp => ⟨hk₁ _ _ (N p hp).1, Nat.ne_of_lt (Heap.lt_size (N p hp).1), hideAll_none _ (List.mem_map_of_mem hp)⟩) BG (X₀.keeps st) (T.keeps st) hk₁ rfl
end
section
variable {prog : Program} {w : World} {A : Around} {E : Value → Shared → Prop} {s : Shared} {R : Result → Shared → Prop} {S I : Addr} {res : Value} {gi : Nat}
theorem loop_turn (h : wpAny (model prog w) A.in1 (pyNext (.ref I)) (fun ov s' => match ov with
      | none => R (.ok (.ret res)) s'
      | some v => ∃ acc c, s'.heap.get? S = some (W.listOf acc c) ∧ acc.size ≤ 1000 ∧
          (∀ h', h'.get? S = some (W.listOf (acc.push v) (c + 1)) → (∀ b o, b ≠ S → s'.heap.get? b = some o → h'.get? b = some o) → h'.objs.size = s'.heap.objs.size → codeAny (model prog w) A (.builtin "list.extend.loop" ⟨[.ref S, .ref I, res], []⟩) R { s' with heap := h' })) (fun e s' => R (.error e) s') s) :
    codeAny (model prog w) A (.builtin "list.extend.loop" ⟨[.ref S, .ref I, res], []⟩) R s := by
  refine codeAny_builtin F.entry_extend_loop ?_
  rw [Around.under_plainId F.plain_extend_loop _]
  show wpAny _ A.in1 (pyNext (.ref I) >>= _) _ _ s
  refine wpAny_bind (wpAny_mono h (fun ov s' hv => ?_) fun _ _ x => x)
  cases ov with
  | none => exact wpAny_pure hv
  | some v =>
    obtain ⟨acc, c, hS, hz, hk⟩ := hv
    show wpAny _ A.in1 (updateSeq S (·.push v) >>= _) _ _ _
    refine wpAny_bind ?_
    refine wpAny_updateSeq hS rfl (wpAny_pure ⟨plainId_quiet F.plain_extend_loop _, hk _ (by rw [Heap.get?_update_self _ hS (by rw [mapSeq_push]; rfl), mapSeq_push]) (fun b o hb e => (Heap.get?_update_other _ _ (Ne.symm hb)).trans e) ?_⟩) ?_ ?_
    · simp
    · rw [sizeLine_eq]; omega
    · show (acc.push v).size ≤ sizeLine + 1; rw [Array.size_push, sizeLine_eq]; omega
theorem list_gen {Q : Value → Shared → Prop} (hg : s.heap.IsGen I gi)
    (h : ∀ h' c, (∀ b o, s.heap.get? b = some o → h'.get? b = some o) → h'.get? s.heap.objs.size = some (W.listOf #[] c) → h'.objs.size = s.heap.objs.size + 1 →
      codeAny (model prog w) A.in1 (.builtin "list.extend.loop" ⟨[.ref s.heap.objs.size, .ref I, .none], []⟩) (wants (fun r s₂ => r = .none ∧ Q (.ref s.heap.objs.size) s₂) E) { s with heap := h' }) :
    wpAny (model prog w) A (call (.type "list") [.ref I]) Q E s := by
  have hIs : I < s.heap.objs.size := let ⟨o, _, _, ho, _⟩ := hg; Heap.lt_size ho
  refine callType_codes (Q₁ := fun obj s₁ => obj = .ref s.heap.objs.size ∧ s₁ = { s with heap := s.heap.push { cls := .type "list", data := .seq #[] } }) F.called_list (F.typeCall_list_1 _) F.entry_list_init
    (code_list_new _ ⟨rfl, rfl⟩) fun obj s₁ h₁ => ?_
  obtain ⟨rfl, rfl⟩ := h₁
  have hS : (s.heap.push { cls := .type "list", data := .seq #[] }).get? s.heap.objs.size = some { cls := .type "list", data := .seq #[] } := Heap.get?_push_size _ rfl
  refine ⟨⟨_, hS, rfl⟩, F.args_list_init_2 _ _, ?_⟩
  have hk0 : ∀ b o, s.heap.get? b = some o → (s.heap.push { cls := .type "list", data := .seq #[] }).get? b = some o := fun b o e => Heap.get?_push_of_some _ e
  have hz0 : (s.heap.push { cls := .type "list", data := .seq #[] }).objs.size = s.heap.objs.size + 1 := by simp [Heap.push]
  revert h hS hk0 hz0
  generalize (s.heap.push { cls := .type "list", data := .seq #[] }) = h1
  have hIS : s.heap.objs.size ≠ I := fun e => Nat.lt_irrefl _ (e ▸ hIs)
  have hlt : ∀ b o, s.heap.get? b = some o → b ≠ s.heap.objs.size := fun b o e => Nat.ne_of_lt (Heap.lt_size e)
  revert hIS hlt
  generalize s.heap.objs.size = S
  intro hIS hlt h hS hk0 hz0
  show wpAny _ A.in1.in1 (do let old ← Builtin.List.listItems (.ref S); Builtin.List.listUpdate (.ref S) (fun _ => #[]); letGo old.toList.reverse; Builtin.List.listExtendWith (.ref S) (.ref I) .none) _ _ _
  refine wpAny_bind ?_
  unfold Builtin.List.listItems
  refine wpAny_bind (wpAny_seqItems hS rfl (wpAny_pure ?_))
  show wpAny _ A.in1.in1 (updateSeq S (fun _ => #[]) >>= fun _ => letGo (#[] : Array Value).toList.reverse >>= fun _ => Builtin.List.listExtendWith (.ref S) (.ref I) .none) _ _ _
  refine wpAny_bind (wpAny_updateSeq hS rfl ?_)
  have hS₂ := Heap.get?_update_self (Obj.mapSeq (fun _ => (#[] : Array Value))) hS rfl
  have oth : ∀ b o, b ≠ S → h1.get? b = some o → (h1.update S (Obj.mapSeq (fun _ => (#[] : Array Value)))).get? b = some o :=
    fun b o hb e => (Heap.get?_update_other _ _ (Ne.symm hb)).trans e
  have hz2 : (h1.update S (Obj.mapSeq (fun _ => (#[] : Array Value)))).objs.size = S + 1 := by simp [hz0]
  refine wpAny_bind (wpAny_letGo ?_)
  revert hS₂ oth hz2
  show _ → _ → _ → wpAny _ _ _ _ _ { s with heap := h1.update S (Obj.mapSeq (fun _ => (#[] : Array Value))) }
  generalize (h1.update S (Obj.mapSeq (fun _ => (#[] : Array Value)))) = h2
  intro hS₂ oth hz2
  have hg2 : h2.IsGen I gi := hg.keeps fun b o e => oth b o (hlt b o e) (hk0 b o e)
  unfold Builtin.List.listExtendWith
  refine wpAny_bind (wpAny_typeOf (Heap.IsGen.typeIs (s := { s with heap := h2 }) hg2) ?_)
  have e1 : Builtin.List.listSameRef (.ref S) (.ref I) = false := by simp [Builtin.List.listSameRef, hIS]
  have e2 : (Value.type "generator" == Value.type "list") = false := by decide
  have e3 : (Value.type "generator" == Value.type "tuple") = false := by decide
  simp only [e1, e2, e3, Bool.or_false, Bool.false_eq_true, if_false]
  refine wpAny_bind (wpAny_pyIter_gen hg2 ?_)
  refine wpAny_bind (wpAny_holding ?_)
  unfold Builtin.List.listLengthHint
  refine wpAny_bind (wpAny_specialOf (Heap.IsGen.typeIs (s := { s with heap := h2 }) hg2) F.gen_no_len ?_)
  show wpAny _ A.in1.in1 (specialOf (Value.ref I) (Str.ofString "__length_hint__") >>= _) _ _ _
  refine wpAny_bind (wpAny_specialOf (Heap.IsGen.typeIs (s := { s with heap := h2 }) hg2) F.gen_no_hint ?_)
  refine wpAny_pure ?_
  show wpAny _ A.in1.in1 (rule "list.extend.makes-room" >>= fun _ => Builtin.List.listTouch (.ref S) >>= fun _ =>
    again (.builtin "list.extend.loop" ⟨[.ref S, .ref I, .none], []⟩)) _ _ _
  refine wpAny_bind (wpAny_rule ?_)
  refine wpAny_bind ?_
  show wpAny _ A.in1.in1 (updateSeq S (·.push .none) >>= fun _ => updateSeq S (·.pop)) _ _ _
  refine wpAny_bind (wpAny_updateSeq hS₂ rfl ?_)
  have hS₃ := Heap.get?_update_self (Obj.mapSeq (·.push Value.none)) hS₂ rfl
  refine wpAny_updateSeq (hz := by seq_fits) hS₃ rfl ?_
  have hS₄ := Heap.get?_update_self (Obj.mapSeq (·.pop)) hS₃ rfl
  refine wpAny_pure ⟨plainId_quiet F.plain_extend_loop _, h _ _ (fun b o e => (Heap.get?_update_other _ _ (Ne.symm (hlt b o e))).trans ((Heap.get?_update_other _ _ (Ne.symm (hlt b o e))).trans (oth b o (hlt b o e) (hk0 b o e)))) (hS₄.trans rfl) ?_⟩
  simp [hz2]
end
end Mine
end
section
open PySem PySem.W PyProof.Rows PySem.Spec PySem.Calls
set_option maxRecDepth 100000
namespace Mine
section
variable {prog : Program} {w : World} {A : Around} {E : Value → Shared → Prop} {s : Shared}
theorem next_gen {a : Addr} {g n : Nat} {gs : GenState} {R : GenEnd} {Y : Protocol} {Q : Option Value → Shared → Prop} (hh : A.handled = none)
    (hl : s.heap.NoLimit) (hroom : A.depth < recursionLimit)
    (hg : s.heap.IsGen a g) (hgs : s.gens[g]? = some gs)
    (hgo : gs.Goes (model prog w) A.in1 R Y n (.send .none) (s.setGen g .running))
    (hY : ∀ v s₁ gs', Y (n - 1) (s.setGen g .running) v s₁ (fun r' s'' => match n with
        | 0 => False
        | m + 1 => gs'.Goes (model prog w) A.in1 R Y m r' s'') → Q (some v) (s₁.setGen g gs'))
    (hR : ∀ r s₁, R n (s.setGen g .running) r s₁ → match r with
        | .ok (.ret .none) => ∀ h', (∀ b o, s₁.heap.get? b = some o → h'.get? b = some o) → Q none { s₁.setGen g .finished with heap := h' }
        | .error e => s₁.heap.IsGen a g ∧ (∃ T, s₁.TypeIs e T ∧ isSubtype (.type T) (.type "StopIteration") = pure false) ∧ E e (s₁.setGen g .finished)
        | _ => False) :
    wpAny (model prog w) A (pyNext (.ref a)) Q E s := by
  unfold pyNext
  refine wpAny_bind (wpAny_attempt (wpAny_callSpecial?_slot (name := Str.ofString "__next__") hg.typeIs slot_gen_next
    (wpAny_call_entry slot_gen_next hg.typeIs entry_gen_next ?_ (args_gen_next _))))
  show wpAny _ _ (Builtin.Generator.genWake (.ref a) (.send .none)) _ _ s
  unfold Builtin.Generator.genWake
  refine wpAny_bind (wpAny_holding (wpAny_genNumber hg (wpAny_bind (wpAny_genState hgs ?_))))
  cases gs with
  | running => exact hgo.elim
  | finished => exact hgo.elim
  | _ =>
    refine wpAny_bind (wpAny_roomToWake hl hroom ?_)
    show wpAny _ _ (.resume g (.send .none) [] _) _ _ s
    refine wpAny_resume hgs hgo (fun x s₁ hx => ?_) (fun v s₁ gs' hv => ?_)
    · have hx := hR x s₁ hx
      match x, hx with
      | .ok (.ret .none), hp =>
        show wpAny _ _ (newExc (.type "StopIteration") [] >>= _) _ _ _
        refine wpAny_bind ?_
        simp only [newExc, newTuple]
        refine wpAny_bind (wpAny_newObj_type ?_ (by size_fits))
        refine wpAny_bind (m := firstArgMember _ _) (wpAny_of_eq (a := Value.none) (by first | rfl | (simp only [firstArgMember]; rfl)) ?_)
        refine wpAny_newObj_type ?_ (by size_fits)
        simp only [raiseNew]
        refine wpAny_bind (wpAny_bind (wpAny_handled ?_))
        rw [show A.in1.handled = none from hh]
        refine wpAny_throw ?_
        refine wpAny_bind (wpAny_isInstance (T := "StopIteration") (b := true) ⟨_, Heap.get?_push_size _ rfl, rfl⟩ isSubtype_stop ?_)
        exact wpAny_pure (hp _ fun b o hb => Heap.get?_push_of_some _ (Heap.get?_push_of_some _ hb))
      | .error e, hp =>
        obtain ⟨hgen, ⟨T, hT, hs⟩, hE⟩ := hp
        obtain ⟨o, nm, qn, hog, hcg, hdg, _⟩ := hgen
        have hT' : (s₁.setGen g .finished).TypeIs e T := hT
        show wpAny _ _ (Builtin.Generator.genLeft (.ref a) e) _ _ _
        unfold Builtin.Generator.genLeft Builtin.Generator.madeByALambda
        refine wpAny_bind (wpAny_bind (wpAny_load hog (wpAny_pure ?_)))
        refine wpAny_bind (wpAny_isInstance hT' hs ?_)
        simp only [Bool.and_false, Bool.false_eq_true, if_false]
        unfold Builtin.Generator.genEscaped
        refine wpAny_bind (wpAny_isInstance hT' hs ?_)
        simp only [Bool.not_false, if_true]
        refine wpAny_throw ?_
        refine wpAny_bind (wpAny_isInstance hT' hs ?_)
        simp only [Bool.false_eq_true, if_false]
        exact wpAny_throw hE
    · exact wpAny_pure ⟨v, rfl, wpAny_pure (hY v s₁ gs' hv)⟩
end
end Mine
end
section
open PySem PySem.W PyProof.Rows PySem.Spec PySem.Calls
set_option maxRecDepth 100000
namespace Mine
section
variable {prog : Program} {w : World} {A : Around} {R : GenEnd} {Y : Protocol} {n : Nat} {s₀ : Shared} {c : Code} {fs : List Frame} {s : Shared} {env : Env}
  {K : Flow → Sem Fin} {H : Value → Sem Fin} {gd : Bool → Bool} {lv : List Value → List Value} {M : Model}
abbrev backF (env : Env) (K : Flow → Sem Fin) (H : Value → Sem Fin) (gd : Bool → Bool) (lv : List Value → List Value) (r : Result) : Sem Fin :=
  ((match r with | .ok f => (.pure f : Sem Flow) | .error e => .raise e).onRaise fun (x : Value) => do
        if (← field x 1) == Value.none then unsupported "frame.own-activation:exception-without-traceback"
        setFlight x env.frame).wrap K H gd lv
theorem seg_For {target iter : Expr} {body orelse : List Stmt} {pos : Pos}
    (h : wpAny M (A.over c fs) (eval iter env) (fun x s₁ => wpAny M (A.over c fs) (pyIter x) (fun it s₂ =>
      ∀ p, Seg M A R Y n s₀ (.forLoop target it body orelse env) (M.den (.forLoop target it body orelse env)) (.ret (backF env K H gd lv) none (gd false) (lv []) c p [] :: fs) s₂)
      (fun x s' => Seg M A R Y n s₀ c (H x) fs s') s₁) (fun x s' => Seg M A R Y n s₀ c (H x) fs s') s)
    (hs : ∀ x, foldedSetIterable iter env x = pure x := by intro _; rfl) :
    Seg M A R Y n s₀ c ((exec (.For target iter body orelse pos) env).wrap K H gd lv) fs s := by
  rw [exec_For]
  refine seg_at ?_
  show Seg M A R Y n s₀ c (((eval iter env) >>= fun x => (foldedSetIterable iter env x >>= fun x => (standAt iter.pos >>= fun _ => (holding [x] (pyIter x) >>= fun it => runOwn (.forLoop target it body orelse env) env)))).wrap K H gd lv) fs s
  rw [Sem.bind_eq_wrap', Sem.wrap_wrap]
  refine seg_wrap (wpAny_mono h (fun x s₁ h₁ => ?_) fun _ _ x => x)
  rw [hs x]
  show Seg M A R Y n s₀ c ((standAt iter.pos >>= fun _ => (holding [x] (pyIter x) >>= fun it => runOwn (.forLoop target it body orelse env) env)).wrap K H gd lv) fs s₁
  refine seg_at ?_
  show Seg M A R Y n s₀ c ((holding [x] (pyIter x) >>= fun it => runOwn (.forLoop target it body orelse env) env).wrap K H gd lv) fs s₁
  rw [Sem.bind_eq_wrap', Sem.wrap_wrap]
  refine seg_wrap (wpAny_holding (wpAny_mono h₁ (fun it s₂ h₂ => ?_) fun _ _ x => x))
  exact seg_call h₂
end
section
variable {prog : Program} {w : World} {A : Around} {R : GenEnd} {Y : Protocol} {n : Nat} {s₀ : Shared} {fs : List Frame} {s : Shared} {env : Env}
abbrev noteF (env : Env) (e : Value) : Sem Fin := (do noteFrame e env; theTreesLotGoes e : Sem Unit).wrap (fun _ => .raise e) .raise id id
theorem seg_turn {target : Expr} {it : Value} {body orelse : List Stmt}
    (h : wpAny (model prog w) (A.over (.forLoop target it body orelse env) fs) (pyNext it) (fun ov s₁ => match ov with
      | none => Seg (model prog w) A R Y n s₀ (.block orelse env) ((model prog w).den (.block orelse env)) fs s₁
      | some v => wpAny (model prog w) (A.over (.forLoop target it body orelse env) fs) (assign target env v) (fun _ s₂ =>
          Seg (model prog w) A R Y n s₀ (.forLoop target it body orelse env) ((execs body env).wrap (fun f => match f with
            | .next | .cont => .pure (.again (.forLoop target it body orelse env))
            | .brk => .pure (.done .next)
            | .ret v => .pure (.done (.ret v))) (noteF env) id id) fs s₂) (fun _ _ => False) s₁) (fun _ _ => False) s)
    (ht : ∀ v, letOwnedTupleGo target it v = pure () := by intro _; rfl) :
    Seg (model prog w) A R Y n s₀ (.forLoop target it body orelse env) ((model prog w).den (.forLoop target it body orelse env)) fs s := by
  show Seg _ A R Y n s₀ _ ((forTurn target it body orelse env).onRaise (fun x => do noteFrame x env; theTreesLotGoes x)) fs s
  rw [Sem.onRaise_eq_wrap]
  unfold forTurn
  show Seg _ A R Y n s₀ _ ((standAt target.pos >>= fun _ => (((pyNext it).onRaise fun _ => standAt { target.pos with line := 0 }) >>= fun ov => match ov with
    | none => again (.block orelse env)
    | some v => letOwnedTupleGo target it v >>= fun _ => assign target env v >>= fun _ => execs body env >>= fun f => match f with
      | .next | .cont => again (.forLoop target it body orelse env)
      | .brk => pure (.done .next)
      | .ret v => pure (.done (.ret v)))).wrap _ _ _ _) fs s
  refine seg_at ?_
  show Seg _ A R Y n s₀ _ ((((pyNext it).onRaise fun _ => standAt { target.pos with line := 0 }) >>= fun ov => match ov with
    | none => again (.block orelse env)
    | some v => letOwnedTupleGo target it v >>= fun _ => assign target env v >>= fun _ => execs body env >>= fun f => match f with
      | .next | .cont => again (.forLoop target it body orelse env)
      | .brk => pure (.done .next)
      | .ret v => pure (.done (.ret v))).wrap _ _ _ _) fs s
  rw [Sem.onRaise_eq_wrap, Sem.bind_eq_wrap', Sem.wrap_wrap, Sem.wrap_wrap]
  refine seg_wrap (wpAny_mono h (fun ov s₁ h₁ => ?_) fun _ _ x => x.elim)
  cases ov with
  | none => exact seg_again (by rfl) h₁
  | some v =>
    show Seg _ A R Y n s₀ _ ((letOwnedTupleGo target it v >>= fun _ => assign target env v >>= fun _ => execs body env >>= fun f => match f with
      | .next | .cont => again (.forLoop target it body orelse env)
      | .brk => pure (.done .next)
      | .ret v => pure (.done (.ret v))).wrap _ _ _ _) fs s₁
    rw [ht v]
    show Seg _ A R Y n s₀ _ ((assign target env v >>= fun _ => execs body env >>= fun f => match f with
      | .next | .cont => again (.forLoop target it body orelse env)
      | .brk => pure (.done .next)
      | .ret v => pure (.done (.ret v))).wrap _ _ _ _) fs s₁
    rw [Sem.bind_eq_wrap', Sem.wrap_wrap]
    refine seg_wrap (wpAny_mono h₁ (fun _ s₂ h₂ => ?_) fun _ _ x => x.elim)
    rw [Sem.bind_eq_wrap', Sem.wrap_wrap]
    rw [Sem.wrap_congr (execs body env) _ _ (K' := fun f => match f with
            | .next | .cont => .pure (.again (.forLoop target it body orelse env))
            | .brk => .pure (.done .next)
            | .ret v => .pure (.done (.ret v))) (H' := noteF env)
        (fun f => by cases f <;> rfl)
        (fun e => by first | exact Sem.bind_eq_wrap _ _ | (show (do noteFrame e env; theTreesLotGoes e : Sem Unit).bind (fun _ => .raise e) = _; rw [Sem.bind_eq_wrap]))]
    exact h₂
end
end Mine
end
section
open PySem PySem.W PyProof.Rows PySem.Spec PySem.Calls
set_option maxRecDepth 100000
namespace Mine
section
variable {prog : Program} {w : World} {A : Around} {R : GenEnd} {Y : Protocol} {n : Nat} {s₀ : Shared} {c : Code} {fs : List Frame} {s : Shared} {env : Env}
  {K : Flow → Sem Fin} {H : Value → Sem Fin} {gd : Bool → Bool} {lv : List Value → List Value}
theorem seg_block_end {g : Bool} {l : List Value} {p : Pos} (h : Seg (model prog w) A R Y n s₀ c (K .next) fs s) :
    Seg (model prog w) A R Y n s₀ (.block [] env) ((model prog w).den (.block [] env)) (.ret (backF env K H gd lv) none g l c p [] :: fs) s := by
  show Seg _ A R Y n s₀ _ _ _ s
  exact seg_leaf (.ok .next) h
abbrev funcK (f : Flow) : Sem Fin := .pure (.done (.ret (match f with | .ret v => v | _ => .none)))
abbrev funcH (env : Env) (e : Value) : Sem Fin := (leaving env e).wrap (fun _ => .raise e) .raise id id
theorem seg_func' {body : List Stmt} (h : Seg (model prog w) A R Y n s₀ (.func body env) ((execs body env).wrap funcK (funcH env) id id) fs s) :
    Seg (model prog w) A R Y n s₀ (.func body env) ((model prog w).den (.func body env)) fs s := seg_func h
theorem seg_returns (h : R n s₀ (.ok (.ret .none)) s) : Seg (model prog w) A R Y n s₀ c (funcK .next) [] s := seg_end (.ok (.ret .none)) h
theorem seg_raises {e : Value} (h : wpAny (model prog w) (A.over c []) (leaving env e) (fun _ s' => R n s₀ (.error e) s') (fun e' s' => R n s₀ (.error e') s') s) : Seg (model prog w) A R Y n s₀ c (funcH env e) [] s :=
  seg_wrap (wpAny_mono h (fun _ _ hr => seg_end (.error e) hr) fun _ _ hr => seg_end (.error _) hr)
theorem seg_stmt {st : Stmt} {rest : List Stmt}
    (h : wpAny (model prog w) (A.over c fs) (exec st env) (fun f s' => f = .next ∧ Seg (model prog w) A R Y n s₀ c ((execs rest env).wrap K H gd lv) fs s') (fun e s' => Seg (model prog w) A R Y n s₀ c (H e) fs s') s) :
    Seg (model prog w) A R Y n s₀ c ((execs (st :: rest) env).wrap K H gd lv) fs s := by
  refine seg_execs_cons (seg_wrap (wpAny_mono h (fun f s' hf => ?_) fun _ _ x => x))
  obtain ⟨rfl, hf⟩ := hf
  exact hf
end
end Mine
end
section
open PySem PySem.W PyProof.Rows PySem.Spec PySem.Calls
set_option maxRecDepth 100000
namespace Mine
theorem ne_bind (self : Value) : bindSpecial (.builtin "object.__ne__") self = pure (.builtin "object.__ne__", [self]) := F.cmp_object.ne.bind self
section
variable {prog : Program} {w : World} {A : Around} {E : Value → Shared → Prop} {s : Shared} {K : Frag} {x C L f : Addr} {h₀ : Heap} {m : Str → Option Value} {ox : Obj} {od : Option Obj} {b : Value}
theorem ne_ref {Q : Value → Shared → Prop} (hu : A.in1.units < cLine) (F : Fr h₀ L s.heap m) (X₀ : K.In h₀) (I : InstAt s.heap x ox C od) (hb : Looks (model prog w) s.heap (typeOf b) (.ref C))
    (hn : findIn K (.ref C) "__ne__" = some (some (.builtin "object.__ne__"))) (hsub : subIn K (.ref C) (.type "object") = some true)
    (hs : findIn K (.ref C) "__eq__" = some (some (.ref f))) (hf : isFn K (.ref f) = true)
    (h : wpAny (model prog w) A.in1 (call (.ref f) [.ref x, b]) (fun v s' => ∃ r, v = .bool r ∧ Q (.bool (!r)) s') E s) : wpAny (model prog w) A (richCompare .NotEq (.ref x) b) Q E s := by
  have X := X₀.keeps F.keep
  have hu0 : A.units < cLine := Nat.lt_of_le_of_lt (Nat.le_succ _) hu
  have entry : wpAny (model prog w) A.in1 (Builtin.«object.__ne__» ⟨[.ref x, b], []⟩) (fun fin s' => ∃ v, fin = .done (.ret v) ∧ ∃ r, v = .bool r ∧ Q (.bool r) s') E s := by
    show wpAny _ _ (cRoomFor "comparison" [.ref x, b] >>= fun _ => callSpecialIfBound? (.ref x) "__eq__" [b] >>= fun r => _) _ _ _
    refine wpAny_bind (wpAny_cRoomFor hu (wpAny_bind (ifBound_K X I hs hf (wpAny_mono h (fun v s' hv => ?_) fun _ _ e => e))))
    obtain ⟨r, rfl, hq⟩ := hv
    cases r
    · exact wpAny_bind (wpAny_pure (wpAny_pure ⟨_, rfl, _, rfl, hq⟩))
    · exact wpAny_bind (wpAny_pure (wpAny_pure ⟨_, rfl, _, rfl, hq⟩))
  have called : wpAny (model prog w) A (call (.builtin "object.__ne__") [.ref x, b]) (fun v s' => ∃ r, v = .bool r ∧ Q (.bool r) s') E s := by
    refine wpAny_call (codeAny_call_builtin PySem.F.cmp_object.ne.plain PySem.F.cmpEntry_ne (@check_slot (model prog w) _ _ _ "object.__ne__" "object" "__ne__" (.ref x) [b] [] _ PySem.F.cmpKind_ne PySem.F.cmpSplit_ne (I.type.andThen (looks_subIn X hsub)) (PySem.F.cmpArgs_ne _ _) ?_))
    refine wpAny_mono entry (fun fin s' hv => ?_) fun _ _ e => e
    obtain ⟨v, rfl, hq⟩ := hv
    exact hq
  have one : wpAny (model prog w) A (tryCompare (.ref x) "__ne__" b) (fun r s' => ∃ v, r = some v ∧ Q v s') E s := by
    unfold tryCompare
    refine wpAny_bind ?_
    simp only [callSpecialIfBound?, bindSpecialIfBound?]
    refine wpAny_holding (wpAny_bind (wpAny_bind (wpAny_bind (I.type.here ((looks_findIn X hn).here ?_)))))
    refine wpAny_bind (wpAny_askSetting (wpAny_ite ?_))
    have fin : wpAny (model prog w) A (call (.builtin "object.__ne__") ([.ref x] ++ [b]) >>= fun v => pure (some v)) (fun r s' => wpAny (model prog w) A (match r with | some .notImplemented | none => pure none | some v => pure (some v)) (fun r s' => ∃ v, r = some v ∧ Q v s') E s') E s := by
      refine wpAny_bind (wpAny_mono called (fun v s' hv => ?_) fun _ _ e => e)
      obtain ⟨r, rfl, hq⟩ := hv
      exact wpAny_pure (wpAny_pure ⟨_, rfl, hq⟩)
    simp only [ne_bind]
    split
    · exact wpAny_bind (wpAny_pure (wpAny_pure fin))
    · exact wpAny_tryCatch (wpAny_bind (wpAny_pure (wpAny_pure fin)))
  unfold richCompare
  simp only [oneThing_ref]
  refine wpAny_holding (wpAny_bind (wpAny_cRoomFor hu0 ?_))
  refine wpAny_bind (I.type.here (wpAny_bind (hb.here ?_)))
  simp only [bne_self_eq_false, Bool.false_eq_true, if_false]
  refine wpAny_bind (wpAny_pure ?_)
  simp only [Bool.false_eq_true, if_false]
  refine wpAny_bind (wpAny_mono one (fun r s' z => ?_) fun _ _ e => e)
  obtain ⟨v, rfl, hq⟩ := z
  exact wpAny_pure hq
end
end Mine
end
section
open PySem PySem.W PyProof.Rows PySem.Spec PySem.Calls
set_option maxRecDepth 100000
namespace Mine
section
variable {prog : Program} {w : World} {A : Around} {E : Value → Shared → Prop} {s : Shared} {h₀ : Heap} {L D : Addr} {m : Str → Option Value} {news rest : List (Addr × Obj)} {n : Nat} {p : Program} {loose : List Str} {mean : ExcName → Option Value} {mg mb : Str → Option Value}
theorem dict_new {env : Env} {pos : Pos} {Q : Value → Shared → Prop} (F : Fr h₀ L s.heap m) (N : News h₀ L s.heap news) (T : Top p loose mean mg mb h₀)
    (h : ∀ d h', Fr h₀ L h' m → News h₀ L h' ((d, dictOf [] 0) :: news) → (∀ q ∈ news, q.1 < d) → (d == sysModules) = false → Q (.ref d) { s with heap := h' }) :
    wpAny (model prog w) A (eval (.Dict [] [] pos) env) Q E s :=
  wpAny_Dict_empty (h _ _ (F.push _) (News.push F N _) (fun q hq => Heap.lt_size (N q hq).1) (F.notModules (modules_low T.nolimit)))
theorem pop_at {p : List Value} {y : Value} {Q : Value → Shared → Prop} (F : Fr h₀ L s.heap m) (N : News h₀ L s.heap news) (U : Upd D (listOf (p ++ [y]).toArray n) (listOf p.toArray (n + 1)) news rest) (hz : p.length ≤ 1000)
    (h : ∀ h', Fr h₀ L h' m → News h₀ L h' rest → Q y { s with heap := h' }) : wpAny (model prog w) A (call (.builtin "list.pop") [.ref D]) Q E s :=
  kl_pop F N (p := p) (y := y) (by simpa using kpa_last y p) U (by rw [sizeLine_eq]; simp; omega) h
theorem truthy_at {l : Addr} {items : Array Value} {Q : Bool → Shared → Prop} (N : News h₀ L s.heap news) (hm : (l, listOf items n) ∈ news) (hz : items.size ≤ 1000)
    (h : ∀ tk, Q (!items.isEmpty) { s with toks := tk }) : wpAny (model prog w) A (truthy (.ref l)) Q E s :=
  wpAny_truthy_list (News.isList N hm) (by omega) (h _)
end
end Mine
end
section
open PySem PySem.W PyProof.Rows PySem.Spec PySem.Calls
set_option maxRecDepth 100000
namespace Mine
section
variable {prog : Program} {w : World} {A : Around} {E : Value → Shared → Prop} {s : Shared} {K : Frag} {x C L f : Addr} {h₀ : Heap} {m : Str → Option Value} {ox : Obj} {od : Option Obj} {name : Str} {es : List DictEntry} {n : Nat} {v : Value}
theorem findObj_shadow {a g : Value} {o : Obj} (hh : hasDictIn K C = true) (ha : findIn K (.ref C) name = some (some a)) (hg : specialIn K a "__get__" = some (some g)) (ht : takesIn K a = some false) (hl : lookIn name o = some (some v)) :
    findObj K C (some o) name = some (.value v) := by
  obtain ⟨cd, hc, hd⟩ := any_some hh
  unfold findObj
  have ho : PySem.W.ownOf cd (some o) name = some (some v) := by unfold PySem.W.ownOf; rw [if_pos hd]; exact hl
  rw [hc, Option.bind_some, ha, Option.bind_some]
  simp [hg, ht, ho]
theorem method_shadow {pl : Sem Bool} {Q : Value × List Value → Shared → Prop} {f : Addr} {g : Value} (F : Fr h₀ L s.heap m) (X₀ : K.In h₀) (I : InstAt s.heap x ox C (some (dictOf es n))) (hg : plainGet K C name = true) (hh : hasDictIn K C = true)
    (hf : findIn K (.ref C) name = some (some (.ref f))) (ht : isFn K (.ref f) = true) (hgt : specialIn K (.ref f) "__get__" = some (some g)) (htk : takesIn K (.ref f) = some false) (hl : getL name es = some (some v)) (hv : handedIn v = true) (h : Q (v, []) { s with toks := s.toks + 1 }) :
    wpAny (model prog w) A (getMethod (.ref x) name pl) Q E s := by
  have X := X₀.keeps F.keep
  have hlk : lookIn name (dictOf es n) = some (some v) := by rw [lookIn_dict, hl]
  have hcan := PySem.F.canon_object_ga
  have u : wpAny (model prog w) A (do return (← getAttr (.ref x) name, ([] : List Value))) Q E s :=
    wpAny_bind (get_value X I (plainGet_of hg).1 (findObj_shadow hh hf hgt htk hlk) hv (wpAny_pure h))
  unfold getMethod specialOf
  refine wpAny_bind (wpAny_bind (I.type.here ((looks_findIn X (plainGet_of hg).1).here ?_)))
  dsimp only
  rw [hcan, if_neg (by decide)]
  refine wpAny_bind (wpAny_bind (I.type.here ((looks_findIn X (plainGet_of hg).2).here ?_)))
  refine wpAny_bind (wpAny_bind (I.type.here ((looks_findIn X hf).here (wpAny_bind ((looks_typeIn X (beq_iff_eq.mp ht)).here ?_)))))
  rw [if_neg (by decide +kernel)]
  refine wpAny_bind (wpAny_loadPart I.at_ ?_)
  have hd := I.dict
  cases e : ox.dict with
  | none => rw [e] at hd; exact hd.elim
  | some dx =>
    rw [e] at hd
    refine wpAny_bind (wpAny_bind (wpAny_loadPart hd ?_))
    rw [nsLook_of hlk]
    refine wpAny_pure ?_
    exact u
end
end Mine
end
section
open PySem PySem.W PyProof.Rows
local macro_rules | `(tactic| k_all) => `(tactic| assumption)
local macro_rules | `(tactic| k_room) => `(tactic| ktr_room)
local macro_rules | `(tactic| ke_room) => `(tactic| ktr_units)
local macro_rules | `(tactic| k_units) => `(tactic| ktr_units)
local macro_rules | `(tactic| walk_at "exec While Name cons nil") => `(tactic| (refine Mine.stop_here ?_))
local macro_rules | `(tactic| walk_at "exec While") => `(tactic| (refine Mine.stop_here ?_))
local macro_rules | `(tactic| walk_at "getMethod ref") => `(tactic| (k_here; (with_reducible show wpAny _ _ (getMethod (Value.ref _) (PySem.Str.ofString "supernet") _) _ _ _); k_dflt (refine' Mine.method_shadow ?k1 ?k2 ?k3 ?k4 ?k5 ?k6 ?k7 ?k8 ?k9 ?ka ?kb ?_; (case k1 => k_asm); (case k2 => k_asm); (case k3 => k_inst); (case k4 => k_is); (case k5 => k_is); (case k6 => k_is); (case k7 => k_is); (case k8 => k_is); (case k9 => k_is); (case ka => k_get); (case kb => k_handed); k_whole)))
local macro_rules | `(tactic| walk_at "getMethod ref") => `(tactic| (k_here; (with_reducible show wpAny _ _ (getMethod (Value.ref _) (PySem.Str.ofString "get") _) _ _ _); refine Mine.stop_here ?_))
local macro_rules | `(tactic| walk_at "callWith") => `(tactic| ((with_reducible show wpAny _ _ (callWith _ (Value.ref _, []).fst _ _ _) _ _ _); refine Mine.stop_here ?_))
local macro_rules | `(tactic| walk_at "call builtin:list.append") => `(tactic| (refine Mine.stop_here ?_))
local macro_rules | `(tactic| walk_at "getMethod ref") => `(tactic| (k_here; (with_reducible show wpAny _ _ (getMethod (Value.ref _) (PySem.Str.ofString "values") _) _ _ _); refine Mine.stop_here ?_))
local macro_rules | `(tactic| walk_at "call builtin:dict.values") => `(tactic| (refine Mine.stop_here ?_))
local macro_rules | `(tactic| walk_at "call builtin:sorted") => `(tactic| (refine Mine.stop_here ?_))
local macro_rules | `(tactic| walk_at "truthy ref") => `(tactic| (refine Mine.stop_here ?_))
local macro_rules | `(tactic| walk_at "call builtin:list.pop") => `(tactic| (refine Mine.stop_here ?_))
local macro_rules | `(tactic| walk_at "call builtin:dict.get") => `(tactic| (refine Mine.stop_here ?_))
local macro_rules | `(tactic| walk_at "call ref") => `(tactic| (refine Mine.stop_here ?_))
local macro_rules | `(tactic| walk_at "setItem ref ref") => `(tactic| (refine Mine.stop_here ?_))
local macro_rules | `(tactic| walk_at "delItem ref ref") => `(tactic| (refine Mine.stop_here ?_))
local macro_rules | `(tactic| walk_at "compareOp NotEq ref ref") => `(tactic| (refine Mine.stop_here ?_))
local macro_rules | `(tactic| walk_at "WPost") => `(tactic| (refine Mine.stop_here ?_))
local macro_rules | `(tactic| walk_at "eval Dict nil nil") => `(tactic| (k_here; k_dflt (refine' Mine.dict_new ?F ?N ?T ?_; (case F => k_asm); (case N => k_asm); (case T => k_asm); k_whole); intro d' h' F' N' l1 e1; (try k_lt l1); (try k_sweep)))
namespace Mine
theorem two_names {h₀ h : Heap} {L a b : Addr} {o1 o2 : Obj} {LED : List (Addr × Obj)} (_ : News h₀ L h ((a, o1) :: (b, o2) :: LED)) : ∃ a' b', a' = a ∧ b' = b := ⟨_, _, rfl, rfl⟩
theorem add_two {h₀ h : Heap} {L : Addr} {a b : Addr × Obj} {LED : List (Addr × Obj)} (N : News h₀ L h LED) (ha : a ∈ LED) (hb : b ∈ LED) : News h₀ L h (a :: b :: LED) := fun p hp => by
  rcases List.mem_cons.mp hp with rfl | hp
  · exact N _ ha
  rcases List.mem_cons.mp hp with rfl | hp
  · exact N _ hb
  exact N _ hp
theorem drop_two {h₀ h : Heap} {L : Addr} {a b : Addr × Obj} {LED : List (Addr × Obj)} (N : News h₀ L h (a :: b :: LED)) : News h₀ L h LED := fun p hp => N p (.tail _ (.tail _ hp))
theorem raised_mono {base h₀ h : Heap} {L : Addr} {m : Str → Option Value} {l : List Env} {e : Addr} {cls : Value} {a b : List (Addr × Obj)} (R : RaisedAt base h₀ L m l e cls a h) (i : ∀ p ∈ b, p ∈ a) : RaisedAt base h₀ L m l e cls b h := by
  obtain ⟨G, FG, ⟨B, a0, hB, hBG, hl, hfl⟩, hu, hf⟩ := R
  exact ⟨G, FG, ⟨B, a0, hB, hBG, fun q hq => hl q (i q hq), hfl⟩, hu, hf⟩
theorem vals_eq {C : Addr → Int} {X : Wd → Addr} {sub : List (Wd × Wd)} {vs : List Value} (hl : vs.length = (ents C (pairs X sub)).toArray.size) (hv : ∀ (j : Nat) (v : Value), vs[j]? = some v → ∃ e, (ents C (pairs X sub)).toArray[j]? = some e ∧ v = e.val) :
    vs = sub.map fun p => Value.ref (X p.2) := by
  apply List.ext_getElem?
  intro j
  rw [List.getElem?_map]
  have hl' : vs.length = sub.length := by rw [hl, ents_size, List.length_map]
  cases q : vs[j]? with
  | none =>
    have : sub.length ≤ j := by rw [← hl']; exact List.getElem?_eq_none_iff.mp q
    rw [List.getElem?_eq_none this]; rfl
  | some v =>
    obtain ⟨e, he, rfl⟩ := hv j v q
    rw [ents_at, List.getElem?_map] at he
    cases z : sub[j]? with
    | none => rw [z] at he; simp at he
    | some p => rw [z] at he; simp at he; rw [← he]; rfl
theorem tail_name {h₀ h : Heap} {L : Addr} {a : Addr × Obj} {LED : List (Addr × Obj)} (N : News h₀ L h (a :: LED)) : ∃ LED', LED' = LED ∧ News h₀ L h (a :: LED') := ⟨_, rfl, N⟩
theorem fr_but {g h h' : Heap} {L S : Addr} {m : Str → Option Value} (F : Fr g L h m) (h1 : S ≠ L) (h2 : g.get? S = none) (he : ∀ b o, b ≠ S → h.get? b = some o → h'.get? b = some o) : Fr g L h' m :=
  ⟨F.ns.at' fun o e => he _ _ (fun z => h1 z.symm) e, fun b o e => he _ _ (fun z => by rw [z, h2] at e; cases e) (F.keep b o e), F.above⟩
theorem news_but {g h h' : Heap} {L S : Addr} {oS oS2 : Obj} {LED : List (Addr × Obj)} (N : News g L h ((S, oS) :: LED)) (off : ∀ p ∈ LED, p.1 ≠ S) (hS : h'.get? S = some oS2) (he : ∀ b o, b ≠ S → h.get? b = some o → h'.get? b = some o) : News g L h' ((S, oS2) :: LED) := fun p hp => by
  rcases List.mem_cons.mp hp with rfl | hp
  · exact ⟨hS, (N _ (.head _)).2⟩
  · exact ⟨he _ _ (off p hp) (N p (.tail _ hp)).1, (N p (.tail _ hp)).2⟩
abbrev mf (m1 : Str → Option Value) (TM SN : Addr) (on os oe : Option Value) : Str → Option Value := fun y =>
  if y = Str.ofString "existing" then oe else if y = Str.ofString "supernet" then os else if y = Str.ofString "net" then on else if y = Str.ofString "subnets" then some (.ref SN) else if y = Str.ofString "to_merge" then some (.ref TM) else m1 y
theorem mf_start {m1 : Str → Option Value} {TM SN : Addr} (e1 : m1 (Str.ofString "existing") = none) (e2 : m1 (Str.ofString "supernet") = none) (e3 : m1 (Str.ofString "net") = none) :
    (fun y => if y = Str.ofString "subnets" then some (Value.ref SN) else if y = Str.ofString "to_merge" then some (Value.ref TM) else m1 y) = mf m1 TM SN none none none := by
  have d1 : Str.ofString "existing" ≠ Str.ofString "subnets" := by decide +kernel
  have d2 : Str.ofString "existing" ≠ Str.ofString "to_merge" := by decide +kernel
  have d3 : Str.ofString "supernet" ≠ Str.ofString "subnets" := by decide +kernel
  have d4 : Str.ofString "supernet" ≠ Str.ofString "to_merge" := by decide +kernel
  have d5 : Str.ofString "net" ≠ Str.ofString "subnets" := by decide +kernel
  have d6 : Str.ofString "net" ≠ Str.ofString "to_merge" := by decide +kernel
  funext y
  show _ = if y = Str.ofString "existing" then none else _
  by_cases q1 : y = Str.ofString "existing"
  · subst q1; simp only [d1, d2, if_false, if_true, e1]
  by_cases q2 : y = Str.ofString "supernet"
  · subst q2; simp only [d3, d4, q1, if_false, if_true, e2]
  by_cases q3 : y = Str.ofString "net"
  · subst q3; simp only [d5, d6, q1, q2, if_false, if_true, e3]
  simp only [q1, q2, q3, if_false]
theorem mf_turn {m1 : Str → Option Value} {TM SN : Addr} {on os oe : Option Value} {vn vs ve : Value} :
    (fun y => if y = Str.ofString "existing" then some ve else if y = Str.ofString "supernet" then some vs else if y = Str.ofString "net" then some vn else mf m1 TM SN on os oe y) = mf m1 TM SN (some vn) (some vs) (some ve) := by
  funext y
  show (if y = Str.ofString "existing" then some ve else if y = Str.ofString "supernet" then some vs else if y = Str.ofString "net" then some vn else
    if y = Str.ofString "existing" then oe else if y = Str.ofString "supernet" then os else if y = Str.ofString "net" then on else if y = Str.ofString "subnets" then some (.ref SN) else if y = Str.ofString "to_merge" then some (.ref TM) else m1 y) =
    (if y = Str.ofString "existing" then some ve else if y = Str.ofString "supernet" then some vs else if y = Str.ofString "net" then some vn else if y = Str.ofString "subnets" then some (.ref SN) else if y = Str.ofString "to_merge" then some (.ref TM) else m1 y)
  by_cases q1 : y = Str.ofString "existing"
  · rw [if_pos q1, if_pos q1]
  by_cases q2 : y = Str.ofString "supernet"
  · simp only [if_neg q1, if_pos q2]
  by_cases q3 : y = Str.ofString "net"
  · simp only [if_neg q1, if_neg q2, if_pos q3]
  simp only [if_neg q1, if_neg q2, if_neg q3]
structure WNew (w : World) (ND : Addr) (σ τ : WS) (rest : List (Addr × Obj)) : Prop where
  ok : WOk w ND τ
  ext : Ext σ τ
  new : ∀ p ∈ τ.G, p ∈ σ.G ∨ ∀ q ∈ rest, @LT.lt Nat _ q.1 p.1
def Loop (w : World) (ND : Addr) (g : Heap) (L' : Addr) (m1 : Str → Option Value) (TM SN D : Addr) (row : List Wd) (zr : Nat) (rest : List (Addr × Obj)) (σ0 : WS) (st0 : CSt) (s : Shared) (n : Nat) (s' : Shared) : Prop :=
  ∃ (st : CSt) (σ : WS) (h : Heap) (tk : Tok) (on os oe : Option Value) (zt zs : Nat),
    n = csize st ∧ s' = { s with heap := h, toks := tk } ∧ cfin List.dropLast st = cfin List.dropLast st0 ∧ Fr g L' h (mf m1 TM SN on os oe) ∧
    News g L' h ((SN, dictOf (ents σ.ha (pairs σ.X st.sub)) zs) :: (TM, W.listOf (refs σ.X st.todo).toArray zt) :: (D, W.listOf (refs σ.X row).toArray zr) :: wled ND σ rest) ∧
    WNew w ND σ0 σ rest ∧ (∀ v ∈ st.todo, σ.dom v) ∧ (∀ p ∈ st.sub, σ.dom p.1 ∧ σ.dom p.2) ∧ (st.sub.map (·.1)).Nodup ∧ σ.ks.length + csize st ≤ 900 ∧ (∀ p ∈ st.sub, p.2.dropLast = p.1) ∧ (∀ p ∈ σ.G, p.1 ≠ SN ∧ p.1 ≠ TM ∧ p.1 ≠ D)
def RG (w : World) (ND : Addr) (base h₀ g : Heap) (L L' : Addr) (m : Str → Option Value) (l : List Env) (st : CSt) (S : Addr) (oS : Obj) (rest : List (Addr × Obj)) (σ0 : WS) : GenEnd := fun n s₀ r s₁ =>
  s₁ = { s₀ with heap := s₁.heap, toks := s₁.toks } ∧ match r with
    | .error e => n = 1 ∧ 2 ≤ st.sub.length ∧ ∃ ex σ, e = .ref ex ∧ WNew w ND σ0 σ rest ∧ RaisedAt base h₀ L m l ex (.type "TypeError") (wled ND σ ((S, oS) :: rest)) s₁.heap
    | .ok (.ret .none) => (n = 1 ∧ st.sub = [] ∧ ∃ σ m', WNew w ND σ0 σ rest ∧ Fr g L' s₁.heap m' ∧ News g L' s₁.heap (wled ND σ ((S, oS) :: rest))) ∨
        (n = 0 ∧ ∃ σ m' oS2, s₀.heap.get? S = some oS2 ∧ s₀.heap.get? ND = some σ.oN ∧ WNew w ND σ0 σ rest ∧ (∀ p ∈ st.sub, σ.dom p.2) ∧ Fr g L' s₁.heap m' ∧ News g L' s₁.heap (wled ND σ ((S, oS2) :: rest)))
    | _ => False
def YG (w : World) (ND : Addr) (g : Heap) (L' : Addr) (st : CSt) (S : Addr) (oS : Obj) (rest : List (Addr × Obj)) (σ0 : WS) : Protocol := fun n s₀ v s₁ kap =>
  n = 0 ∧ s₁ = { s₀ with heap := s₁.heap, toks := s₁.toks } ∧ ∃ k y σ m', st.sub = [(k, y)] ∧ v = .ref (σ.X y) ∧ σ.dom y ∧ WNew w ND σ0 σ rest ∧ Fr g L' s₁.heap m' ∧ News g L' s₁.heap (wled ND σ ((S, oS) :: rest)) ∧
    ∀ s₂ oS2, s₂.heap.get? S = some oS2 → (∀ b o, b ≠ S → s₁.heap.get? b = some o → s₂.heap.get? b = some o) → kap (.send .none) s₂
def GenSeg (w : World) (ND : Addr) (base h₀ g : Heap) (L L' : Addr) (m m0 : Str → Option Value) (env : Env) (outer : List Env) (D : Addr) (row : List Wd) (zr : Nat) (code : Code) : Prop :=
  ∀ (dp un : Nat) (gd : Option (List PySem.Code)) (s₀ : Shared) (S : Addr) (oS : Obj) (rest : List (Addr × Obj)) (σ : WS),
    un + 3000 < cLine → dp + 80 < recursionLimit → Fr g L' s₀.heap m0 → News g L' s₀.heap ((D, W.listOf (refs σ.X row).toArray zr) :: wled ND σ ((S, oS) :: rest)) → WOk w ND σ → (∀ v ∈ row, σ.dom v) → σ.ks.length ≤ 700 →
    (∀ p ∈ (S, oS) :: rest, p.1 ≠ 580 ∧ p.1 ≠ ND) → (D ≠ 580 ∧ D ≠ ND) → (∀ p ∈ σ.G, p.1 ≠ S ∧ p.1 ≠ D) → (∀ p ∈ rest, p.1 ≠ S) → D ≠ S →
    Seg (model P6 w) (atN dp un gd env outer) (RG w ND base h₀ g L L' m (env :: outer) (cfin List.dropLast ⟨row, [], []⟩) S oS rest σ) (YG w ND g L' (cfin List.dropLast ⟨row, [], []⟩) S oS rest σ) 1 s₀ code ((model P6 w).den code) [] s₀
theorem WNew.weak {w : World} {ND : Addr} {σ τ : WS} {a b : List (Addr × Obj)} (h : WNew w ND σ τ a) (i : ∀ q ∈ b, q ∈ a) : WNew w ND σ τ b :=
  ⟨h.ok, h.ext, fun p hp => (h.new p hp).imp id fun k q hq => k q (i q hq)⟩
theorem wled_in {ND : Addr} {σ : WS} {x : Addr × Obj} {rest : List (Addr × Obj)} : ∀ q ∈ wled ND σ rest, q ∈ wled ND σ (x :: rest) := by
  intro q hq; simp only [List.mem_cons, List.mem_append] at hq ⊢; grind
theorem wled_mid {ND : Addr} {σ : WS} {x : Addr × Obj} {rest : List (Addr × Obj)} : ∀ q ∈ wled ND σ (x :: rest), q = x ∨ q ∈ wled ND σ rest := by
  intro q hq; simp only [List.mem_cons, List.mem_append] at hq ⊢; grind
theorem led_in0 {S T D a b x y z : Addr × Obj} {G r : List (Addr × Obj)} : ∀ q ∈ (a :: b :: (G ++ (S :: T :: D :: r))), q ∈ (x :: y :: z :: S :: T :: D :: a :: b :: (G ++ r)) := by
  intro q hq; simp only [List.mem_cons, List.mem_append] at hq ⊢; grind
theorem led_out0 {S T D a b : Addr × Obj} {G r : List (Addr × Obj)} : ∀ q ∈ (S :: T :: D :: a :: b :: (G ++ r)), q ∈ (a :: b :: (G ++ (S :: T :: D :: r))) := by
  intro q hq; simp only [List.mem_cons, List.mem_append] at hq ⊢; grind
set_option maxRecDepth 100000 in
set_option maxHeartbeats 8000000 in
theorem gen_spec (w : World) {ND : Addr} {mean : ExcName → Option Value} {mg mb : Str → Option Value} {D : Addr} {dp un : Nat} {gd : Option (List Code)} {env : Env} {outer : List Env} {A₀ : Around} {base h₀ : Heap} {L : Addr} {m : Str → Option Value}
    {row : List Wd} {rowv : List Value} {zr : Nat} {rest : List (Addr × Obj)} {s : Shared} {Q E : Value → Shared → Prop} {loose : List Str} {pgm : Program}
    (B : Below A₀ base outer h₀) (F : Fr h₀ L s.heap m) (XK : (hd.heap_39 w.params).In h₀) (N : News h₀ L s.heap ((D, W.listOf rowv.toArray zr) :: rest))
    (T : Top pgm loose mean mg mb h₀) (hfX : env.frame = some L) (hk : env.scope.kind = .function) (hlen : row.length ≤ 60) (CH : CodeHd h₀ 584 580) (hlo : (ND == sysModules) = false) (hlt : @LT.lt Nat _ 580 ND)
    (hdp : dp + 100 < recursionLimit) (hu : un + 4000 < cLine)
    (rS : ∀ g L' h1 t1 t2 tk1 m0 code, Fr h₀ L g m → Fr g L' h1 m0 → News g L' h1 ((D, W.listOf rowv.toArray zr) :: rest) → (∀ b o, s.heap.get? b = some o → h1.get? b = some o) → GenSeg w ND base h₀ g L L' m m0 env outer D row zr code →
      Q (.ref h1.objs.size) { s with gens := s.gens.push (.fresh code), heap := h1.push (genO s.gens.size (Str.ofString "_collapse_addresses_internal") (Str.ofString "_collapse_addresses_internal") t1 t2), toks := tk1 }) :
    wpAny (model P6 w) (atN dp un gd env outer) (call (.ref 28) [.ref D]) Q E s := by
  have hq : PySem.Challenge.rw_km0038_06 = PySem.Challenge.rw_km0038_06 ∧ hd.heap_39 = hd.heap_39 := ⟨rfl, rfl⟩
  revert hq
  k_fill
  intro hq
  w_on
  refine wpAny_call ?_
  k_dflt (refine' Mine.gen_def ?k1 ?k2 ?k3 ?k4 ?k5 ?kA ?kF ?kK ?k6 ?k7 ?k8 ?k9 ?kB ?_ ?c2 ?c3 ?c4 ?c5; (case kA => exact rfl); (case kF => exact hfX); (case kK => exact hk); (case k1 => k_asm); (case k2 => k_asm); (case k3 => k_asm); (case k4 => k_asm); (case k5 => k_asm); (case k6 => k_is); (case k7 => k_is); (case k8 => k_room); (case k9 => first | exact BindsTo.of_eq rfl | exact binds_K (by k_in) rfl (by k_is) rfl rfl rfl); (case c5 => decide); (case kB => exact locs rfl); (case c2 => exact rfl); (case c3 => exact rfl); (case c4 => exact rfl); k_whole; intro g' L' h1 t1 t2 tk1 FG' F1 N1 B' X' T' hkp hL'; (try dsimp only); (try k_lift B'); (try k_fold))
  refine rS g' L' h1 t1 t2 tk1 _ _ FG' F1 N1 hkp ?_
  clear hkp F1 N1 rS F N
  intro dp un gd s₀ S oS rest3 σ0 hun hdp2 F0 N0 O0 hrow hks hoff hDA hGS hoffS hDS
  have hrest : ∃ rest2, rest2 = (S, oS) :: rest3 := ⟨_, rfl⟩
  obtain ⟨rest2, hR2⟩ := hrest
  rw [← hR2] at N0 hoff
  have hoffSx : ∀ σ, WNew w ND σ0 σ rest2 → ∀ p ∈ wled ND σ rest3, p.1 ≠ S := by
    intro σ W
    have z1 : ND ≠ S := fun z => (hoff (S, oS) (by rw [hR2]; exact .head _)).2 z.symm
    have z2 : 580 ≠ S := fun z => (hoff (S, oS) (by rw [hR2]; exact .head _)).1 z.symm
    simp only [List.forall_mem_cons, List.forall_mem_append]
    refine ⟨z1, z2, fun p hp => ?_, hoffS⟩
    rcases W.new p hp with h | h
    · exact (hGS p h).1
    · exact (Nat.ne_of_lt (h (S, oS) (by rw [hR2]; exact .head _))).symm
  refine seg_func' ?_
  refine seg_stmt (wpAny_mono (E := fun _ _ => False) (?_ : wpAny _ (atN (dp + 1) (un + 3) gd (envOf (Str.ofString "_collapse_addresses_internal") _ L' 28 (Value.ref 27)) (env :: outer)) _ (fun f s' => _) _ _) (fun f s' h' => h') fun _ _ h' => h'.elim)
  w_strict k_steps
  rename And _ _ => lT
  refine seg_stmt (wpAny_mono (E := fun _ _ => False) (?_ : wpAny _ (atN (dp + 1) (un + 3) gd (envOf (Str.ofString "_collapse_addresses_internal") _ L' 28 (Value.ref 27)) (env :: outer)) _ (fun f s' => _) _ _) (fun f s' h' => h') fun _ _ h' => h'.elim)
  w_strict k_steps
  refine seg_stmt (wpAny_mono (E := fun _ _ => False) (?_ : wpAny _ (atN (dp + 1) (un + 3) gd (envOf (Str.ofString "_collapse_addresses_internal") _ L' 28 (Value.ref 27)) (env :: outer)) _ (fun f s' => _) _ _) (fun f s' h' => h') fun _ _ h' => h'.elim)
  rename Fr g' L' _ _ => F2
  rename News g' L' _ _ => N2
  rw [mf_start (by rfl) (by rfl) (by rfl)] at F2
  have F3 : ∃ m1, Fr g' L' _ (mf m1 _ _ none none none) := ⟨_, F2⟩
  clear F2
  obtain ⟨m1, F2⟩ := F3
  rename And _ _ => l1
  obtain ⟨SN, TM, eS, eT⟩ := two_names N2
  subst eS
  subst eT
  have rS1 : ∀ p ∈ rest2, @LT.lt Nat _ p.1 SN := fun p hp1 => allLt_get l1.2.2.2.2 p (List.mem_append_right _ hp1)
  have rT1 : ∀ p ∈ rest2, @LT.lt Nat _ p.1 TM := fun p hp1 => allLt_get lT.2.2.2 p (List.mem_append_right _ hp1)
  have off1 : ∀ (oT : Obj) (σ : WS), (∀ p ∈ σ.G, p.1 ≠ SN ∧ p.1 ≠ TM ∧ p.1 ≠ D) → ∀ p ∈ (TM, oT) :: (D, W.listOf (refs σ.X row).toArray zr) :: wled ND σ rest2, p.1 ≠ SN := by
    intro oT σ hG
    have z1 := Nat.ne_of_lt l1.1
    have z2 := Nat.ne_of_lt l1.2.1
    have z3 := Nat.ne_of_lt l1.2.2.1
    have z4 := Nat.ne_of_lt l1.2.2.2.1
    simp only [List.forall_mem_cons, List.forall_mem_append]
    exact ⟨z1, z2, z3, z4, fun p hp => (hG p hp).1, fun p hp => Nat.ne_of_lt (rS1 p hp)⟩
  have off2 : ∀ (σ : WS), (∀ p ∈ σ.G, p.1 ≠ SN ∧ p.1 ≠ TM ∧ p.1 ≠ D) → ∀ p ∈ (D, W.listOf (refs σ.X row).toArray zr) :: wled ND σ rest2, p.1 ≠ TM := by
    intro σ hG
    have z2 := Nat.ne_of_lt lT.1
    have z3 := Nat.ne_of_lt lT.2.1
    have z4 := Nat.ne_of_lt lT.2.2.1
    simp only [List.forall_mem_cons, List.forall_mem_append]
    exact ⟨z2, z3, z4, fun p hp => (hG p hp).2.1, fun p hp => Nat.ne_of_lt (rT1 p hp)⟩
  have hG0 : ∀ p ∈ σ0.G, p.1 ≠ SN ∧ p.1 ≠ TM ∧ p.1 ≠ D := fun p hp1 => ⟨Nat.ne_of_lt (allLt_get l1.2.2.2.2 p (List.mem_append_left _ hp1)), Nat.ne_of_lt (allLt_get lT.2.2.2 p (List.mem_append_left _ hp1)), (hGS p hp1).2⟩
  have hS5 : SN ≠ 580 ∧ SN ≠ ND := ⟨Nat.ne_of_gt l1.2.2.2.1, Nat.ne_of_gt l1.2.2.1⟩
  have hT5 : TM ≠ 580 ∧ TM ≠ ND := ⟨Nat.ne_of_gt lT.2.2.1, Nat.ne_of_gt lT.2.1⟩
  have hTS : @LT.lt Nat _ TM SN := l1.1
  clear l1 lT
  refine while_ind PassesOwn.never (Loop w ND g' L' m1 TM SN D row zr rest2 σ0 ⟨row, [], []⟩ s₀) ?turn (csize ⟨row, [], []⟩) ?start
  case start =>
    exact ⟨_, σ0, _, _, _, _, _, _, _, rfl, rfl, rfl, F2, N2, ⟨O0, Ext.refl _, fun p hp => .inl hp⟩, hrow, fun p hp => (nomatch hp), .nil, by simp only [csize, List.length_nil]; omega, fun p hp => (nomatch hp), hG0⟩
  case turn =>
    clear F2 N2
    intro n s' hI
    obtain ⟨st, σ, h4, tk4, on, os, oe, zt4, zs4, rfl, rfl, hfin, F4, N4, W4, htd, hsb, hnd, hl4, hkv, hGo⟩ := hI
    have O4 := W4.ok
    obtain ⟨todo, sub, asked4⟩ := st
    dsimp only at hfin N4 htd hsb hnd hl4 hkv
    have W3 : WNew w ND σ0 σ rest3 := W4.weak (by rw [hR2]; exact fun q hq => .tail _ hq)
    have hoffS2 : ∀ p ∈ wled ND σ rest3, p.1 ≠ S := hoffSx σ W4
    have hz1 : 2 * todo.length + sub.length + σ.ks.length ≤ 900 := by simp only [csize] at hl4; omega
    w_strict k_steps
    unfold Stop
    refine truthy_at N4 (.tail _ (.head _)) (by rw [List.size_toArray, List.length_map]; omega) fun tk5 => ?_
    rcases List.eq_nil_or_concat todo with rfl | ⟨p, v, rfl⟩
    · have hb : (!(refs σ.X ([] : List Wd)).toArray.isEmpty) = false := by simp
      rw [hb]
      dsimp only [WhlIf]
      w_strict k_steps
      rw [← hfin, cfin_done (by rfl)]
      refine seg_stmt (wpAny_mono (E := fun _ _ => False) (?_ : wpAny _ (atN (dp + 1) (un + 3) gd (envOf (Str.ofString "_collapse_addresses_internal") _ L' 28 (Value.ref 27)) (env :: outer)) _ (fun f s' => _) _ _) (fun f s' h' => h') fun _ _ h' => h'.elim)
      w_strict k_steps
      refine seg_execs_cons (seg_For ?_)
      show wpAny _ (atN (dp + 1) (un + 3) gd (envOf (Str.ofString "_collapse_addresses_internal") _ L' 28 (Value.ref 27)) (env :: outer)) _ _ _ _
      w_strict k_steps
      unfold Stop
      rename Fr g' L' _ _ => F30
      rename News g' L' _ _ => N30
      refine getMethod_builtin ⟨_, (N30 _ (.head _)).1, rfl⟩ PySem.F.plainAttrs_dict PySem.F.slot_dict_values PySem.F.type_dict_values (fun a e => by cases e; exact ⟨_, (N30 _ (.head _)).1, rfl⟩) ?_
      w_strict k_steps
      unfold Stop
      have hD30 : DictHas _ SN (ents σ.ha (pairs σ.X sub)).toArray zs4 := ⟨_, (N30 _ (.head _)).1, rfl, rfl⟩
      refine values_view hD30 (by assumption) ?_
      have N31 := News.push F30 N30 { cls := .type "dict_values", data := .fields #[.ref SN] } rfl
      have F31 := F30.push { cls := .type "dict_values", data := .fields #[.ref SN] }
      have hlt31 : ∀ q ∈ (SN, dictOf (ents σ.ha (pairs σ.X sub)) zs4) :: (TM, W.listOf (refs σ.X []).toArray zt4) :: (D, W.listOf (refs σ.X row).toArray zr) :: wled ND σ rest2, @LT.lt Nat _ q.1 _ := fun q hq => Heap.lt_size (N30 q hq).1
      clear F30 hD30
      dsimp only at F31 N31 hlt31 ⊢
      w_strict k_steps
      unfold Stop
      refine kdu_sorted (src_values (es := (ents σ.ha (pairs σ.X sub)).toArray) (ep := zs4) (d := SN)) (by rfl) F31 N31 ⟨⟨_, (N31 _ (.head _)).1, rfl, rfl⟩, ⟨_, (N31 _ (.tail _ (.head _))).1, rfl, rfl⟩⟩ (by rw [ents_size, List.length_map, sizeLine_eq]; omega) fun B h32 tk32 vs F32 N32 l32 hl32 hv32 => ?_
      have evs := vals_eq hl32 hv32
      subst evs
      clear hl32 hv32 F31 N31 N30
      have off32 := fun p hp => Nat.ne_of_lt (l32 p hp)
      obtain ⟨LED, hLED, N33⟩ := tail_name N32
      rw [← hLED] at off32
      have k7 : ∀ q ∈ σ.G, q ∈ LED := by rw [hLED]; exact fun q hq => .tail _ (.tail _ (.tail _ (.tail _ (.tail _ (.tail _ (List.mem_append_left _ hq))))))
      have k8 : ∀ q ∈ wled ND σ rest2, q ∈ LED := by rw [hLED]; exact fun q hq => .tail _ (.tail _ (.tail _ (.tail _ hq)))
      clear N32
      rcases sub with _ | ⟨p1, _ | ⟨p2, more⟩⟩
      · simp only [List.map_nil] at N33
        refine sort_small F32 N33 off32 (by simp) fun h34 n34 F34 N34 => ?_
        refine wpAny_pyIter_list (News.isList N34 (.head _)) ?_
        obtain ⟨N35, off35⟩ := iter_new (l := B) F34 N34
        have F35 := F34.push { cls := .type "list_iterator", data := .fields #[.ref B, .int 0 0] }
        intro pz
        refine seg_turn ?_
        refine wpAny_pyNext_list_end rfl (iter_at N35 rfl rfl) (News.isList N35 (.tail _ (.head _))) (by simp) fun h44 he44 => ?_
        obtain ⟨F45, N45⟩ := iter_end F35 N35 off35 he44
        dsimp only
        refine seg_block_end ?_
        dsimp only
        refine seg_execs_nil ?_
        refine seg_returns ?_
        exact ⟨rfl, .inl ⟨rfl, rfl, σ, _, W3, F45, fun q hq => N45 q (.tail _ (k8 q (by rw [hR2]; exact hq)))⟩⟩
      · simp only [List.map_cons, List.map_nil] at N33
        refine sort_small F32 N33 off32 (by simp) fun h34 n34 F34 N34 => ?_
        refine wpAny_pyIter_list (News.isList N34 (.head _)) ?_
        obtain ⟨N35, off35⟩ := iter_new (l := B) F34 N34
        have F35 := F34.push { cls := .type "list_iterator", data := .fields #[.ref B, .int 0 0] }
        intro pz
        refine seg_turn ?_
        refine wpAny_pyNext_list_item (iter_at N35 rfl rfl) (News.isList N35 (.tail _ (.head _))) (x := .ref (σ.X p1.2)) (by simp) fun h36 hit36 hs36 => ?_
        obtain ⟨oI, oI1, oI2, F36, N36⟩ := iter_step F35 N35 off35 hit36 hs36
        clear F34 N34 F35 N35 hit36 hs36
        dsimp only
        show wpAny _ (atN (dp + 1) (un + 3) gd (envOf (Str.ofString "_collapse_addresses_internal") _ L' 28 (Value.ref 27)) (env :: outer)) _ _ _ _
        w_strict k_steps
        refine seg_stmt (wpAny_mono (E := fun _ _ => False) (?_ : wpAny _ (atN (dp + 1) (un + 3) gd (envOf (Str.ofString "_collapse_addresses_internal") _ L' 28 (Value.ref 27)) (env :: outer)) _ (fun f s' => _) _ _) (fun f s' h' => h') fun _ _ h' => h'.elim)
        w_strict k_steps
        refine seg_execs_cons (seg_Expr_Yield (by rfl) (by rfl) (by rfl) ?_)
        show wpAny _ (atN (dp + 1) (un + 3) gd (envOf (Str.ofString "_collapse_addresses_internal") _ L' 28 (Value.ref 27)) (env :: outer)) _ _ _ _
        w_strict k_steps
        rename_i kap hkap
        rename Fr g' L' _ _ => F38
        rename News g' L' _ _ => N38
        have k9 : ∀ q ∈ wled ND σ ((S, oS) :: rest3), q ∈ LED := by rw [← hR2]; exact k8
        have hSm : (S, oS) ∈ LED := k9 _ (.tail _ (.tail _ (List.mem_append_right _ (.head _))))
        have hSB : S ≠ B := off32 _ hSm
        have hSI := off35 _ (.tail _ hSm)
        have N39 := N38.perm (fun q hq => .tail _ (.tail _ (k9 q hq)))
        refine ⟨rfl, rfl, p1.1, p1.2, σ, _, rfl, rfl, (hsb p1 (.head _)).2, W3, F38, N39, fun s₂ oS2 hS2 hk2 => hkap .none s₂ ?_⟩
        dsimp only at hk2 N39 F38
        have F40 := fr_but F38 (N38 _ (.tail _ (.tail _ hSm))).2.1 (N38 _ (.tail _ (.tail _ hSm))).2.2 hk2
        have N40a := N38.perm (news' := (S, oS) :: (_, oI) :: (B, W.listOf [Value.ref (σ.X p1.2)].toArray n34) :: wled ND σ rest3) (fun q hq => by
          rcases List.mem_cons.mp hq with rfl | hq
          · exact .tail _ (.tail _ hSm)
          rcases List.mem_cons.mp hq with rfl | hq
          · exact .head _
          rcases List.mem_cons.mp hq with rfl | hq
          · exact .tail _ (.head _)
          exact .tail _ (.tail _ (k9 _ (wled_in q hq))))
        have N40 := news_but N40a (by
          intro p hp
          rcases List.mem_cons.mp hp with rfl | hp
          · exact fun z => hSI z.symm
          rcases List.mem_cons.mp hp with rfl | hp
          · exact fun z => hSB z.symm
          exact hoffS2 p hp) hS2 hk2
        have hND : s₂.heap.get? ND = some σ.oN := (N40 _ (.tail _ (.tail _ (.tail _ (.head _))))).1
        clear N40a N39 N38 F38
        dsimp only
        refine seg_stmt (wpAny_mono (E := fun _ _ => False) (?_ : wpAny _ (atN (dp + 1) (un + 3) gd (envOf (Str.ofString "_collapse_addresses_internal") _ L' 28 (Value.ref 27)) (env :: outer)) _ (fun f s' => _) _ _) (fun f s' h' => h') fun _ _ h' => h'.elim)
        w_strict k_steps
        rename Fr g' L' _ _ => F42
        rename News g' L' _ _ => N42
        have N43 := N42.perm (news' := (_, oI) :: (B, W.listOf [Value.ref (σ.X p1.2)].toArray n34) :: wled ND σ ((S, oS2) :: rest3)) (fun q hq => by
          rcases List.mem_cons.mp hq with rfl | hq
          · exact .tail _ (.head _)
          rcases List.mem_cons.mp hq with rfl | hq
          · exact .tail _ (.tail _ (.head _))
          rcases wled_mid q hq with rfl | hq
          · exact .head _
          exact .tail _ (.tail _ (.tail _ hq)))
        refine seg_execs_nil ?_
        refine seg_again (by rfl) ?_
        refine seg_turn ?_
        refine wpAny_pyNext_list_end rfl (iter_at N43 oI1 oI2) (News.isList N43 (.tail _ (.head _))) (by simp) fun h44 he44 => ?_
        obtain ⟨F45, N45⟩ := iter_end F42 N43 (by
          intro q hq
          rcases List.mem_cons.mp hq with rfl | hq
          · exact off35 _ (.head _)
          rcases wled_mid q hq with rfl | hq
          · exact hSI
          exact off35 _ (.tail _ (k9 _ (wled_in q hq)))) he44
        dsimp only
        refine seg_block_end ?_
        dsimp only
        refine seg_execs_nil ?_
        refine seg_returns ?_
        exact ⟨rfl, .inr ⟨rfl, σ, _, oS2, hS2, hND, W3, fun p hp => (hsb p hp).2, F45, fun q hq => N45 q (.tail _ hq)⟩⟩
      · simp only [List.map_cons] at N33
        have hp1 := (hsb p1 (.head _)).2
        have hp2 := (hsb p2 (.tail _ (.head _))).2
        have hne : p2.2 ≠ p1.2 := by
          intro z
          have z1 := hkv p1 (.head _)
          have z2 := hkv p2 (.tail _ (.head _))
          rw [z, z1] at z2
          simp [z2] at hnd
        have hc7 : ∀ v, σ.dom v → ∃ d, (σ.X v, instObj 556 d) ∈ LED := fun v hv => by
          obtain ⟨d, _, _, _, _, _, _, _, _, y1, -⟩ := O4.at' hv
          exact ⟨d, k7 _ y1⟩
        have hl1 := code_lt (O4.len hp1)
        have hl2 := code_lt (O4.len hp2)
        have hw1 := O4.len hp1
        have hw2 := O4.len hp2
        have hcn : code p2.2 ≠ code p1.2 := fun z => hne (code_inj z)
        obtain ⟨dx, qx, pm, ctv, a1, a2, o1, o2, tv, x1, x2, ex1, ex2, ex3, x3, -⟩ := O4.at' hp2
        obtain ⟨dy, qy, pm', ctv', a1', a2', o1', o2', tv', y1, y2, ey1, ey2, ey3, y3, -⟩ := O4.at' hp1
        have hml : more.length ≤ 900 := by simp only [List.length_cons] at hz1; omega
        refine' sort_raise (K := hd.heap_39 w.params) (C := 556) (flt := 340) (a := σ.X p2.2) (base := base) (cls := .type "TypeError") (oa := instObj 556 dx) (od := some (netD w.params qx)) ?ru F32 N33 off32 ?rz X' ?rc ?rI ?rs ?rf ?rl ?re
        case ru => ktr_units
        case rs => k_is
        case rf => k_is
        case rz => rw [List.length_map]; omega
        case rc =>
          intro v hv
          have hh : ∃ q ∈ p1 :: p2 :: more, v = Value.ref (σ.X q.2) := by
            have : v ∈ (p1 :: p2 :: more).map (fun p => Value.ref (σ.X p.2)) := hv
            obtain ⟨q, hq, e⟩ := List.mem_map.mp this
            exact ⟨q, hq, e.symm⟩
          obtain ⟨q, hq, rfl⟩ := hh
          obtain ⟨d, hd⟩ := hc7 q.2 (hsb q hq).2
          exact ⟨_, _, rfl, hd, rfl⟩
        case rI => exact fun h hh => ⟨hh _ (k7 _ x1), rfl, rfl, hh _ (k7 _ x2)⟩
        case rl =>
          intro e1 s E F N k
          exact lt_spec w B' F X' (add_two (add_two N (.tail _ (k7 _ y1)) (.tail _ (k7 _ y2))) (.tail _ (.tail _ (.tail _ (k7 _ x1)))) (.tail _ (.tail _ (.tail _ (k7 _ x2))))) T' (by rfl) (by rfl) (by omega) (by omega) (by omega) (by omega) (by omega) (by omega) (by omega) (by omega) (by omega) (by ktr_room) (by ktr_units) fun ex h' tk' R => k ex h' tk' (raised_mono R fun q hq => .tail _ (.tail _ (.tail _ (.tail _ hq))))
        case re =>
          intro ex h' tk' R
          obtain ⟨G, FG, RS, hU, _⟩ := R
          refine seg_raises ?_
          refine leave_onSN (A := atN dp un gd env outer) (g := g') ⟨rfl, B'.stays, B'.frames⟩ FG RS hU fun h9 R9 _ U9 => ?_
          refine ⟨rfl, rfl, by simp, ex, σ, rfl, W3, raised_mono ⟨g', FG', R9, U9, fun b hb => ?_⟩ (by rw [← hR2]; exact k8)⟩
          obtain ⟨_, o, ho, _⟩ := B'.frames.mem hb
          exact ⟨o, ho⟩
    · have hb : (!(refs σ.X (p ++ [v])).toArray.isEmpty) = true := by simp
      simp only [List.concat_eq_append] at *
      rw [hb]
      dsimp only [WhlIf]
      w_strict k_steps
      unfold Stop
      have er : refs σ.X (p ++ [v]) = refs σ.X p ++ [Value.ref (σ.X v)] := by simp [refs]
      rw [er] at N4
      have hv : σ.dom v := htd v (by simp)
      have hp12 : ∀ u ∈ p, σ.dom u := fun u hu => htd u (by simp [hu])
      have hpl : p.length + 1 ≤ 450 := by simp at hz1; omega
      refine pop_at (p := refs σ.X p) (y := .ref (σ.X v)) F4 N4 (.tail (Nat.ne_of_gt hTS) (.head (off2 _ hGo))) (by rw [List.length_map]; omega) fun h6 F6 N6 => ?_
      clear F4 N4
      obtain ⟨d, q, pm, ctv, a1, a2, o1, o2, tv, i1, i2, e1, e2, e3, i3, ⟨i4, g4⟩, i5, g5⟩ := O4.at' hv
      have hvl := O4.len hv
      have hcl := code_lt hvl
      have N7 : News g' L' h6 ((q.f, lamO pm σ.c0 ctv a1 a2) :: (σ.X v, instObj 556 d) :: (d, netD w.params q) :: (SN, dictOf (ents σ.ha (pairs σ.X sub)) zs4) :: (TM, W.listOf (refs σ.X p).toArray (zt4 + 1)) :: (D, W.listOf (refs σ.X row).toArray zr) :: wled ND σ rest2) := by
        refine N6.perm fun q hq => ?_
        have k : ∀ q ∈ σ.G, q ∈ (SN, dictOf (ents σ.ha (pairs σ.X sub)) zs4) :: (TM, W.listOf (refs σ.X p).toArray (zt4 + 1)) :: (D, W.listOf (refs σ.X row).toArray zr) :: wled ND σ rest2 := fun q hq => .tail _ (.tail _ (.tail _ (.tail _ (.tail _ (List.mem_append_left _ hq)))))
        rcases List.mem_cons.mp hq with rfl | hq
        · exact k _ i3
        rcases List.mem_cons.mp hq with rfl | hq
        · exact k _ i1
        rcases List.mem_cons.mp hq with rfl | hq
        · exact k _ i2
        exact hq
      clear N6
      w_strict k_steps
      unfold Stop
      rename Fr g' L' _ _ => F7
      rename News g' L' _ _ => N8
      (try dsimp only [List.nil_append])
      have N9 : News g' L' _ (wled ND σ ((SN, dictOf (ents σ.ha (pairs σ.X sub)) zs4) :: (TM, W.listOf (refs σ.X p).toArray (zt4 + 1)) :: (D, W.listOf (refs σ.X row).toArray zr) :: rest2)) := N8.perm led_in0
      clear N8
      have hoff5 : ∀ p_1 ∈ (SN, dictOf (ents σ.ha (pairs σ.X sub)) zs4) :: (TM, W.listOf (refs σ.X p).toArray (zt4 + 1)) :: (D, W.listOf (refs σ.X row).toArray zr) :: rest2, p_1.1 ≠ 580 ∧ p_1.1 ≠ ND := by
        simp only [List.forall_mem_cons]
        exact ⟨hS5, hT5, hDA, hoff⟩
      refine sup06 (y := 0) w B' F7 X' N9 O4 hlo hvl (by omega) (O4.code' hv) i3 i4 i5 g4 g5 T' (by rfl) (by rfl) (CodeHd.keeps CH (Fr.keep FG')) hoff5 hlt ?dp ?un ?rS
      case dp => ktr_room
      case un => ktr_units
      intro h10 tk10 τ xu F10 N10 O10 E10 hlu hkl gn10
      clear F7 N9 hoff5
      dsimp only

      w_strict k_steps
      unfold Stop
      rename Fr g' L' _ _ => F11
      rename News g' L' _ _ => N11
      generalize hu9 : List.dropLast v = u at *
      have hux : τ.X u = xu := by rw [WS.X, hlu]; rfl
      have hud : τ.dom u := ⟨xu, hlu⟩
      subst hux
      have hGo' : ∀ p ∈ τ.G, p.1 ≠ SN ∧ p.1 ≠ TM ∧ p.1 ≠ D := by
        intro p hp1
        rcases gn10 p hp1 with h | h
        · exact hGo p h
        · exact ⟨(Nat.ne_of_lt (h _ (.head _))).symm, (Nat.ne_of_lt (h _ (.tail _ (.head _)))).symm, (Nat.ne_of_lt (h _ (.tail _ (.tail _ (.head _))))).symm⟩
      have W10 : WNew w ND σ0 τ rest2 := ⟨O10, W4.ext.trans E10, fun p hp1 => by
        rcases gn10 p hp1 with h | h
        · exact W4.new p h
        · exact .inr fun q hq => h q (.tail _ (.tail _ (.tail _ hq)))⟩
      have Hσ := W4.ext
      clear gn10 hGo W4
      replace hp12 : ∀ u ∈ p, τ.dom u := fun u hu => E10.dom (hp12 u hu)
      have hrow' : ∀ v ∈ row, τ.dom v := fun v hv => W10.ext.dom (hrow v hv)
      have hrwx : refs σ.X row = refs τ.X row := refs_ext E10 fun v hv => Hσ.dom (hrow v hv)
      have hpx : refs σ.X p = refs τ.X p := refs_ext E10 fun v hv => htd v (by simp [hv])
      have hex := ents_ext E10 O4 O10 hsb
      have hvx := E10.X hv
      have hvd := E10.dom hv
      replace hsb : ∀ p ∈ sub, τ.dom p.1 ∧ τ.dom p.2 := fun p hp1 => ⟨E10.dom (hsb p hp1).1, E10.dom (hsb p hp1).2⟩
      obtain ⟨d', q', pm', ctv', a1', a2', o1', o2', tv', i1', i2', e1', e2', e3', i3', -⟩ := O10.at' hud
      have hul := O10.len hud
      have hcu := code_lt hul
      have j1 := E10.G _ i1
      have j2 := E10.G _ i2
      have N12 := N11.perm (led_out0 (r := rest2))
      clear N11
      rw [← hvx] at F11 j1
      rw [hex, hpx, hrwx] at N12
      refine getMethod_builtin ⟨_, (N12 _ (.head _)).1, rfl⟩ PySem.F.plainAttrs_dict PySem.F.slot_dict_get PySem.F.type_dict_get (fun a e => by cases e; exact ⟨_, (N12 _ (.head _)).1, rfl⟩) ?_
      w_strict k_steps
      unfold Stop
      dsimp only [List.cons_append, List.nil_append]
      have k6 : ∀ q ∈ τ.G, q ∈ (SN, dictOf (ents τ.ha (pairs τ.X sub)) zs4) :: (TM, W.listOf (refs τ.X p).toArray (zt4 + 1)) :: (D, W.listOf (refs τ.X row).toArray zr) :: wled ND τ rest2 := fun q hq => .tail _ (.tail _ (.tail _ (.tail _ (.tail _ (List.mem_append_left _ hq)))))
      have N13 := add_two N12 (k6 _ i1') (k6 _ i2')
      clear N12
      have hH : ∀ q ∈ pairs τ.X sub, τ.ha q.1 = τ.ha (τ.X u) → q.1 = τ.X u := by
        intro q hq e
        obtain ⟨z, hz, rfl⟩ := List.mem_map.mp hq
        have hz1 := (hsb z hz).1
        have e' : hp ((code z.1 : Nat) : Int) 0 = hp ((code u : Nat) : Int) 0 := by rw [← O10.ha_X hz1, ← O10.ha_X hud]; exact e
        show τ.X z.1 = τ.X u
        rw [code_inj (hp_inj8 (code_lt (O10.len hz1)) hcu e')]
      have hr : -2 ^ 63 ≤ τ.ha (τ.X u) ∧ τ.ha (τ.X u) < 2 ^ 63 ∧ τ.ha (τ.X u) ≠ -1 := by rw [O10.ha_X hud]; exact hp_ok8 hcu
      have hnp := pairs_nodup O10.inj hsb hnd
      refine get_ref (H := τ.ha) (K := hd.heap_39 w.params) (C := 556) (f := 354) (k := τ.X u) ?hu F11 N13 X' (InstAt.of_news N13 (.head _) (.tail _ (.head _))) ?hs ?hf hr ?hc (.tail _ (.tail _ (.head _))) (by assumption) hnp hH ?hk
      case hu => ktr_units
      case hs => k_is
      case hf => k_is
      case hc =>
        intro s Q E F N k
        rw [O10.ha_X hud, ← e2'] at k
        exact hash_spec w B' F X' N T' (by rfl) (by rfl) (by ktr_room) (by ktr_units) (fun h' tk' t' F' N' => k h' tk' t' F' N')
      intro h14 tk14 F14 N14
      clear F11 N13
      rw [pairs_lookup O10.inj hud hsb]
      dsimp only
      cases hsl : sub.lookup u with
      | none =>
        simp only [Option.map_none, Option.getD_none]
        w_strict k_steps
        unfold Stop
        rename Fr g' L' _ _ => F15
        rename News g' L' _ _ => N15
        refine set_ref (H := τ.ha) (K := hd.heap_39 w.params) (C := 556) (f := 354) (k := τ.X u) ?shu F15 (drop_two N15) (off1 _ _ hGo') X' (InstAt.of_news N15 (.head _) (.tail _ (.head _))) ?shs ?shf hr ?shc hnp hH ?shz (pairs_notin O10.inj hud hsb hsl) ?shk
        case shu => ktr_units
        case shs => k_is
        case shf => k_is
        case shz => rw [List.length_map]; omega
        case shc =>
          intro s Q E F N k
          rw [O10.ha_X hud, ← e2'] at k
          exact hash_spec w B' F X' (add_two N (k6 _ i1') (k6 _ i2')) T' (by rfl) (by rfl) (by ktr_room) (by ktr_units) (fun h' tk' t' F' N' => k h' tk' t' F' (drop_two N'))
        intro h16 tk16 F16 N16
        clear F15 N15
        rw [show pairs τ.X sub ++ [(τ.X u, Value.ref (τ.X v))] = pairs τ.X (sub ++ [(u, v)]) by simp [pairs]] at N16
        w_strict k_steps
        unfold Stop
        rename Fr g' L' _ _ => F17
        rw [mf_turn] at F17
        have hst := cstep_none (p := p) (a := asked4) hu9 hsl
        have hnil : (CSt.mk (p ++ [v]) sub asked4).todo ≠ [] := by simp
        have hless := cstep_less (hs := List.dropLast) hnil
        rw [hst] at hless
        refine ⟨_, hless, ⟨p, sub ++ [(u, v)], asked4 ++ [v]⟩, τ, _, _, _, _, _, _, _, rfl, rfl, ?_, F17, N16, W10, hp12, ?_, ?_, ?_, ?_, hGo'⟩
        · rw [← hst, cfin_step hnil]; exact hfin
        · intro q hq
          rcases List.mem_append.mp hq with hq | hq
          · exact hsb q hq
          · rw [List.mem_singleton.mp hq]; exact ⟨hud, hvd⟩
        · simp only [List.map_append, List.map_cons, List.map_nil]
          refine List.nodup_append.mpr ⟨hnd, by simp, ?_⟩
          intro x hx y hy
          rw [List.mem_singleton.mp hy]
          rintro rfl
          obtain ⟨q, hq, hq1⟩ := List.mem_map.mp hx
          have := List.lookup_eq_none_iff.mp hsl q hq
          simp [hq1] at this
        · simp only [csize, List.length_append, List.length_singleton] at hl4 ⊢; omega
        · intro q hq
          rcases List.mem_append.mp hq with hq | hq
          · exact hkv q hq
          · rw [List.mem_singleton.mp hq]; exact hu9
      | some e =>
        simp only [Option.map_some, Option.getD_some]
        have he : τ.dom e := (hsb _ (lookup_mem hsl)).2
        w_strict k_steps
        unfold Stop
        rename Fr g' L' _ _ => F18
        rename News g' L' _ _ => N18
        obtain ⟨de, qe, pe, ce, b1, b2, q1, q2, te, y1, y2, ye1, ye2, ye3, y3, -⟩ := O10.at' he
        have N19 := add_two (add_two (drop_two N18) (k6 _ j1) (k6 _ j2)) (.tail _ (.tail _ (k6 _ y1))) (.tail _ (.tail _ (k6 _ y2)))
        refine cmp_ofNotEq (ne_ref (K := hd.heap_39 w.params) (C := 556) (f := 347) ?eu F18 X' (InstAt.of_news N19 (.head _) (.tail _ (.head _))) (InstAt.type (InstAt.of_news N19 (.tail _ (.tail _ (.head _))) (.tail _ (.tail _ (.tail _ (.head _)))))) ?en ?es ?ee ?ef ?eq)
        case eu => ktr_units
        case en => k_is
        case es => k_is
        case ee => k_is
        case ef => k_is
        refine eq_spec w B' F18 X' N19 T' (by rfl) (by rfl) (by ktr_room) (by ktr_units) fun h20 tk20 F20 N20 => ⟨_, rfl, ?_⟩
        clear F18 N18 N19
        replace N20 := drop_two (drop_two N20)
        by_cases hev : e = v
        · rw [show (!decide (qe.n = q.n)) = false by rw [ye2, e2, hev]; simp]
          w_strict k_steps
          unfold Stop
          rename Fr g' L' _ _ => F17
          rw [mf_turn] at F17
          have hst := cstep_same (p := p) (a := asked4) hu9 (hev ▸ hsl)
          have hnil : (CSt.mk (p ++ [v]) sub asked4).todo ≠ [] := by simp
          have hless := cstep_less (hs := List.dropLast) hnil
          rw [hst] at hless
          refine ⟨_, hless, ⟨p, sub, asked4 ++ [v]⟩, τ, _, _, _, _, _, _, _, rfl, rfl, ?_, F17, N20, W10, hp12, hsb, hnd, ?_, hkv, hGo'⟩
          · rw [← hst, cfin_step hnil]; exact hfin
          · simp only [csize, List.length_append, List.length_singleton] at hl4 ⊢; omega
        · rw [show (!decide (qe.n = q.n)) = true by rw [ye2, e2]; simp only [Bool.not_eq_true', decide_eq_false_iff_not]; exact fun z => hev (code_inj (Int.ofNat.inj z))]
          w_strict k_steps
          unfold Stop
          rename Fr g' L' _ _ => F21
          rename News g' L' _ _ => N21
          refine del_ref (H := τ.ha) (K := hd.heap_39 w.params) (C := 556) (f := 354) (k := τ.X u) (u := .ref (τ.X e)) ?du F21 N21 (off1 _ _ hGo') X' (InstAt.of_news (add_two N21 (k6 _ i1') (k6 _ i2')) (.head _) (.tail _ (.head _))) ?ds ?df hr ?dc hnp hH ?dz ?dl ?dk
          case du => ktr_units
          case ds => k_is
          case df => k_is
          case dz => rw [List.length_map]; omega
          case dl => rw [pairs_lookup O10.inj hud hsb, hsl]; rfl
          case dc =>
            intro s Q E F N k
            rw [O10.ha_X hud, ← e2'] at k
            exact hash_spec w B' F X' (add_two N (k6 _ i1') (k6 _ i2')) T' (by rfl) (by rfl) (by ktr_room) (by ktr_units) (fun h' tk' t' F' N' => k h' tk' t' F' (drop_two N'))
          intro h22 tk22 F22 N22
          clear F21 N21
          rw [pairs_filter O10.inj hud hsb] at N22
          w_strict k_steps
          unfold Stop
          dsimp only [List.cons_append, List.nil_append]
          refine append_K F22 N22 (.tail (Nat.ne_of_gt hTS) (.head (off2 _ hGo'))) ?ak ?az
          case az => rw [List.size_toArray, List.length_map, sizeLine_eq]; omega
          intro h24 F24 N24
          rw [show (refs τ.X p).toArray.push (Value.ref (τ.X u)) = (refs τ.X (p ++ [u])).toArray by simp [refs]] at N24
          w_strict k_steps
          unfold Stop
          rename Fr g' L' _ _ => F17
          rw [mf_turn] at F17
          have hst := cstep_other (p := p) (a := asked4) hu9 hsl hev
          have hnil : (CSt.mk (p ++ [v]) sub asked4).todo ≠ [] := by simp
          have hless := cstep_less (hs := List.dropLast) hnil
          rw [hst] at hless
          refine ⟨_, hless, ⟨p ++ [u], sub.filter (fun q => q.1 != u), asked4 ++ [v]⟩, τ, _, _, _, _, _, _, _, rfl, rfl, ?_, F17, N24, W10, ?_, ?_, ?_, ?_, fun q hq => hkv q (List.mem_filter.mp hq).1, hGo'⟩
          · rw [← hst, cfin_step hnil]; exact hfin
          · intro q hq
            rcases List.mem_append.mp hq with hq | hq
            · exact hp12 q hq
            · rw [List.mem_singleton.mp hq]; exact hud
          · exact fun q hq => hsb q (List.mem_filter.mp hq).1
          · exact hnd.sublist (List.Sublist.map _ List.filter_sublist)
          · have := lookup_len hsl
            simp only [csize, List.length_append, List.length_singleton] at hl4 ⊢; omega
end Mine
end
section
open PySem PySem.W PyProof.Rows
local macro_rules | `(tactic| k_room) => `(tactic| ktr_room)
local macro_rules | `(tactic| k_units) => `(tactic| ktr_units)
namespace Mine
theorem back_news {h₀ g h : Heap} {L L' : Addr} {m m' : Str → Option Value} {news : List (Addr × Obj)} (FG : Fr h₀ L g m) (F : Fr g L' h m') (N : News g L' h news) : Fr h₀ L h m ∧ News h₀ L h news := by
  obtain ⟨oL, es, ep, hL, r⟩ := FG.ns
  refine ⟨⟨⟨oL, es, ep, F.keep _ _ hL, r⟩, fun b o e => F.keep b o (FG.keep b o e), FG.above⟩, fun p hp => ⟨(N p hp).1, fun q => ?_, ?_⟩⟩
  · have := (N p hp).2.2; rw [q, hL] at this; cases this
  · cases q : h₀.get? p.1 with
    | none => rfl
    | some o => have := (N p hp).2.2; rw [FG.keep _ _ q] at this; cases this
theorem pairs_same {prog : Program} {w : World} {K : Type} [DecidableEq K] {knd : PySem.KeyKind prog w K} : ∀ {es : List DictEntry} {k1 k2 : List (K × Value)}, Pairs knd es k1 → Pairs knd es k2 → k1 = k2
  | _, _, _, .nil, .nil => rfl
  | _, _, _, .cons (kv := a) h1 e1 r1, .cons (kv := b) h2 e2 r2 => by
    have := pairs_same r1 r2
    subst this
    have hk := knd.inj _ _ _ h1 h2
    obtain ⟨a1, a2⟩ := a
    obtain ⟨b1, b2⟩ := b
    dsimp only at hk e1 e2
    rw [hk, ← e1, ← e2]
theorem X_same {w : World} {ND : Addr} {σ τ : WS} (O : WOk w ND σ) (O' : WOk w ND τ) (e : σ.oN = τ.oN) {v : Wd} : σ.X v = τ.X v := by
  obtain ⟨es, ep, _, h1, _, h2, _⟩ := O.dict
  obtain ⟨es', ep', _, h1', _, h2', _⟩ := O'.dict
  rw [e, h1'] at h1
  cases h1
  have hk := pairs_same h2 h2'
  have a1 := kvs_look (ks := σ.ks) (v := v)
  have a2 := kvs_look (ks := τ.ks) (v := v)
  rw [hk, a2] at a1
  unfold WS.X
  cases q : σ.ks.lookup v <;> cases z : τ.ks.lookup v <;> rw [q, z] at a1 <;> simp at a1
  · rw [a1]
theorem led_gen {S D a b : Addr × Obj} {G r : List (Addr × Obj)} : ∀ q ∈ (D :: a :: b :: (G ++ (S :: r))), q ∈ (S :: D :: a :: b :: (G ++ r)) := by
  intro q hq; simp only [List.mem_cons, List.mem_append] at hq ⊢; grind
theorem led_back {S a b g : Addr × Obj} {G r : List (Addr × Obj)} : ∀ q ∈ (S :: a :: b :: (G ++ r)), q ∈ (a :: b :: (G ++ (S :: g :: r))) := by
  intro q hq; simp only [List.mem_cons, List.mem_append] at hq ⊢; grind
set_option maxRecDepth 100000 in
set_option maxHeartbeats 4000000 in
theorem list_spec (w : World) {ND : Addr} {σ : WS} {mean : ExcName → Option Value} {mg mb : Str → Option Value} {D ga : Addr} {gi : Nat} {dp un : Nat} {gd : Option (List Code)} {env : Env} {outer : List Env} {base h₀ g : Heap} {L L' : Addr} {m m0 : Str → Option Value}
    {row : List Wd} {zr : Nat} {rest : List (Addr × Obj)} {s : Shared} {Q E : Value → Shared → Prop} {loose : List Str} {pgm : Program} {code : Code} {t1 t2 : Tok} {nm qn : Str}
    (FG : Fr h₀ L g m) (F : Fr g L' s.heap m0) (T : Top pgm loose mean mg mb g) (N : News g L' s.heap ((D, W.listOf (refs σ.X row).toArray zr) :: wled ND σ ((ga, genO gi nm qn t1 t2) :: rest)))
    (G : GenSeg w ND base h₀ g L L' m m0 env outer D row zr code) (hgs : s.gens[gi]? = some (.fresh code)) (O : WOk w ND σ) (hrow : ∀ v ∈ row, σ.dom v) (hks : σ.ks.length ≤ 700)
    (hoff : ∀ p ∈ (ga, genO gi nm qn t1 t2) :: rest, p.1 ≠ 580 ∧ p.1 ≠ ND) (hDA : D ≠ 580 ∧ D ≠ ND) (hGD : ∀ p ∈ σ.G, p.1 ≠ D)
    (hdp : dp + 100 < recursionLimit) (hu : un + 4000 < cLine)
    (one : ∀ k y S h' tk' τ c, (cfin List.dropLast ⟨row, [], []⟩).sub = [(k, y)] → τ.dom y → WNew w ND σ τ rest → Fr h₀ L h' m → News h₀ L h' ((S, W.listOf #[.ref (τ.X y)] c) :: wled ND τ rest) →
      Q (.ref S) { s.setGen gi .finished with heap := h', toks := tk' })
    (no : ∀ S h' tk' τ c, (cfin List.dropLast ⟨row, [], []⟩).sub = [] → WNew w ND σ τ rest → Fr h₀ L h' m → News h₀ L h' ((S, W.listOf #[] c) :: wled ND τ rest) →
      Q (.ref S) { s.setGen gi .finished with heap := h', toks := tk' })
    (err : ∀ ex h' tk' τ, 2 ≤ (cfin List.dropLast ⟨row, [], []⟩).sub.length → WNew w ND σ τ rest → RaisedAt base h₀ L m (env :: outer) ex (.type "TypeError") (wled ND τ rest) h' →
      E (.ref ex) { s.setGen gi .finished with heap := h', toks := tk' }) :
    wpAny (model P6 w) (atN dp un gd env outer) (call (.type "list") [.ref ga]) Q E s := by
  have hga := N (ga, genO gi nm qn t1 t2) (.tail _ (.tail _ (.tail _ (List.mem_append_right _ (.head _)))))
  have isg : ∀ h' : Heap, (h'.get? ga = some (genO gi nm qn t1 t2)) → h'.IsGen ga gi := fun h' e => ⟨_, _, _, e, rfl, rfl, rfl⟩
  refine list_gen (gi := gi) (isg _ hga.1) fun h1 c1 hk hS hz => ?_
  have hlt : ∀ q ∈ (D, W.listOf (refs σ.X row).toArray zr) :: wled ND σ ((ga, genO gi nm qn t1 t2) :: rest), q.1 ≠ s.heap.objs.size := fun q hq => Nat.ne_of_lt (Heap.lt_size (N q hq).1)
  have hnS := Nat.le_of_lt F.ns.lt
  generalize hSz : s.heap.objs.size = S at *
  have F1 : Fr g L' h1 m0 := F.keeps hk
  have hSn : g.get? S = none := Heap.get?_none_of_le (Nat.le_trans F.above (by rw [← hSz]; exact Nat.le_of_lt F.ns.lt))
  have hSL : S ≠ L' := by rw [← hSz]; exact Nat.ne_of_gt F.ns.lt
  have N1 : News g L' h1 ((S, W.listOf #[] c1) :: (D, W.listOf (refs σ.X row).toArray zr) :: wled ND σ ((ga, genO gi nm qn t1 t2) :: rest)) := fun p hp => by
    rcases List.mem_cons.mp hp with rfl | hp
    · exact ⟨hS, hSL, hSn⟩
    · exact ⟨hk _ _ (N p hp).1, (N p hp).2⟩
  have hGS : ∀ p ∈ σ.G, p.1 ≠ S ∧ p.1 ≠ D := fun p hp => ⟨hlt p (.tail _ (.tail _ (.tail _ (List.mem_append_left _ hp)))), hGD p hp⟩
  have hS5 : S ≠ 580 ∧ S ≠ ND := ⟨fun z => hlt (580, σ.tab) (.tail _ (.tail _ (.head _))) z.symm, fun z => hlt (ND, σ.oN) (.tail _ (.head _)) z.symm⟩
  have hSr : ∀ p ∈ (ga, genO gi nm qn t1 t2) :: rest, p.1 ≠ S := fun p hp => hlt p (.tail _ (.tail _ (.tail _ (List.mem_append_right _ hp))))
  refine loop_turn ?_
  refine next_gen (g := gi) (gs := .fresh code) (R := RG w ND base h₀ g L L' m (env :: outer) (cfin List.dropLast ⟨row, [], []⟩) S (W.listOf #[] c1) ((ga, genO gi nm qn t1 t2) :: rest) σ) (Y := YG w ND g L' (cfin List.dropLast ⟨row, [], []⟩) S (W.listOf #[] c1) ((ga, genO gi nm qn t1 t2) :: rest) σ) (n := 1) rfl (T.nolimit.keeps F1.keep) (by ktr_room) (isg _ (hk _ _ hga.1)) hgs ⟨rfl, ?seg⟩ ?hY ?hR
  case seg =>
    refine G dp (un + 3) gd _ S _ _ σ (by omega) (by omega) F1 (N1.perm led_gen) O hrow hks ?_ hDA hGS hSr (fun z => hlt (D, W.listOf (refs σ.X row).toArray zr) (.head _) z)
    intro q hq
    rcases List.mem_cons.mp hq with rfl | hq
    · exact hS5
    · exact hoff q hq
  case hY =>
    intro v s₁ gs' hy
    obtain ⟨_, es, k, y, τ, m', hsub, rfl, hyd, hW, F', N', hgo⟩ := hy
    have hgl : gi < s.gens.size := by
      rcases Nat.lt_or_ge gi s.gens.size with q | q
      · exact q
      · rw [Array.getElem?_eq_none q] at hgs; cases hgs
    have ge1 : s₁.gens = (s.setGen gi .running).gens := by rw [es]; rfl
    have hSm' := N' (S, W.listOf #[] c1) (.tail _ (.tail _ (List.mem_append_right _ (.head _))))
    have hgm' := N' (ga, genO gi nm qn t1 t2) (.tail _ (.tail _ (List.mem_append_right _ (.tail _ (.head _)))))
    refine ⟨#[], c1, hSm'.1, by simp, fun h2 hS2 hk2 hz2 => ?_⟩
    have hgaS : ga ≠ S := hSr (ga, genO gi nm qn t1 t2) (.head _)
    have F2 : Fr g L' h2 m' := fr_but F' hSL hSn hk2
    refine loop_turn ?_
    refine next_gen (g := gi) (gs := gs') (R := RG w ND base h₀ g L L' m (env :: outer) (cfin List.dropLast ⟨row, [], []⟩) S (W.listOf #[] c1) ((ga, genO gi nm qn t1 t2) :: rest) σ) (Y := YG w ND g L' (cfin List.dropLast ⟨row, [], []⟩) S (W.listOf #[] c1) ((ga, genO gi nm qn t1 t2) :: rest) σ) (n := 0) rfl (T.nolimit.keeps F2.keep) (by ktr_room) (isg _ (hk2 _ _ hgaS hgm'.1)) ?gs (hgo _ _ hS2 hk2) ?hY2 ?hR2
    case gs =>
      show (s₁.setGen gi gs').gens[gi]? = some gs'
      simp [Shared.setGen, ge1, hgl]
    case hY2 =>
      intro v s₂ gs2 hy
      obtain ⟨_, _, _, _, _, _, _, _, _, _, _, N2, hno⟩ := hy
      exact (hno s₂ _ (N2 (S, W.listOf #[] c1) (.tail _ (.tail _ (List.mem_append_right _ (.head _))))).1 fun _ _ _ e => e).elim
    case hR2 =>
      intro r s₂ hr
      obtain ⟨es2, hr⟩ := hr
      have eq2 : ∀ (x : GenState), s₂.setGen gi x = { s.setGen gi x with heap := s₂.heap, toks := s₂.toks } := fun x => by
        rw [es2]
        show Shared.mk _ _ _ _ _ = _
        rw [es]
        simp [Shared.setGen]
      match r, hr with
      | .error e, ⟨h1, _⟩ => cases h1
      | .ok (.ret .none), .inl ⟨h1, _⟩ => cases h1
      | .ok (.ret .none), .inr ⟨_, τ2, m2, oS2, hSo, hNo, hW2, hds, F3, N3⟩ =>
        intro h' hk'
        have eS : oS2 = W.listOf #[Value.ref (τ.X y)] (c1 + 1) := Option.some.inj (hSo.symm.trans hS2)
        subst eS
        obtain ⟨F4, N4⟩ := back_news FG F3 N3
        have hNo2 : h2.get? ND = some τ2.oN := hNo
        have hNo3 : h2.get? ND = some τ.oN := hk2 _ _ (fun z => hS5.2 z.symm) (N' (ND, τ.oN) (.head _)).1
        have hx2 : τ2.X y = τ.X y := X_same hW2.ok hW.ok (Option.some.inj (hNo2.symm.trans hNo3))
        have N5 : News h₀ L h' ((S, W.listOf #[Value.ref (τ2.X y)] (c1 + 1)) :: wled ND τ2 rest) := fun q hq => by
          rw [hx2] at hq
          have z := led_back (g := (ga, genO gi nm qn t1 t2)) q hq
          exact ⟨hk' _ _ (N4 _ z).1, (N4 _ z).2⟩
        have key := one k y S h' s₂.toks τ2 (c1 + 1) hsub (hds _ (by rw [hsub]; exact .head _)) (hW2.weak fun q hq => .tail _ hq) (F4.keeps hk') N5
        rw [eq2]
        exact ⟨rfl, key⟩
  case hR =>
    intro r s₁ hr
    obtain ⟨es, hr⟩ := hr
    have eq1 : ∀ (x : GenState), s₁.setGen gi x = { s.setGen gi x with heap := s₁.heap, toks := s₁.toks } := fun x => by
      rw [es]
      simp [Shared.setGen]
    match r, hr with
    | .error e, ⟨_, h2, ex, τ, he', hW, R⟩ =>
      subst he'
      have hR2 := R
      obtain ⟨Gh, FGh, ⟨Bh, a0, hB, hBG, hl, hfl⟩, hu2, hf2⟩ := R
      have f1 := hfl.1
      obtain ⟨oe, he, hc⟩ := hfl.there
      refine ⟨isg _ (f1 _ _ (hl (ga, genO gi nm qn t1 t2) (.tail _ (.tail _ (List.mem_append_right _ (.tail _ (.head _)))))).1), ⟨"TypeError", ⟨_, he, hc⟩, by rw [isSubtype_type]; kernel_rfl⟩, ?_⟩
      have key := err ex s₁.heap s₁.toks τ h2 (hW.weak fun q hq => .tail _ hq) (raised_mono hR2 fun q hq => led_back (g := (ga, genO gi nm qn t1 t2)) (S := (S, W.listOf #[] c1)) q (.tail _ hq))
      rw [eq1]
      exact key
    | .ok (.ret .none), .inl ⟨_, h0, τ, m', hW, F', N'⟩ =>
      intro h' hk'
      obtain ⟨F2, N2⟩ := back_news FG F' N'
      have N3 : News h₀ L h' ((S, W.listOf #[] c1) :: wled ND τ rest) := fun q hq => by
        have z := led_back (g := (ga, genO gi nm qn t1 t2)) q hq
        exact ⟨hk' _ _ (N2 _ z).1, (N2 _ z).2⟩
      have key := no S h' s₁.toks τ c1 h0 (hW.weak fun q hq => .tail _ hq) (F2.keeps hk') N3
      rw [eq1]
      exact ⟨rfl, key⟩
    | .ok (.ret .none), .inr ⟨h1, _⟩ => cases h1
end Mine
end
section
open PySem PySem.W PyProof.Rows PySem.Spec PySem.Calls
set_option maxRecDepth 100000
namespace Mine
section
variable {prog : Program} {w : World} {A : Around} {E E' : Value → Shared → Prop} {s s1 : Shared} {env : Env} {x : Str} {px : Pos} {body : List Stmt} {Q : Flow → Shared → Prop} {h₀ : Heap} {L : Addr}
def LoopI {δ : Type} (h₀ : Heap) (L : Addr) (s1 : Shared) (K : Nat → Obj → Prop) (mF : δ → Str → Option Value) (LED : δ → List (Addr × Obj)) (P : Addr → Nat → δ → Prop) (N : Nat) (I : Addr) (n : Nat) (s' : Shared) : Prop :=
  ∃ (i : Nat) (d : δ) (h : Heap) (tk : Nat) (oI : Obj), n + i = N ∧ s' = { s1 with heap := h, toks := tk } ∧ Fr h₀ L h (mF d) ∧ News h₀ L h ((I, oI) :: LED d) ∧ K i oI ∧ (∀ p ∈ LED d, p.1 ≠ I) ∧ P I i d
def TurnOk {δ : Type} (h₀ : Heap) (L : Addr) (s1 : Shared) (mF : δ → Str → Option Value) (LED : δ → List (Addr × Obj)) (P : Addr → Nat → δ → Prop) (I : Addr) (oI : Obj) (i : Nat) (s' : Shared) : Prop :=
  ∃ (d : δ) (h : Heap) (tk : Nat), s' = { s1 with heap := h, toks := tk } ∧ Fr h₀ L h (mF d) ∧ News h₀ L h ((I, oI) :: LED d) ∧ (∀ p ∈ LED d, p.1 ≠ I) ∧ P I i d
def TurnEnd {δ : Type} (h₀ : Heap) (L : Addr) (s1 : Shared) (mF : δ → Str → Option Value) (LED : δ → List (Addr × Obj)) (P : Addr → Nat → δ → Prop) (I : Addr) (oI : Obj) (i : Nat) (Q : Flow → Shared → Prop) (f : Flow) (s' : Shared) : Prop := match f with
  | .next => TurnOk h₀ L s1 mF LED P I oI i s'
  | .cont => TurnOk h₀ L s1 mF LED P I oI i s'
  | .brk => Q .next s'
  | .ret v => Q (.ret v) s'
theorem turnEnd_to {δ : Type} {K : Nat → Obj → Prop} {mF : δ → Str → Option Value} {LED : δ → List (Addr × Obj)} {P : Addr → Nat → δ → Prop} {N n i : Nat} {I : Addr} {oI : Obj} (hni : n + i = N) (hi : i < N) (hK : K (i + 1) oI) (f : Flow) (s' : Shared)
    (h : TurnEnd h₀ L s1 mF LED P I oI (i + 1) Q f s') : WPost (LoopI h₀ L s1 K mF LED P N I) n Q f s' := by
  have key : TurnOk h₀ L s1 mF LED P I oI (i + 1) s' → ∃ n', n' < n ∧ LoopI h₀ L s1 K mF LED P N I n' s' := fun ⟨d, h, tk, e, F, N1, off, hP⟩ =>
    ⟨n - 1, by omega, i + 1, d, h, tk, oI, by omega, e, F, N1, hK, off, hP⟩
  cases f with
  | next => exact key h
  | cont => exact key h
  | brk => exact h
  | ret v => exact h
theorem off_same {I : Addr} : ∀ {a b : List (Addr × Obj)}, b.map (·.1) = a.map (·.1) → (∀ p ∈ a, p.1 ≠ I) → ∀ p ∈ b, p.1 ≠ I := by
  intro a b e h p hp
  have : p.1 ∈ b.map (·.1) := List.mem_map_of_mem hp
  rw [e] at this
  obtain ⟨q, hq, hqe⟩ := List.mem_map.mp this
  rw [← hqe]; exact h q hq
abbrev lstIt (D : Addr) (i : Nat) (o : Obj) : Prop := o.cls = .type "list_iterator" ∧ o.data = .fields #[.ref D, .int i 0]
theorem over_list {δ : Type} (mF : δ → Str → Option Value) (LED : δ → List (Addr × Obj)) (P : Addr → Nat → δ → Prop) (d0 : δ) {D : Addr} {ws : List Value} {z : Nat} {m : Str → Option Value} {news : List (Addr × Obj)}
    (F : Fr h₀ L s.heap m) (N : News h₀ L s.heap news) (hs : ∃ h tk, s = { s1 with heap := h, toks := tk }) (hm : ∀ y, mF d0 y = m y) (hl : ∀ p ∈ LED d0, p ∈ news) (hP : ∀ I, (∀ p ∈ news, p.1 ≠ I) → P I 0 d0)
    (hD : ∀ I i d, P I i d → (D, W.listOf ws.toArray z) ∈ LED d)
    (turn : ∀ I oI i d h tk v, ws[i]? = some v → i < ws.length → Fr h₀ L h (mF d) → News h₀ L h ((I, oI) :: LED d) → (∀ p ∈ LED d, p.1 ≠ I) → P I i d →
      wpAny (model prog w) A (assign (.Name x px) env v) (fun _ s₂ => wpAny (model prog w) A (execs body env) (TurnEnd h₀ L s1 mF LED P I oI (i + 1) Q) E s₂) E { s1 with heap := h, toks := tk })
    (fin : ∀ I d h tk, Fr h₀ L h (mF d) → News h₀ L h (LED d) → P I ws.length d → wpAny (model prog w) A (execs [] env) Q E { s1 with heap := h, toks := tk })
    (hE : PassesOwn (model prog w) A env E) (hh0 : A.handled = none) (ht : ∀ it v, letOwnedTupleGo (.Name x px) it v = pure () := by intro _ _; rfl) :
    wpAny (model prog w) A (pyIter (.ref D)) (fun it s₂ => codeAny (model prog w) A (.forLoop (.Name x px) it body [] env) (fun r s' => match r with | .ok f => Q f s' | .error e => cameBackBy (model prog w) A env E e s') s₂) E' s := by
  obtain ⟨hh, tk, rfl⟩ := hs
  have hoff0 : ∀ p ∈ news, p.1 ≠ hh.objs.size := fun p hp => Nat.ne_of_lt (Heap.lt_size (N p hp).1)
  have hL : hh.IsList D ws.toArray := News.isList N (hl _ (hD _ _ _ (hP _ hoff0)))
  refine wpAny_pyIter_list hL ?_
  obtain ⟨N2, off2⟩ := iter_new (l := D) F N
  have F2 := F.push { cls := .type "list_iterator", data := .fields #[.ref D, .int 0 0] }
  dsimp only at N2 off2 F2 ⊢
  generalize hI9 : hh.objs.size = I at *
  refine for_ind hE (LoopI h₀ L s1 (lstIt D) mF LED P ws.length I) ?_ ws.length ⟨0, d0, _, tk, { cls := .type "list_iterator", data := .fields #[.ref D, .int 0 0] }, rfl, rfl, fr_ext F2 hm, fun p hp => ?_, ⟨rfl, rfl⟩, fun p hp => hoff0 p (hl p hp), hP I hoff0⟩ (ht _)
  · intro n s' ⟨i, d, h, tk, oI, hni, e, F3, N3, hK, off, hp⟩
    subst e
    have hLi : h.IsList D ws.toArray := News.isList N3 (.tail _ (hD _ _ _ hp))
    by_cases hi : i < ws.length
    · refine wpAny_pyNext_list_item (iter_at N3 hK.1 hK.2) hLi (x := ws[i]) (by simp [hi]) fun h' hit' hs' => ?_
      obtain ⟨o', ho1', ho2', F4, N4⟩ := iter_step F3 N3 off hit' hs'
      dsimp only [ForTurn]
      refine wpAny_mono (turn I o' i d h' tk _ (List.getElem?_eq_getElem hi) hi F4 N4 off hp) (fun _ s₂ h2 => ?_) fun _ _ e => e
      exact wpAny_mono h2 (fun f s₃ h3 => turnEnd_to (K := lstIt D) hni hi ⟨ho1', ho2'⟩ f s₃ h3) fun _ _ e => e
    · have hie : i = ws.length := by omega
      subst hie
      refine wpAny_pyNext_list_end hh0 (iter_at N3 hK.1 hK.2) hLi (by simp) fun h' he => ?_
      obtain ⟨F5, N5⟩ := iter_end F3 N3 off he
      dsimp only [ForTurn]
      exact fin I d h' tk F5 N5 hp
  · rcases List.mem_cons.mp hp with rfl | hp
    · exact N2 _ (.head _)
    · exact N2 _ (.tail _ (hl p hp))
end
end Mine
end
section
open PySem PySem.W PyProof.Rows PySem.Spec PySem.Calls
set_option maxRecDepth 100000
namespace Mine
theorem gens_fin {s : Shared} {st : GenState} : (s.gens.push st).set! s.gens.size .finished = s.gens.push .finished := by
  apply Array.toList_inj.mp
  simp [Array.set!]
theorem set_fin {s : Shared} {h h' : Heap} {tk tk' : Nat} {st : GenState} :
    ({ ({ s with heap := h, gens := s.gens.push st, toks := tk } : Shared).setGen s.gens.size .finished with heap := h', toks := tk' } : Shared) = { s with gens := s.gens.push .finished, heap := h', toks := tk' } := by
  have e := gens_fin (s := s) (st := st)
  simp only [Array.set!] at e
  simp only [Shared.setGen, Array.set!, e]
section
variable {prog : Program} {w : World} {A : Around} {E : Value → Shared → Prop} {s : Shared} {st : Stmt} {env : Env} {Q : Flow → Shared → Prop}
def AfterTry (J : Shared → Prop) (f : Flow) (s : Shared) : Prop := f = .next ∧ J s
theorem mid (J : Shared → Prop) (h1 : wpAny (model prog w) A (exec st env) (AfterTry J) E s) (h2 : ∀ s', J s' → Q .next s') : wpAny (model prog w) A (exec st env) Q E s :=
  wpAny_mono h1 (fun f s' h => by obtain ⟨rfl, hj⟩ := h; exact h2 s' hj) fun _ _ e => e
end
section
variable {prog : Program} {w : World} {A₀ : Around} {E : Value → Shared → Prop} {s' : Shared} {base g : Heap} {outer : List Env} {L e : Addr} {m : Str → Option Value} {env : Env}
  {b₀ : Stmt} {suite : List Stmt} {pos np : Pos} {rest : List ExceptHandler} {Q : Flow → Shared → Prop} {news : List (Addr × Obj)} {KF : Frag}
  {p : Program} {loose : List Str} {mean : ExcName → Option Value} {mg mb : Str → Option Value} {x : Str} {X T' : String}
theorem caught_X (R : RaisedAt base g L m (env :: outer) e (.type X) news s'.heap) (hfr : env.frame = some L) (K : Below A₀ base outer g) (XB : KF.In base) (TB : Top p loose mean mg mb base)
    (hname : ∀ (A : Around) (E : Value → Shared → Prop) (Q : Value → Shared → Prop) (s : Shared) (g' : Heap), Fr g' L s.heap m → KF.In g' → TopRead p loose mg mb g' → Q (.type T') s → wpAny (model prog w) A (eval (.Name x np) env) Q E s)
    (hexc : isSubtype (.type T') (.type "BaseException") = pure true) (hnt : isSubtype (.type ((Manifest.find? T').elim "type" fun y => y.metatype)) (.type "tuple") = pure false) (hsub : isSubtype (.type X) (.type T') = pure true)
    (hE : PassesOwnAt (model prog w) ((A₀.deeper env).mark (some (.ref e))) (A₀.deeper env) env E)
    (k : ∀ h' g', KtsTurn (outer.filterMap (·.frame)) g g' → Fr g' L h' m → News g' L h' news → Below A₀ base outer g' → KF.In g' → Top p loose mean mg mb g' →
      wpAny (model prog w) ((A₀.deeper env).mark (some (.ref e))) (execs (b₀ :: suite) env) Q E { s' with heap := h' }) :
    wpAny (model prog w) (A₀.deeper env) (noteFrame (.ref e) env)
      (fun _ s₂ => wpAny (model prog w) (A₀.deeper env) (setFlight (.ref e) none) (fun _ s₃ =>
        wpAny (model prog w) (A₀.deeper env) (handleBy (.ref e) env (.ExceptHandler (some (.Name x np)) none (b₀ :: suite) pos :: rest)) Q E s₃) E s₂) E s' := by
  obtain ⟨G, F, ⟨B, a0, hB, hBG, hl, hfl⟩, hsm, -⟩ := R
  have efr : (env :: outer).filterMap (·.frame) = (envOf (Str.ofString "") env.scope L 0 .none :: outer).filterMap (·.frame) := by
    simp [List.filterMap_cons, hfr, envOf]
  rw [efr] at hBG
  have hL : B.get? L = none := by
    obtain ⟨_, ⟨L', _, hf, hn', _⟩, _⟩ := hfl.2.2.1
    obtain rfl : L = L' := Option.some.inj (hfr.symm.trans hf)
    exact hn'
  refine wpAny_looks_onW (Around.frames_deeper K.stack) hfr hfl fun h₄ hheld₄ hsm₄ => ?_
  refine wpAny_landsW hheld₄ fun h₅ hheld hsm₅' => ?_
  have hsm₅ := hsm₄.trans hsm₅'
  obtain ⟨g₅, T₅, F₅, K₅⟩ := kts_ground K F hBG hheld.1 (hsm.trans hsm₅)
  have X₅ : KF.In g₅ := XB.keeps K₅.stays
  have P₅ : TopRead p loose mg mb g₅ := topRead_of (TB.keeps K₅.stays)
  obtain ⟨ob, hob, hobc⟩ := hheld.there
  refine wpAny_handleBy_builtin (X := X) (T := T') (b := true) hexc hnt hsub (hname _ _ _ _ g₅ F₅ X₅ P₅ ⟨rfl, ⟨ob, hob, hobc⟩, ?_⟩)
  refine lands_againW hheld fun h₆ hfl₆ hsm₆ => ?_
  obtain ⟨g₆, T₆, F₆, K₆⟩ := kts_ground K F hBG hfl₆.1 ((hsm.trans hsm₅).trans hsm₆)
  have Nl : News g₆ L h₆ news := fun q hq => ⟨hfl₆.1 _ _ (hl q hq).1, (fun z => by have := (hl q hq).1; rw [z, hL] at this; cases this), T₆.none_ _ (kts_none F.keep (hl q hq).2.1)⟩
  exact wpAny_passesOwnAt hE (k h₆ g₆ T₆ F₆ Nl K₆ (XB.keeps K₆.stays) (TB.keeps K₆.stays))
end
end Mine
namespace Mine
def Stand (p : Program) (loose : List Str) (mean : ExcName → Option Value) (mg mb : Str → Option Value) (KF : Frag) (A₀ : Around) (base g' : Heap) : Prop := KtsTurn [] base g' ∧ Below A₀ base [] g' ∧ KF.In g' ∧ Top p loose mean mg mb g'
theorem stand_name {p : Program} {loose : List Str} {mean : ExcName → Option Value} {mg mb : Str → Option Value} {KF : Frag} {A₀ : Around} {base g : Heap} (_ : Below A₀ base [] g) (_ : KF.In g) (_ : Top p loose mean mg mb g) : ∃ ST, ST = Stand p loose mean mg mb KF A₀ base := ⟨_, rfl⟩
theorem ne_of_data {g h : Heap} {L : Addr} {r : List (Addr × Obj)} (N : News g L h r) {a b : Addr} {o u : Obj} (ha : (a, o) ∈ r) (hb : (b, u) ∈ r) (hne : o.data ≠ u.data) : a ≠ b := fun e => by
  have h1 := (N _ ha).1
  have h2 := (N _ hb).1
  dsimp only at h1 h2
  rw [e, h2] at h1
  exact hne (congrArg Obj.data (Option.some.inj h1)).symm
end Mine
end
section
open PySem PySem.W PyProof.Rows PySem.Spec PySem.Calls
set_option maxRecDepth 100000
namespace Mine
section
open LCg
variable {M : Model} {A : Around} {E : Value → Shared → Prop} {s : Shared}
theorem push_head {h₀ h : Heap} {L : Addr} {m : Str → Option Value} {o : Obj} {r : List (Addr × Obj)} (F : Fr h₀ L h m) (N : News h₀ L h r) (hof : o.isFreed = false) :
    News h₀ L (h.push o) ((h.objs.size, o) :: r) ∧ ∀ p ∈ r, @LT.lt Nat _ p.1 h.objs.size := by
  refine ⟨fun p hp => ?_, fun p hp => Heap.lt_size (N p hp).1⟩
  rcases List.mem_cons.mp hp with rfl | hp
  · exact ⟨Heap.get?_push_size _ hof, Ne.symm (Nat.ne_of_lt F.ns.lt), next_is_new F⟩
  · exact ⟨Heap.get?_push_of_some _ (N p hp).1, (N p hp).2⟩
end
section
open LCg
variable {prog : Program} {w : World} {A : Around} {E : Value → Shared → Prop} {s : Shared} {h₀ : Heap} {L : Addr} {m : Str → Option Value} {env : Env}
end
end Mine
end
section
open PySem PySem.W PyProof.Rows PySem.Spec PySem.Calls
set_option maxRecDepth 100000
namespace Mine
section
variable {prog : Program} {w : World} {A : Around} {E : Value → Shared → Prop} {s : Shared} {h₀ : Heap} {L D b : Addr} {m : Str → Option Value} {news news' : List (Addr × Obj)} {n n2 : Nat}
end
end Mine
end
section
open PySem PySem.W PyProof.Rows PySem.Spec PySem.Calls
set_option maxRecDepth 100000
namespace Mine
def GoodB (c : ClaimW) (cl : Str → Option Addr) (mean : ExcName → Option Value) (args : List WData) (s₁ : Shared) (res : Result) (s' : Shared) : Prop :=
  ((∃ v d as, res = .ok (.ret v) ∧ (∀ cls, c.raises args cls = false) ∧ ReadsW c.records cl s'.heap v d as ∧ c.post args d args = true ∧
      (c.unshared = true → as.Nodup ∧ ∀ a ∈ as, s₁.heap.get? a = none)) ∨
    (∃ e ob cls, res = .error (.ref e) ∧ s'.heap.get? e = some ob ∧ mean cls = some ob.cls ∧ c.raises args cls = true ∧ s₁.heap.get? e = none)) ∧
  (∀ b o, s₁.heap.get? b = some o → s'.heap.get? b = some o) ∧ s'.os = s₁.os ∧ AllBare s'.gens
theorem kn_postB {M : Model} {A : Around} {cd : Code} {s s₁ : Shared} {cw : ClaimW} {cl : Str → Option Addr} {mean : ExcName → Option Value} {args : List WData} {tabs : List (Addr × Addr)} (hT : TabsAt tabs s₁.heap) (hr : ∀ a x, cw.raises a x = false)
    (h : codeAny M A cd (fun r s' => GoodB cw cl mean args { s₁ with heap := ghostOf s₁.heap tabs } r s' ∧ GrownAll tabs s'.heap) s) : codeAny M A cd (GoodWG cw cl mean args s₁) s :=
  codeAny_mono h fun r s' ⟨⟨hc, hk, hos, hg⟩, hgr⟩ => by
    have keep : ∀ b o, b ∉ tabs.map (·.2) → s₁.heap.get? b = some o → s'.heap.get? b = some o := fun b o hb e => hk b o (ghost_ne e hb)
    have grown : ∀ b o, b ∈ tabs.map (·.2) → s₁.heap.get? b = some o → isCodeTable s₁.heap b ∧ o = tabObj #[] ∧ ∃ ps, s'.heap.get? b = some (tabObj ps) := fun b o hb e => by
      obtain ⟨q, hq, rfl⟩ := List.mem_map.mp hb
      have e2 := (hT q hq).2
      rw [e] at e2
      exact ⟨((hT q hq).1.tab (hT q hq).2).isCodeTable, Option.some.inj e2, hgr.get q hq⟩
    refine ⟨?_, ⟨fun b o e => ?_, fun b o e => ?_⟩, hos, hg⟩
    · rcases hc with ⟨v, d, as, r1, r2, r3, r4, r5⟩ | ⟨e, ob, x, _, _, _, r4, _⟩
      · refine .inl ⟨v, d, as, r1, r2, r3, r4, fun q => ⟨(r5 q).1, fun a ha => ?_⟩⟩
        cases q1 : s₁.heap.get? a with
        | none => rfl
        | some o =>
          by_cases hb : a ∈ tabs.map (·.2)
          · obtain ⟨_, _, ps, hP⟩ := grown a o hb q1
            exact absurd ha (readsW_apart hP rfl r3)
          · have e3 := (r5 q).2 a ha
            rw [show (ghostOf s₁.heap tabs).get? a = some o from ghost_ne q1 hb] at e3
            cases e3
      · rw [hr] at r4; cases r4
    · by_cases hb : b ∈ tabs.map (·.2)
      · obtain ⟨ht, rfl, ps, hP⟩ := grown b o hb e
        exact .inr (.inl ⟨ht, rfl, #[], ps, rfl, by rw [Array.empty_append]; exact hP⟩)
      · exact .inl (keep b o hb e)
    · by_cases hb : b ∈ tabs.map (·.2)
      · obtain ⟨_, _, ps, hP⟩ := grown b o hb e
        exact ⟨_, hP⟩
      · exact ⟨o, keep b o hb e⟩
theorem good_turnB {c : ClaimW} {cl : Str → Option Addr} {mean : ExcName → Option Value} {args : List WData} {s₁ s' : Shared} {L : Addr} {m : Str → Option Value} {hb : Heap} {b : Bool}
    (T : KtsTurn [] s₁.heap hb) (F : Fr hb L s'.heap m) (hg : AllBare s'.gens) (hn : ∀ cls, c.raises args cls = false) (hp : c.post args (.bool b) args = true) (hos : s'.os = s₁.os := by rfl) : GoodB c cl mean args s₁ (.ok (.ret (.bool b))) s' :=
  ⟨.inl ⟨_, _, _, rfl, hn, .bool b, hp, unshared_nil⟩, fun a o e => F.keep a o (T.other a o e (by simp)), hos, hg⟩
theorem is_ref_same {M : Model} {A : Around} {E : Value → Shared → Prop} {s : Shared} {a : Addr} {Q : Value → Shared → Prop} (h : Q (.bool true) s) : wpAny M A (compareOp .Is (.ref a) (.ref a)) Q E s := by
  show wpAny M A (do return Value.bool (← isSame (.ref a) (.ref a))) Q E s
  exact wpAny_bind (wpAny_isSame_ref_self (wpAny_pure h))
theorem bare_fin {gens : Array GenState} (h : gens = #[]) : AllBare (gens.push .finished) := AllBare.push (AllBare.of_eq h) rfl
end Mine
end
section
open PySem PySem.W PyProof.Rows PySem.Spec PySem.Calls PyProof.V
set_option maxRecDepth 100000
namespace Mine
theorem us_canLayAll0 : ∀ ns : List Str, (∀ x ∈ ns, PyData.strOk x = true) → PyData.canLayAll0 (ns.map PyData.str) = true
  | [], _ => rfl
  | a :: r, h => by simp [PyData.canLayAll0, PyData.canLay0, us_canLayAll0 r fun x hx => h x (.tail _ hx), h a (.head _)]
theorem us_depthAll : ∀ ns : List Str, PyData.depthAll (ns.map PyData.str) = 0
  | [] => rfl
  | _ :: r => by simp [PyData.depthAll, PyData.depth, us_depthAll r]
theorem us_shaped (ns : List Str) (h : ∀ x ∈ ns, PyData.strOk x = true) : SeqAt.shaped (.list (ns.map PyData.str)) = true := by
  simp [SeqAt.shaped, PyData.canLay0, PyData.depth, us_canLayAll0 ns h, us_depthAll]
theorem us_sameAll : ∀ ns ms : List Str, PySem.Spec.sameAll (ns.map PyData.str) (ms.map PyData.str) = decide (ns = ms)
  | [], [] => by simp [PySem.Spec.sameAll]
  | [], _ :: _ => by simp [PySem.Spec.sameAll]
  | _ :: _, [] => by simp [PySem.Spec.sameAll]
  | a :: r, b :: t => by
    simp only [List.map_cons, PySem.Spec.sameAll, PySem.Spec.same, us_sameAll r t]
    by_cases h : a = b <;> by_cases h' : r = t <;> simp [h, h']
theorem us_same (ns ms : List Str) : PySem.Spec.same (.list (ns.map PyData.str)) (.list (ms.map PyData.str)) = decide (ns = ms) := by
  simp only [PySem.Spec.same]; exact us_sameAll ns ms
theorem us_carried : ∀ {vs : List Value} {ns : List Str}, StrsAre vs ns → CarriedAll vs (ns.map PyData.str)
  | _, _, .nil => .nil
  | _, _, .cons _ t r => .cons (.str _ t) (us_carried r)
section
variable {prog : Program} {w : World} {A : Around} {E : Value → Shared → Prop} {s : Shared} {a b : Addr} {xs ys : List Value} {ns ms : List Str} {Q : Value → Shared → Prop}
theorem eq_strL (ha : s.heap.IsList a xs.toArray) (hb : s.heap.IsList b ys.toArray) (hi : StrsAre xs ns) (hj : StrsAre ys ms) (k1 : ∀ x ∈ ns, PyData.strOk x = true) (k2 : ∀ x ∈ ms, PyData.strOk x = true) (hu : A.units + 64 < cLine) (h : Q (.bool (decide (ns = ms))) s) :
    wpAny (model prog w) A (compareOp .Eq (.ref a) (.ref b)) Q E s :=
  eq_dataH_same (reads_newData ha (us_carried hi)) (reads_newData hb (us_carried hj)) (us_shaped _ k1) (us_shaped _ k2) hu (SeqAt.noMix_of_shape (.list .str) rfl _ _ (list_map_has fun _ => rfl) (list_map_has fun _ => rfl)) (by rw [us_same]; exact h)
theorem ne_strL (ha : s.heap.IsList a xs.toArray) (hb : s.heap.IsList b ys.toArray) (hi : StrsAre xs ns) (hj : StrsAre ys ms) (k1 : ∀ x ∈ ns, PyData.strOk x = true) (k2 : ∀ x ∈ ms, PyData.strOk x = true) (hu : A.units + 64 < cLine) (h : Q (.bool (!decide (ns = ms))) s) :
    wpAny (model prog w) A (compareOp .NotEq (.ref a) (.ref b)) Q E s :=
  ne_dataH_same (reads_newData ha (us_carried hi)) (reads_newData hb (us_carried hj)) (us_shaped _ k1) (us_shaped _ k2) hu (SeqAt.noMix_of_shape (.list .str) rfl _ _ (list_map_has fun _ => rfl) (list_map_has fun _ => rfl)) (by rw [us_same]; exact h)
end
theorem word_ok (v : List Bool) : PyData.strOk (wordStr v) = true := by
  unfold PyData.strOk wordStr
  rw [Array.all_eq_true]
  intro i hi
  simp only [List.size_toArray, List.length_map] at hi
  simp only [List.getElem_toArray, List.getElem_map, decide_eq_true_eq]
  cases v[i] <;> decide
theorem cut_at : ∀ (us : List Value) (i : Nat) (y : Value), us[i]? = some y → kl_cut us i = some (us.take i, y, us.drop (i + 1))
  | [], i, y, h => by simp at h
  | a :: r, 0, y, h => by simp at h; subst h; rfl
  | a :: r, i + 1, y, h => by
    have := cut_at r i y (by simpa using h)
    show (match kl_cut r i with | some (p, z, q) => some (a :: p, z, q) | none => none) = _
    rw [this]; rfl
section
variable {prog : Program} {w : World} {A : Around} {E : Value → Shared → Prop} {s : Shared} {h₀ : Heap} {L D : Addr} {m : Str → Option Value} {news news' : List (Addr × Obj)} {n : Nat}
def insAt {α : Type} (l : List α) (k : Nat) (y : α) : List α := l.take k ++ y :: l.drop k
def delAt {α : Type} (l : List α) (k : Nat) : List α := l.take k ++ l.drop (k + 1)
theorem popAt_K {us : List Value} {i : Nat} {x : Int} {u : Tok} {y : Value} {Q : Value → Shared → Prop} (F : Fr h₀ L s.heap m) (N : News h₀ L s.heap news) (hx : x = (i : Int)) (hi : us[i]? = some y)
    (U : Upd D (W.listOf us.toArray n) (W.listOf (delAt us i).toArray (n + 1)) news news') (hz : us.length ≤ 1000) (h : ∀ h', Fr h₀ L h' m → News h₀ L h' news' → Q y { s with heap := h' }) :
    wpAny (model prog w) A (call (.builtin "list.pop") [.ref D, .int x u]) Q E s := by
  subst hx
  have hlt : i < us.length := by
    rcases Nat.lt_or_ge i us.length with q | q
    · exact q
    · rw [List.getElem?_eq_none q] at hi; cases hi
  refine kl_popAt F N (k := i) (p := us.take i) (q := us.drop (i + 1)) (y := y) ?_ ?_ (cut_at us i y hi) U (by rw [sizeLine_eq]; simp only []; omega) h
  · unfold Builtin.List.listFitsIndex
    simp
    omega
  · exact seqIndex_of (by omega) (by rw [List.size_toArray]; omega)
theorem insAt_K {us : List Value} {i : Nat} {x : Int} {u : Tok} {y : Value} {Q : Value → Shared → Prop} (F : Fr h₀ L s.heap m) (N : News h₀ L s.heap news) (hx : x = (i : Int)) (hi : i ≤ us.length)
    (U : Upd D (W.listOf us.toArray n) (W.listOf (insAt us i y).toArray (n + 1)) news news') (hz : us.length ≤ 1000) (h : ∀ h', Fr h₀ L h' m → News h₀ L h' news' → Q .none { s with heap := h' }) :
    wpAny (model prog w) A (call (.builtin "list.insert") [.ref D, .int x u, y]) Q E s := by
  subst hx
  refine kl_insert F N (l := insAt us i y) ?_ ?_ U (by rw [sizeLine_eq]; simp only []; omega) h
  · unfold Builtin.List.listFitsIndex
    simp
    omega
  · unfold kl_ins insAt
    have : (if (i : Int) < 0 then ((i : Int) + (us.length : Int)).toNat else min (i : Int).toNat us.length) = i := by
      rw [if_neg (by omega)]
      simp; omega
    simp only []
    rw [this]
end
end Mine
end
section
set_option maxRecDepth 100000
namespace Mine
def Inc (a b : Wd) : Prop := ¬ a <+: b ∧ ¬ b <+: a
theorem Inc.symm {a b : Wd} (h : Inc a b) : Inc b a := ⟨h.2, h.1⟩
theorem Inc.irrefl {a : Wd} (h : Inc a a) : False := h.1 (List.prefix_refl a)
def Code12 (l : List Wd) : Prop := l.Pairwise Inc ∧ ∀ v ∈ l, v.length ≤ 12
theorem Code12.perm {a b : List Wd} (h : a.Perm b) (H : Code12 a) : Code12 b := ⟨(h.pairwise_iff Inc.symm).mp H.1, fun v hv => H.2 v (h.mem_iff.mpr hv)⟩
theorem Code12.tail {a : Wd} {l : List Wd} (H : Code12 (a :: l)) : Code12 l := ⟨(List.pairwise_cons.mp H.1).2, fun v hv => H.2 v (.tail _ hv)⟩
theorem Code12.sub {a b : List Wd} (h : a.Sublist b) (H : Code12 b) : Code12 a := ⟨H.1.sublist h, fun v hv => H.2 v (h.subset hv)⟩
theorem Inc.longer {y z : Wd} {b : Bool} (h : Inc y z) : Inc (y ++ [b]) z := by
  refine ⟨fun k => h.1 ((List.prefix_append y [b]).trans k), fun k => ?_⟩
  rcases List.prefix_concat_iff.mp k with e | e
  · exact h.1 (e ▸ List.prefix_append y [b])
  · exact h.2 e
theorem snoc_prefix {u : Wd} {a b : Bool} (h : u ++ [a] <+: u ++ [b]) : a = b := by
  have := (List.prefix_append_right_inj u).mp h
  simpa using this
theorem Code12.split {y : Wd} {l : List Wd} (H : Code12 (y :: l)) (hy : y.length < 12) : Code12 ((y ++ [true]) :: (y ++ [false]) :: l) := by
  obtain ⟨h1, h2⟩ := List.pairwise_cons.mp H.1
  refine ⟨List.pairwise_cons.mpr ⟨fun z hz => ?_, List.pairwise_cons.mpr ⟨fun z hz => (h1 z hz).longer, h2⟩⟩, fun v hv => ?_⟩
  · rcases List.mem_cons.mp hz with rfl | hz
    · exact ⟨fun k => absurd (snoc_prefix k) (by decide), fun k => absurd (snoc_prefix k) (by decide)⟩
    · exact (h1 z hz).longer
  · rcases List.mem_cons.mp hv with rfl | hv
    · simp; omega
    rcases List.mem_cons.mp hv with rfl | hv
    · simp; omega
    exact H.2 v (.tail _ hv)
def wsum (l : List Wd) : Nat := (l.map fun v => 2 ^ (12 - v.length)).sum
theorem wsum_perm {a b : List Wd} (h : a.Perm b) : wsum a = wsum b := (h.map _).sum_nat
theorem wsum_cons (a : Wd) (l : List Wd) : wsum (a :: l) = 2 ^ (12 - a.length) + wsum l := by simp [wsum]
theorem wsum_append (a b : List Wd) : wsum (a ++ b) = wsum a + wsum b := by simp [wsum]
theorem snoc_of {v : Wd} (h : v ≠ []) : ∃ a, v = v.dropLast ++ [a] := ⟨v.getLast h, (List.dropLast_concat_getLast h).symm⟩
theorem merge {u v e : Wd} {l : List Wd} (H : Code12 (v :: e :: l)) (hv : v.dropLast = u) (he : e.dropLast = u) (hne : e ≠ v) :
    ∃ a b, a ≠ b ∧ v = u ++ [a] ∧ e = u ++ [b] ∧ u.length + 1 ≤ 12 ∧ Code12 (u :: l) ∧ wsum (v :: e :: l) = wsum (u :: l) := by
  have hi : Inc v e := (List.pairwise_cons.mp H.1).1 e (.head _)
  have hv0 : v ≠ [] := fun z => hi.1 (z ▸ List.nil_prefix)
  have he0 : e ≠ [] := fun z => hi.2 (z ▸ List.nil_prefix)
  obtain ⟨a, ea⟩ := snoc_of hv0
  obtain ⟨b, eb⟩ := snoc_of he0
  rw [hv] at ea
  rw [he] at eb
  have hab : a ≠ b := fun z => hne (by rw [ea, eb, z])
  have hul : u.length + 1 ≤ 12 := by
    have := H.2 v (.head _)
    rw [ea] at this; simpa using this
  refine ⟨a, b, hab, ea, eb, hul, ⟨List.pairwise_cons.mpr ⟨fun z hz => ?_, H.tail.tail.1⟩, fun z hz => ?_⟩, ?_⟩
  · have i1 : Inc (u ++ [a]) z := ea ▸ (List.pairwise_cons.mp H.1).1 z (.tail _ hz)
    have i2 : Inc (u ++ [b]) z := eb ▸ (List.pairwise_cons.mp H.tail.1).1 z hz
    refine ⟨fun k => ?_, fun k => i1.2 (k.trans (List.prefix_append u [a]))⟩
    obtain ⟨t, rfl⟩ := k
    cases t with
    | nil => exact i1.2 (by simp)
    | cons c t =>
      have : c = a ∨ c = b := by cases a <;> cases b <;> cases c <;> simp_all
      rcases this with rfl | rfl
      · exact i1.1 (by rw [show u ++ c :: t = (u ++ [c]) ++ t by simp]; exact List.prefix_append _ _)
      · exact i2.1 (by rw [show u ++ c :: t = (u ++ [c]) ++ t by simp]; exact List.prefix_append _ _)
  · rcases List.mem_cons.mp hz with rfl | hz
    · omega
    · exact H.2 z (.tail _ (.tail _ hz))
  · rw [wsum_cons, wsum_cons, wsum_cons, ea, eb]
    simp only [List.length_append, List.length_singleton]
    have : 2 ^ (12 - u.length) = 2 ^ (12 - (u.length + 1)) + 2 ^ (12 - (u.length + 1)) := by
      rw [show 12 - u.length = (12 - (u.length + 1)) + 1 by omega, Nat.pow_succ]; omega
    omega
theorem filter_ne {u : Wd} : ∀ {l : List (Wd × Wd)}, u ∉ l.map (·.1) → l.filter (fun p => p.1 != u) = l
  | [], _ => rfl
  | p :: r, h => by
    simp only [List.map_cons, List.mem_cons, not_or] at h
    rw [List.filter_cons, if_pos (by simpa using fun z => h.1 z.symm), filter_ne h.2]
theorem filter_perm {u e : Wd} : ∀ {sub : List (Wd × Wd)}, (sub.map (·.1)).Nodup → sub.lookup u = some e → sub.Perm ((u, e) :: sub.filter fun p => p.1 != u)
  | [], _, h => by simp at h
  | p :: r, hn, h => by
    have hn' := List.nodup_cons.mp (show (p.1 :: r.map (·.1)).Nodup from hn)
    rw [List.lookup_cons] at h
    cases q : u == p.1 with
    | true =>
      rw [q] at h
      have e1 := beq_iff_eq.mp q
      have e2 : p.2 = e := by simpa using h
      rw [List.filter_cons, if_neg (by simp [e1]), filter_ne (by rw [e1]; exact hn'.1), ← e2, e1]
    | false =>
      rw [q] at h
      have e1 : p.1 ≠ u := fun z => by rw [z] at q; simp at q
      rw [List.filter_cons, if_pos (by simpa using e1)]
      exact ((filter_perm hn'.2 h).cons p).trans (List.Perm.swap _ _ _)
abbrev allOf (c : CSt) : List Wd := c.todo ++ c.sub.map (·.2)
structure CInv (ws : List Wd) (c : CSt) : Prop where
  code : Code12 (allOf c)
  sum : wsum (allOf c) = wsum ws
  keys : ∀ p ∈ c.sub, p.2.dropLast = p.1
  nodup : (c.sub.map (·.1)).Nodup
  low : ∀ h : Wd, (∀ v ∈ ws, h <+: v) → ∀ a ∈ allOf c, h <+: a
  cov : ∀ v ∈ ws, ∃ a ∈ allOf c, a <+: v
theorem CInv.step {ws : List Wd} {c : CSt} (H : CInv ws c) (h : c.todo ≠ []) : CInv ws (cstep List.dropLast c) := by
  obtain ⟨todo, sub, asked⟩ := c
  rcases List.eq_nil_or_concat todo with rfl | ⟨p, v, rfl⟩
  · exact absurd rfl h
  obtain ⟨h1, h2, h3, h4, h5, h6⟩ := H
  simp only [List.concat_eq_append] at *
  dsimp only [allOf] at *
  cases hs : sub.lookup v.dropLast with
  | none =>
    rw [cstep_none (p := p) (a := asked) rfl hs]
    have hp : ((p ++ [v]) ++ sub.map (·.2)).Perm (p ++ (sub ++ [(v.dropLast, v)]).map (·.2)) := by
      rw [List.map_append, List.append_assoc]
      exact List.Perm.append_left p (List.perm_append_comm)
    refine ⟨h1.perm hp, (wsum_perm hp).symm.trans h2, fun q hq => ?_, ?_, fun k hk a ha => h5 k hk a (hp.mem_iff.mpr ha), fun w hw => ?_⟩
    · rcases List.mem_append.mp hq with hq | hq
      · exact h3 q hq
      · rw [List.mem_singleton.mp hq]
    · simp only [List.map_append, List.map_cons, List.map_nil]
      refine List.nodup_append.mpr ⟨h4, by simp, ?_⟩
      intro x hx y hy
      rw [List.mem_singleton.mp hy]
      rintro rfl
      obtain ⟨q, hq, hq1⟩ := List.mem_map.mp hx
      have := List.lookup_eq_none_iff.mp hs q hq
      simp [hq1] at this
    · obtain ⟨a, ha, hb⟩ := h6 w hw
      exact ⟨a, hp.mem_iff.mp ha, hb⟩
  | some e =>
    have hem : (v.dropLast, e) ∈ sub := lookup_mem hs
    by_cases hev : e = v
    · subst hev
      have := (List.pairwise_append.mp h1.1).2.2 e (by simp) e (List.mem_map.mpr ⟨_, hem, rfl⟩)
      exact this.irrefl.elim
    · rw [cstep_other (p := p) (a := asked) rfl hs hev]
      have hf := filter_perm h4 hs
      generalize hgs : sub.filter (fun q => q.1 != v.dropLast) = sub' at *
      have hp : ((p ++ [v]) ++ sub.map (·.2)).Perm (v :: e :: (p ++ sub'.map (·.2))) := by
        have k1 : (sub.map (·.2)).Perm (e :: sub'.map (·.2)) := hf.map (·.2)
        have k2 : ((p ++ [v]) ++ sub.map (·.2)).Perm ((p ++ [v]) ++ (e :: sub'.map (·.2))) := k1.append_left _
        have k3 : ((p ++ [v]) ++ (e :: sub'.map (·.2))).Perm (v :: (p ++ (e :: sub'.map (·.2)))) := by
          rw [List.append_assoc]; exact List.perm_middle
        exact k2.trans (k3.trans (List.Perm.cons v List.perm_middle))
      have hq : ((p ++ [v.dropLast]) ++ sub'.map (·.2)).Perm (v.dropLast :: (p ++ sub'.map (·.2))) := by
        rw [List.append_assoc]; exact List.perm_middle
      obtain ⟨a, b, hab, ea, eb, hl, hc, hw⟩ := merge (h1.perm hp) rfl (h3 _ hem) hev
      refine ⟨hc.perm hq.symm, ?_, fun q hq => h3 q (by rw [← hgs] at hq; exact (List.mem_filter.mp hq).1), ?_, fun k hk z hz => ?_, fun w hw => ?_⟩
      · rw [wsum_perm hq, ← hw, ← wsum_perm hp, h2]
      · rw [← hgs]; exact h4.sublist (List.Sublist.map _ List.filter_sublist)
      · rcases List.mem_cons.mp (hq.mem_iff.mp hz) with rfl | hz
        · have k1 := h5 k hk v (by simp)
          have k2 := h5 k hk e (hp.mem_iff.mpr (by simp))
          rw [ea] at k1
          rw [eb] at k2
          rcases List.prefix_concat_iff.mp k1 with e1 | e1
          · rcases List.prefix_concat_iff.mp k2 with e2 | e2
            · rw [e1] at e2
              exact absurd (by simpa using e2) hab
            · exact e2
          · exact e1
        · exact h5 k hk z (hp.mem_iff.mpr (.tail _ (.tail _ hz)))
      · obtain ⟨z, hz, hb⟩ := h6 w hw
        rcases List.mem_cons.mp (hp.mem_iff.mp hz) with rfl | hz
        · exact ⟨_, hq.mem_iff.mpr (.head _), (List.dropLast_prefix _).trans hb⟩
        rcases List.mem_cons.mp hz with rfl | hz
        · refine ⟨v.dropLast, hq.mem_iff.mpr (.head _), List.IsPrefix.trans ?_ hb⟩
          have := List.dropLast_prefix z
          rwa [h3 _ hem] at this
        · exact ⟨z, hq.mem_iff.mpr (.tail _ hz), hb⟩
theorem CInv.runs {ws : List Wd} : ∀ (n : Nat) {c : CSt}, CInv ws c → CInv ws (cruns List.dropLast n c)
  | 0, _, h => h
  | n + 1, c, h => by
    by_cases q : c.todo = []
    · rw [cruns_nil q]; exact h
    · exact CInv.runs n (h.step q)
theorem CInv.start {ws : List Wd} (h : Code12 ws) : CInv ws ⟨ws, [], []⟩ :=
  ⟨by show Code12 (ws ++ []); rw [List.append_nil]; exact h, by show wsum (ws ++ []) = _; rw [List.append_nil], fun _ h => (nomatch h), .nil, fun k hk a ha => hk a (by simpa using ha), fun v hv => ⟨v, by simpa using hv, List.prefix_refl v⟩⟩
theorem kraft : ∀ (n : Nat) (h : Wd) (F : List Wd), h.length + n = 12 → Code12 F → (∀ a ∈ F, h <+: a) → wsum F ≤ 2 ^ n ∧ (wsum F = 2 ^ n → (∀ u : Wd, ¬ (u ++ [false] ∈ F ∧ u ++ [true] ∈ F)) → F = [h]) := by
  intro n
  induction n with
  | zero =>
    intro h F hn hc hp
    have all : ∀ a ∈ F, a = h := fun a ha => ((hp a ha).eq_of_length_le (by have := hc.2 a ha; omega)).symm
    match F, hc, all with
    | [], _, _ => exact ⟨by simp [wsum], fun h => by simp [wsum] at h⟩
    | [a], _, all =>
      have := all a (.head _)
      subst this
      exact ⟨by simp [wsum, show a.length = 12 by omega], fun _ _ => rfl⟩
    | a :: b :: r, hc, all =>
      have e1 := all a (.head _)
      have e2 := all b (.tail _ (.head _))
      have := (List.pairwise_cons.mp hc.1).1 b (.head _)
      rw [e1, e2] at this
      exact this.irrefl.elim
  | succ n ih =>
    intro h F hn hc hp
    by_cases hm : h ∈ F
    · have hF : F = [h] := by
        have hpe := List.perm_cons_erase hm
        have hc' := hc.perm hpe
        cases q : F.erase h with
        | nil => rw [q] at hpe; exact List.perm_singleton.mp hpe
        | cons z r =>
          rw [q] at hc' hpe
          have i := (List.pairwise_cons.mp hc'.1).1 z (.head _)
          exact (i.1 (hp z (hpe.mem_iff.mpr (.tail _ (.head _))))).elim
      subst hF
      exact ⟨by rw [wsum_cons]; simp [wsum]; exact Nat.le_of_eq (by congr 1; omega), fun _ _ => rfl⟩
    · have next : ∀ a ∈ F, ∃ c, h ++ [c] <+: a := fun a ha => by
        obtain ⟨t, rfl⟩ := hp a ha
        cases t with
        | nil => exact (hm (by simpa using ha)).elim
        | cons c t => exact ⟨c, by rw [show h ++ c :: t = (h ++ [c]) ++ t by simp]; exact List.prefix_append _ _⟩
      obtain ⟨P, hP⟩ : ∃ P : Wd → Bool, ∀ a, P a = true ↔ (h ++ [false]) <+: a := ⟨fun a => decide ((h ++ [false]) <+: a), fun a => by simp⟩
      have hpe := (List.filter_append_perm P F).symm
      have w := wsum_perm hpe
      rw [wsum_append] at w
      have i0 := ih (h ++ [false]) (F.filter P) (by simp; omega) (hc.sub List.filter_sublist) fun a ha => (hP a).mp (List.mem_filter.mp ha).2
      have i1 := ih (h ++ [true]) (F.filter fun a => !P a) (by simp; omega) (hc.sub List.filter_sublist) fun a ha => by
        obtain ⟨m1, m2⟩ := List.mem_filter.mp ha
        obtain ⟨c, hcx⟩ := next a m1
        cases c with
        | true => exact hcx
        | false => rw [(hP a).mpr hcx] at m2; cases m2
      have p2 : 2 ^ (n + 1) = 2 ^ n + 2 ^ n := by rw [Nat.pow_succ]; omega
      refine ⟨by omega, fun he hns => ?_⟩
      have e0 := i0.2 (by omega) fun u k => hns u ⟨(List.mem_filter.mp k.1).1, (List.mem_filter.mp k.2).1⟩
      have e1 := i1.2 (by omega) fun u k => hns u ⟨(List.mem_filter.mp k.1).1, (List.mem_filter.mp k.2).1⟩
      exfalso
      exact hns h ⟨(List.mem_filter.mp (e0 ▸ List.mem_singleton.mpr rfl : h ++ [false] ∈ F.filter P)).1, (List.mem_filter.mp (e1 ▸ List.mem_singleton.mpr rfl : h ++ [true] ∈ F.filter fun a => !P a)).1⟩
theorem inj_nodup {α β : Type} {f : α → β} {l : List α} (h : (l.map f).Nodup) {a b : α} (ha : a ∈ l) (hb : b ∈ l) (e : f a = f b) : a = b := by
  induction l with
  | nil => cases ha
  | cons c r ih =>
    have h' := List.nodup_cons.mp (show (f c :: r.map f).Nodup from h)
    rcases List.mem_cons.mp ha with ea | ha
    · rcases List.mem_cons.mp hb with eb | hb
      · rw [ea, eb]
      · rw [ea] at e; exact absurd (List.mem_map.mpr ⟨b, hb, e.symm⟩) h'.1
    · rcases List.mem_cons.mp hb with eb | hb
      · rw [eb] at e; exact absurd (List.mem_map.mpr ⟨a, ha, e⟩) h'.1
      · exact ih h'.2 ha hb
theorem fin_inv {ws : List Wd} (h : Code12 ws) : CInv ws (cfin List.dropLast ⟨ws, [], []⟩) := (CInv.start h).runs _
theorem col_one {ws : List Wd} {h : Wd} (H : Code12 ws) (hw : ws ≠ []) (hp : ∀ v ∈ ws, h <+: v) (e : wsum ws = 2 ^ (12 - h.length)) : ∃ k, (cfin List.dropLast ⟨ws, [], []⟩).sub = [(k, h)] := by
  have I := fin_inv H
  have ht : (cfin List.dropLast ⟨ws, [], []⟩).todo = [] := cfin_todo _ _ (Nat.le_refl _)
  generalize cfin List.dropLast ⟨ws, [], []⟩ = c at *
  obtain ⟨h1, h2, h3, h4, h5, h6⟩ := I
  obtain ⟨todo, sub, asked⟩ := c
  dsimp only at ht
  subst ht
  dsimp only [allOf, List.nil_append] at *
  have hl : h.length ≤ 12 := by
    cases ws with
    | nil => exact absurd rfl hw
    | cons v r => exact Nat.le_trans (hp v (.head _)).length_le (H.2 v (.head _))
  have key := (kraft (12 - h.length) h (sub.map (·.2)) (by omega) h1 fun a ha => h5 h hp a (by simpa using ha)).2 (by rw [h2, e]) fun u ⟨k1, k2⟩ => by
    obtain ⟨p, hp1, e1⟩ := List.mem_map.mp k1
    obtain ⟨q, hq1, e2⟩ := List.mem_map.mp k2
    have f1 := h3 p hp1
    have f2 := h3 q hq1
    rw [e1] at f1
    rw [e2] at f2
    simp only [List.dropLast_concat] at f1 f2
    have := inj_nodup h4 hp1 hq1 (f1.symm.trans f2)
    rw [this] at e1
    rw [e1] at e2
    have := List.append_cancel_left e2
    simp at this
  match sub, key with
  | [(k, y)], key =>
    have : y = h := by simpa using key
    exact ⟨k, by rw [this]⟩
theorem col_two {ws : List Wd} {h : Wd} (H : Code12 ws) (hw : ws ≠ []) (hp : ∀ v ∈ ws, h <+: v) (hm : ∀ k : Wd, (∀ v ∈ ws, k <+: v) → k.length ≤ h.length) (e : wsum ws ≠ 2 ^ (12 - h.length)) : 2 ≤ (cfin List.dropLast ⟨ws, [], []⟩).sub.length := by
  have I := fin_inv H
  have ht : (cfin List.dropLast ⟨ws, [], []⟩).todo = [] := cfin_todo _ _ (Nat.le_refl _)
  have hz := cfin_ne (hs := List.dropLast) hw
  generalize cfin List.dropLast ⟨ws, [], []⟩ = c at *
  obtain ⟨h1, h2, h3, h4, h5, h6⟩ := I
  obtain ⟨todo, sub, asked⟩ := c
  dsimp only at ht
  subst ht
  dsimp only [allOf, List.nil_append] at *
  match sub, hz with
  | [p], _ =>
    exfalso
    have k1 : p.2.length ≤ h.length := hm p.2 fun v hv => by
      obtain ⟨a, ha, hb⟩ := h6 v hv
      have : a = p.2 := by simpa using ha
      rwa [this] at hb
    have k2 := h5 h hp p.2 (by simp)
    have k3 := k2.eq_of_length_le k1
    rw [k3] at e
    exact e (by rw [← h2]; simp [wsum])
  | p :: q :: r, _ => simp
end Mine
end
section
open PySem PySem.W PyProof.Rows
set_option maxRecDepth 100000
namespace Mine
theorem strs_tk : ∀ {vs : List Value} {xs : List Str}, StrsAre vs xs → ∀ n, StrsAre (vs.take n) (xs.take n)
  | _, _, h, 0 => by simp; exact .nil
  | _, _, .nil, n + 1 => .nil
  | _, _, .cons x t r, n + 1 => .cons x t (strs_tk r n)
theorem strs_dr : ∀ {vs : List Value} {xs : List Str}, StrsAre vs xs → ∀ n, StrsAre (vs.drop n) (xs.drop n)
  | _, _, h, 0 => h
  | _, _, .nil, n + 1 => .nil
  | _, _, .cons x t r, n + 1 => strs_dr r n
theorem strs_del {vs : List Value} {ws : List Wd} (h : StrsAre vs (ws.map wordStr)) (i : Nat) : StrsAre (delAt vs i) ((delAt ws i).map wordStr) := by
  unfold delAt
  rw [List.map_append, List.map_take, List.map_drop]
  exact (strs_tk h i).append' (strs_dr h (i + 1))
theorem strs_ins {vs : List Value} {ws : List Wd} (h : StrsAre vs (ws.map wordStr)) (k : Nat) {y : Wd} {t : Tok} : StrsAre (insAt vs k (.str (wordStr y) t)) ((insAt ws k y).map wordStr) := by
  unfold insAt
  rw [List.map_append, List.map_cons, List.map_take, List.map_drop]
  exact (strs_tk h k).append' (.cons _ _ (strs_dr h k))
theorem strs_at {vs : List Value} {ws : List Wd} (h : StrsAre vs (ws.map wordStr)) {i : Nat} {y : Wd} (e : ws[i]? = some y) : ∃ t, vs[i]? = some (.str (wordStr y) t) := h.at (by rw [List.getElem?_map, e]; rfl)
theorem strs_snoc6 {vs : List Value} {ws : List Wd} {y : Wd} (h : StrsAre vs ((ws ++ [y]).map wordStr)) : ∃ vi t, vs = vi ++ [.str (wordStr y) t] ∧ StrsAre vi (ws.map wordStr) := by
  rw [List.map_append] at h
  have h0 : vs = vs.take ws.length ++ vs.drop ws.length := (List.take_append_drop _ _).symm
  have h1 := strs_tk h ws.length
  have h2 := strs_dr h ws.length
  rw [List.take_left' (by simp)] at h1
  rw [List.drop_left' (by simp)] at h2
  have h3 : StrsAre (vs.drop ws.length) [wordStr y] := h2
  generalize hd : vs.drop ws.length = d at *
  cases h3 with
  | cons x t r =>
    cases r
    exact ⟨_, t, h0, h1⟩
theorem ins_perm {α : Type} {l : List α} {k : Nat} {y : α} : (insAt l k y).Perm (y :: l) := by
  unfold insAt
  refine List.perm_middle.trans (List.Perm.cons y ?_)
  rw [List.take_append_drop]
theorem del_perm {α : Type} {l : List α} {i : Nat} {y : α} (h : l[i]? = some y) : l.Perm (y :: delAt l i) := by
  have hlt : i < l.length := by
    rcases Nat.lt_or_ge i l.length with q | q
    · exact q
    · rw [List.getElem?_eq_none q] at h; cases h
  have e : l[i] = y := by rw [List.getElem?_eq_getElem hlt] at h; exact Option.some.inj h
  have : l = l.take i ++ y :: l.drop (i + 1) := by rw [← e, List.getElem_cons_drop, List.take_append_drop]
  unfold delAt
  conv => lhs; rw [this]
  exact List.perm_middle
theorem ins_len {α : Type} {l : List α} {k : Nat} {y : α} : (insAt l k y).length = l.length + 1 := by simpa using (ins_perm (l := l) (k := k) (y := y)).length_eq
theorem del_len {α : Type} {l : List α} {i : Nat} {y : α} (h : l[i]? = some y) : (delAt l i).length + 1 = l.length := by simpa using (del_perm h).length_eq.symm
def GoodW (i : Nat) (words aside : List Wd) : Prop := Code12 (words ++ aside) ∧ words ++ aside ≠ [] ∧ words.length + aside.length ≤ 1 + i
theorem goodW_perm {i : Nat} {a b c d : List Wd} (h : GoodW i a b) (p : (a ++ b).Perm (c ++ d)) : GoodW (i + 1) c d := by
  obtain ⟨h1, h2, h3⟩ := h
  have := p.length_eq
  simp only [List.length_append] at this
  refine ⟨h1.perm p, fun e => h2 ?_, by omega⟩
  rw [e] at p
  exact List.perm_nil.mp p
theorem goodW_ins {i k : Nat} {words aside : List Wd} {a : Wd} (h : GoodW i words (aside ++ [a])) : GoodW (i + 1) (insAt words k a) aside := by
  refine goodW_perm h ?_
  have p1 : (words ++ (aside ++ [a])).Perm (a :: (words ++ aside)) := by
    rw [← List.append_assoc]
    exact List.perm_append_comm
  exact p1.trans (ins_perm.symm.append_right aside)
theorem goodW_del {i k : Nat} {words aside : List Wd} {a : Wd} (h : GoodW i words aside) (e : words[k]? = some a) : GoodW (i + 1) (delAt words k) (aside ++ [a]) := by
  refine goodW_perm h ?_
  have p1 : (words ++ aside).Perm (a :: (delAt words k ++ aside)) := (del_perm e).append_right aside
  refine p1.trans ?_
  rw [← List.append_assoc]
  exact List.perm_append_comm (l₁ := [a])
theorem goodW_split {i k k1 k2 : Nat} {words aside : List Wd} {a : Wd} (h : GoodW i words aside) (e : words[k]? = some a) (hl : a.length < 12) : GoodW (i + 1) (insAt (insAt (delAt words k) k1 (a ++ [false])) k2 (a ++ [true])) aside := by
  obtain ⟨h1, h2, h3⟩ := h
  have p1 : (words ++ aside).Perm (a :: (delAt words k ++ aside)) := (del_perm e).append_right aside
  have c1 := (h1.perm p1).split hl
  have p2 : (insAt (insAt (delAt words k) k1 (a ++ [false])) k2 (a ++ [true]) ++ aside).Perm ((a ++ [true]) :: (a ++ [false]) :: (delAt words k ++ aside)) := by
    refine (ins_perm.append_right aside).trans ?_
    exact List.Perm.cons _ (ins_perm.append_right aside)
  refine ⟨c1.perm p2.symm, fun z => ?_, ?_⟩
  · rw [z] at p2
    exact absurd (List.nil_perm.mp p2) (by simp)
  · rw [ins_len, ins_len]
    have := del_len e
    omega
theorem goodW_same {i : Nat} {words aside : List Wd} (h : GoodW i words aside) : GoodW (i + 1) words aside := goodW_perm h (List.Perm.refl _)
theorem place {x : Int} {n : Nat} (hn : 0 < n) : ∃ k : Nat, k < n ∧ x.fmod (n : Int) = (k : Int) := by
  have h1 := Int.fmod_nonneg_of_pos x (b := (n : Int)) (by omega)
  have h2 := Int.fmod_lt_of_pos x (b := (n : Int)) (by omega)
  exact ⟨(x.fmod (n : Int)).toNat, by omega, by omega⟩
theorem slice_clip (len n : Nat) (h : len ≤ n) : Builtin.Str.strSliceIndices none (some (n : Int)) 1 len = Builtin.Str.strSliceIndices none (some (len : Int)) 1 len := by
  have a : ¬ ((len : Int) < 0) := by omega
  have b : ¬ ((n : Int) < 0) := by omega
  have c : min (n : Int) (len : Int) = (len : Int) := by omega
  simp [Builtin.Str.strSliceIndices, a, b, c]
theorem slice_upto (v : Wd) (n : Nat) : Txt.slice (wordStr v) none (some (n : Int)) = wordStr (v.take n) := by
  show StrLaws.sliceText (wordStr v) none (some (n : Int)) = _
  have e : (wordStr v).cps.toList = v.map sgn := by simp [wordStr]
  by_cases h : n ≤ v.length
  · rw [StrLaws.sliceText_to (by rw [e, List.length_map]; omega), e, List.drop_zero, show ((n : Int) - 0).toNat = n by omega]
    show _ = (⟨((v.take n).map sgn).toArray⟩ : Str)
    rw [List.map_take]
  · have e2 : StrLaws.sliceText (wordStr v) none (some (n : Int)) = StrLaws.sliceText (wordStr v) none (some (v.length : Int)) := by
      unfold StrLaws.sliceText
      rw [wordStr_len, slice_clip _ _ (by omega)]
    rw [e2, StrLaws.sliceText_to (by rw [e, List.length_map]; omega), e, List.drop_zero, show ((v.length : Int) - 0).toNat = v.length by omega]
    show _ = (⟨((v.take n).map sgn).toArray⟩ : Str)
    rw [List.take_of_length_le (by rw [List.length_map]; exact Nat.le_refl _), List.take_of_length_le (by omega)]
theorem head_keep {ws : List Wd} {v : Wd} (h : ∀ k : Wd, (∀ w ∈ ws, k <+: w) → k <+: v) (hn : ¬ ∀ w ∈ ws, v <+: w) : v ≠ [] ∧ ∀ k : Wd, (∀ w ∈ ws, k <+: w) → k <+: v.dropLast := by
  refine ⟨fun z => hn fun w _ => z ▸ List.nil_prefix, fun k hk => ?_⟩
  have h1 := h k hk
  have hv : v ≠ [] := fun z => hn fun w _ => z ▸ List.nil_prefix
  obtain ⟨a, ea⟩ := snoc_of hv
  rw [ea] at h1
  rcases List.prefix_concat_iff.mp h1 with e | e
  · exact absurd (fun w hw => by rw [ea, ← e]; exact hk w hw) hn
  · exact e
theorem take_prefix {w v : Wd} : w.take v.length = v ↔ v <+: w := by rw [List.prefix_iff_eq_take]; exact eq_comm
end Mine
end
section
open PySem PySem.W PyProof.Rows
set_option maxRecDepth 100000
local macro_rules | `(tactic| k_all) => `(tactic| assumption)
local macro_rules | `(tactic| k_room) => `(tactic| ktr_room)
local macro_rules | `(tactic| ke_room) => `(tactic| ktr_units)
local macro_rules | `(tactic| k_units) => `(tactic| ktr_units)
local macro_rules | `(tactic| walk_at "pyIter ref") => `(tactic| ((with_reducible show wpAny _ _ (pyIter _) (fun it s₂ => PySem.codeAny _ _ _ _ _) _ _); refine Mine.stop_here ?_))
local macro_rules | `(tactic| walk_at "exec For Name Subscript cons nil") => `(tactic| (refine Mine.stop_here ?_))
local macro_rules | `(tactic| walk_at "call builtin:list.append") => `(tactic| (refine Mine.stop_here ?_))
local macro_rules | `(tactic| walk_at "call builtin:list.pop") => `(tactic| (refine Mine.stop_here ?_))
local macro_rules | `(tactic| walk_at "call builtin:list.insert") => `(tactic| (refine Mine.stop_here ?_))
local macro_rules | `(tactic| walk_at "compareOp NotEq ref ref") => `(tactic| (refine Mine.stop_here ?_))
local macro_rules | `(tactic| walk_at "compareOp Eq ref ref") => `(tactic| (refine Mine.stop_here ?_))
local macro_rules | `(tactic| walk_at "subscriptTail") => `(tactic| ((with_reducible show wpAny _ _ (subscriptTail _ _ (Value.ref _) (Value.int _ _)) _ _ _); refine Mine.stop_here ?_))
local macro_rules | `(tactic| walk_at "subscriptTail Name Name ref int") => `(tactic| (refine Mine.stop_here ?_))
local macro_rules | `(tactic| walk_at "call builtin:len") => `(tactic| (k_here; (with_reducible show wpAny _ _ (call (Value.builtin _) [Value.ref _]) _ _ _); k_dflt (refine' len_strsA ?li ?si ?lz ?_; (case li => exact News.isList (by k_asm) (by k_mem)); (case si => assumption); (case lz => (rw [List.length_map]; omega)); k_whole)))
local macro_rules | `(tactic| walk_at "call builtin:len") => `(tactic| (k_here; (with_reducible show wpAny _ _ (call (Value.builtin _) [Value.str (Mine.wordStr _) _]) _ _ _); refine PyProof.Rows.len_str (by (rw [Mine.wordStr_len]; omega)) ?_))
local macro_rules | `(tactic| walk_at "TurnEnd") => `(tactic| (refine Mine.stop_here ?_))
local macro_rules | `(tactic| walk_at "WPost") => `(tactic| (refine Mine.stop_here ?_))
namespace Mine
theorem fr_ab {h₀ h : Heap} {L : Addr} {a b : Str} {f g : Str → Option Value} (F : Fr h₀ L h f) (ha : g a = f a) (hb : g b = f b) (ho : ∀ y, y ≠ a → y ≠ b → g y = f y) : Fr h₀ L h g := fr_ext F fun y => by
  by_cases h1 : y = a
  · rw [h1, ha]
  by_cases h2 : y = b
  · rw [h2, hb]
  exact ho y h1 h2
theorem fr_two_eq6 {a b y : Str} {m : Str → Option Value} : (if y = a then m a else if y = b then m b else m y) = m y := by
  by_cases h1 : y = a
  · rw [if_pos h1, h1]
  rw [if_neg h1]
  by_cases h2 : y = b
  · rw [if_pos h2, h2]
  rw [if_neg h2]
theorem words_strOk {l : List Wd} : ∀ x ∈ l.map wordStr, PyData.strOk x = true := fun x hx => by
  obtain ⟨v, _, rfl⟩ := List.mem_map.mp hx
  exact word_ok v
theorem three_names6 {h₀ h : Heap} {L a b c : Addr} {o1 o2 o3 : Obj} {LED : List (Addr × Obj)} (_ : News h₀ L h ((a, o1) :: (b, o2) :: (c, o3) :: LED)) : ∃ a' b' c', a' = a ∧ b' = b ∧ c' = c := ⟨_, _, _, rfl, rfl, rfl⟩
structure DW where
  u : Option Value
  uw : Option Value
  wv : List Value
  zw : Nat
  av : List Value
  za : Nat
def PW (i : Nat) (d : DW) : Prop := ∃ words aside : List Wd, StrsAre d.wv (words.map wordStr) ∧ StrsAre d.av (aside.map wordStr) ∧ GoodW i words aside
set_option maxHeartbeats 8000000 in
set_option pp.deepTerms false in
set_option pp.deepTerms.threshold 8 in
theorem words06 (w : World) {mean : ExcName → Option Value} {mg mb : Str → Option Value} {D : Addr} {ws : List Value} {scr : List Int} {dp un : Nat} {gd : Option (List Code)} {env : Env} {outer : List Env} {A₀ : Around} {base h₀ : Heap} {L : Addr} {m : Str → Option Value}
    {rest : List (Addr × Obj)} {s : Shared} {Q E : Value → Shared → Prop} {loose : List Str} {pgm : Program}
    (B : Below A₀ base outer h₀) (F : Fr h₀ L s.heap m) (X : (hd.heap_39 w.params).In h₀) (N : News h₀ L s.heap rest) (T : Top pgm loose mean mg mb h₀) (hfX : env.frame = some L) (hk : env.scope.kind = .function)
    (hL : h₀.IsList D ws.toArray) (hI : IntsAre ws scr) (hn : scr.length ≤ 63) (hdp : dp + 100 < recursionLimit) (hu : un + 4000 < cLine)
    (rS : ∀ (h' : Heap) (tk' : Nat) (R : Addr) (z : Nat) (vs : List Value) (words : List Wd), Fr h₀ L h' m → News h₀ L h' ((R, W.listOf vs.toArray z) :: rest) → StrsAre vs (words.map wordStr) → Code12 words → words.length ≤ 41 → (∀ q ∈ rest, @LT.lt Nat _ q.1 R) → Q (.ref R) { s with heap := h', toks := tk' }) :
    wpAny (model P6 w) (atN dp un gd env outer) (call (.ref 592) [.ref D]) Q E s := by
  have hq : PySem.Challenge.rw_km0038_06 = PySem.Challenge.rw_km0038_06 ∧ hd.heap_39 = hd.heap_39 := ⟨rfl, rfl⟩
  revert hq
  k_fill
  intro hq
  w_on
  refine wpAny_call ?_
  k_dflt (refine' PySem.W.code_def ?k1 ?k2 ?k3 ?k4 ?k5 ?kA ?kF ?kK ?k6 ?k7 ?k8 ?k9 ?kB ?_ ?c2 ?c3 ?c4 ?c5; (case kA => exact rfl); (case kF => exact hfX); (case kK => exact hk); (case k1 => k_asm); (case k2 => k_asm); (case k3 => k_asm); (case k4 => k_asm); (case k5 => k_asm); (case k6 => k_is); (case k7 => k_is); (case k8 => k_room); (case k9 => first | exact BindsTo.of_eq rfl | exact binds_K (by k_in) rfl (by k_is) rfl rfl rfl); (case c5 => decide); (case kB => exact locs rfl); (case c2 => exact rfl); (case c3 => exact rfl); (case c4 => exact rfl); k_whole; intro g' L' h' FG' F' N' B' X' T'; (try dsimp only); (try k_lift B'); (try k_fold))
  have hL2 : g'.IsList D ws.toArray := Fr.lst FG' hL
  w_strict k_steps
  unfold Stop
  refine wpAny_For ?_
  w_strict k_steps
  unfold Stop
  rename Fr g' L' _ _ => F1
  rename News g' L' _ _ => N1
  rename IntsAre _ (List.take 40 _) => hI1
  obtain ⟨m₀, hm₀, F1b⟩ := fr_name F1
  obtain ⟨D', A', R', eD, eA, eR⟩ := three_names6 N1
  subst eD
  subst eA
  subst eR
  rename List Value => vs8
  have hwl : vs8.length ≤ 40 := by
    have := hI1.length
    rw [List.length_take] at this
    omega
  refine over_list (s1 := s) (fun (d : DW) y => if y = Str.ofString "x" then d.u else if y = Str.ofString "word" then d.uw else m₀ y) (fun d => (D', W.listOf vs8.toArray 0) :: (A', W.listOf d.av.toArray d.za) :: (R', W.listOf d.wv.toArray d.zw) :: rest)
    (fun _ i d => PW i d) ⟨m₀ (Str.ofString "x"), m₀ (Str.ofString "word"), _, _, _, _⟩ F1b N1 ⟨_, _, rfl⟩ (fun y => ?hm1) (fun p hp => hp) ?hP1 (fun _ _ _ _ => .head _) ?turn1 ?fin1 ?hE1 rfl
  case hE1 => first | passes_own | with_unfolding_all passes_own
  case hm1 => exact fr_two_eq6
  case hP1 =>
    intro _ _
    exact ⟨[[]], [], .cons _ _ .nil, .nil, ⟨List.pairwise_singleton _ _, by simp⟩, by simp, by simp⟩
  case turn1 =>
    intro I oI i d h tk v hv hi F3 N3 off ⟨words, aside, h1, h2, hG⟩
    obtain ⟨k9, t9, hk9, e9⟩ := ints_at hI1 hv
    subst e9
    obtain ⟨u1, uw1, wv, zw, av, za⟩ := d
    dsimp only at *
    refine wpAny_assign_Name ?_
    clear F1 N1 F1b
    subst hm₀
    (try dsimp only)
    have oA : @Ne Nat A' I := off (A', _) (.tail _ (.head _))
    have oR : @Ne Nat R' I := off (R', _) (.tail _ (.tail _ (.head _)))
    have hlen1 := h1.length
    have hlen2 := h2.length
    rw [List.length_map] at hlen1 hlen2
    have h5 := hG.2.2
    have hi9 : i < 40 := by omega
    w_strict k_steps
    unfold Stop
    rename Fr g' L' _ _ => F4
    rename News g' L' _ _ => N4
    refine eq_strL (News.isList N4 (by k_mem)) (News.isList (items := #[]) N4 (.head _)) h1 .nil words_strOk (fun x hx => nomatch hx) ?eu ?_
    case eu => ktr_units
    by_cases hw : words = []
    · subst hw
      rw [decide_eq_true (by rfl)]
      w_strict k_steps
      unfold Stop
      rename Fr g' L' _ _ => F5
      rename News g' L' _ _ => N5
      rcases List.eq_nil_or_concat aside with rfl | ⟨as', a, rfl⟩
      · exact absurd rfl hG.2.1
      simp only [List.concat_eq_append] at *
      obtain ⟨vi, ta, rfl, h2'⟩ := strs_snoc6 h2
      have hvi := h2'.length
      rw [List.length_map] at hvi
      have hl5 := hG.2.2
      simp only [List.length_append, List.length_cons, List.length_nil] at hl5
      k_dflt (refine' pop_at F5 N5 ?Up ?zp ?_; (case Up => k_upd))
      case zp => omega
      intro h6 F6 N6
      w_strict k_steps
      unfold Stop
      rename Fr g' L' _ _ => F7
      rename News g' L' _ _ => N7
      obtain ⟨k, hk6, ek⟩ := place (x := Int.fdiv k9 8) (n := (List.map wordStr ([] : List Wd)).length + 1) (by omega)
      dsimp only [List.cons_append, List.nil_append]
      k_dflt (refine' insAt_K F7 N7 (i := k) ?hx ?hk ?Ui ?zi ?_; (case Ui => k_upd))
      case hx => exact ek
      case hk => (simp only [List.length_map, List.length_nil] at hk6 hlen1 ⊢; omega)
      case zi => omega
      intro h8 F8 N8
      w_strict k_steps
      unfold Stop
      dsimp only [TurnEnd]
      rename Fr g' L' _ _ => F9
      rename News g' L' _ _ => N9
      exact ⟨⟨_, _, _, _, _, _⟩, _, _, rfl, fr_ab (a := Str.ofString "x") (b := Str.ofString "word") F9 (by rfl) (by rfl) (fun y n1 n2 => by simp only [if_neg n1, if_neg n2]), News.tail' N9, off_same (by rfl) off, _, _, strs_ins h1 k, h2', goodW_ins hG⟩
    · rw [decide_eq_false (by simpa using hw)]
      have hne1 : (List.map wordStr words).length ≠ 0 := by rw [List.length_map]; exact fun z => hw (List.length_eq_zero_iff.mp z)
      have hne2 : 0 < (List.map wordStr words).length := by omega
      w_strict k_steps
      · unfold Stop
        rename Fr g' L' _ _ => Fa
        rename News g' L' _ _ => Na
        refine ne_strL (News.isList Na (by k_mem)) (News.isList (items := #[]) Na (.head _)) h2 .nil words_strOk (fun x hx => nomatch hx) ?eu2 ?_
        case eu2 => ktr_units
        rcases List.eq_nil_or_concat aside with rfl | ⟨as', a, rfl⟩
        · rw [show (!decide (List.map wordStr [] = [])) = false by rfl]
          w_strict k_steps
          · exfalso
            omega
          · unfold Stop
            rename Fr g' L' _ _ => F5
            rename News g' L' _ _ => N5
            obtain ⟨k, hk6, ek⟩ := place (x := Int.fdiv k9 8) (n := (List.map wordStr words).length) hne2
            obtain ⟨y, hy⟩ : ∃ y, words[k]? = some y := ⟨words[k]'(by rw [List.length_map] at hk6; exact hk6), List.getElem?_eq_getElem _⟩
            obtain ⟨ty, hty⟩ := strs_at h1 hy
            have hy12 : y.length ≤ 12 := hG.1.2 y (List.mem_append_left _ (List.mem_of_getElem? hy))
            refine item_listL (News.isList N5 (by k_mem)) (by rw [ek]; omega) (by rw [ek]; rw [List.length_map] at hk6; omega) (by rw [ek, Int.toNat_natCast]; exact hty) ?_
            w_strict k_steps
            · unfold Stop
              rename ((wordStr y).length : Int) < 12 => hy11
              rw [wordStr_len] at hy11
              rename Fr g' L' _ _ => F6
              rename News g' L' _ _ => N6
              dsimp only [List.cons_append, List.nil_append]
              k_dflt (refine' popAt_K F6 N6 (i := k) ek hty ?Uq ?zq ?_; (case Uq => k_upd))
              case zq => omega
              intro h7 F7 N7
              have hdl := del_len hy
              have h1b := strs_del h1 k
              have hbl := h1b.length
              rw [List.length_map] at hbl
              w_strict k_steps
              refine add_small (by rw [wordStr_len]; omega) (by rw [show (Str.ofString "0").length = 1 by decide +kernel]; decide) fun t1 tk1 => ?_
              have e0 : wordStr y ++ Str.ofString "0" = wordStr (y ++ [false]) := by simpa using wordStr_snoc y false
              have e1 : wordStr y ++ Str.ofString "1" = wordStr (y ++ [true]) := by simpa using wordStr_snoc y true
              rw [e0]
              w_strict k_steps
              unfold Stop
              rename Fr g' L' _ _ => F8
              rename News g' L' _ _ => N8
              obtain ⟨k1, hk1, ek1⟩ := place (x := Int.fdiv k9 128) (n := (List.map wordStr (delAt words k)).length + 1) (by omega)
              dsimp only [List.cons_append, List.nil_append]
              k_dflt (refine' insAt_K F8 N8 (i := k1) ek1 ?hk ?Ui ?zi ?_; (case Ui => k_upd))
              case hk => (rw [List.length_map] at hk1; omega)
              case zi => omega
              intro h9 F9 N9
              have h1c := strs_ins h1b k1 (y := y ++ [false]) (t := t1)
              have hcl := h1c.length
              rw [List.length_map] at hcl
              have hil := ins_len (l := delAt words k) (k := k1) (y := y ++ [false])
              w_strict k_steps
              refine add_small (by rw [wordStr_len]; omega) (by rw [show (Str.ofString "1").length = 1 by decide +kernel]; decide) fun t2 tk2 => ?_
              rw [e1]
              w_strict k_steps
              unfold Stop
              rename Fr g' L' _ _ => Fb
              rename News g' L' _ _ => Nb
              obtain ⟨k2, hk2, ek2⟩ := place (x := Int.fdiv k9 1024) (n := (List.map wordStr (insAt (delAt words k) k1 (y ++ [false]))).length + 1) (by omega)
              dsimp only [List.cons_append, List.nil_append]
              k_dflt (refine' insAt_K Fb Nb (i := k2) ek2 ?hk2 ?Uj ?zj ?_; (case Uj => k_upd))
              case hk2 => (rw [List.length_map] at hk2; omega)
              case zj => omega
              intro hc Fc Nc
              w_strict k_steps
              unfold Stop
              dsimp only [TurnEnd]
              rename Fr g' L' _ _ => Fd
              rename News g' L' _ _ => Nd
              exact ⟨⟨_, _, _, _, _, _⟩, _, _, rfl, fr_ab (a := Str.ofString "x") (b := Str.ofString "word") Fd (by rfl) (by rfl) (fun y n1 n2 => by simp only [if_neg n1, if_neg n2]), News.tail' (News.tail' Nd), off_same (by rfl) off, _, _, strs_ins h1c k2, h2, goodW_split hG hy (by omega)⟩
            · unfold Stop
              dsimp only [TurnEnd]
              rename Fr g' L' _ _ => F9
              rename News g' L' _ _ => N9
              exact ⟨⟨_, _, _, _, _, _⟩, _, _, rfl, fr_ab (a := Str.ofString "x") (b := Str.ofString "word") F9 (by rfl) (by rfl) (fun y n1 n2 => by simp only [if_neg n1, if_neg n2]), News.tail' (News.tail' N9), off_same (by rfl) off, _, _, h1, h2, goodW_same hG⟩
        · simp only [List.concat_eq_append] at *
          rw [show (!decide (List.map wordStr (as' ++ [a]) = [])) = true by simp]
          w_strict k_steps
          unfold Stop
          rename Fr g' L' _ _ => F5
          rename News g' L' _ _ => N5
          obtain ⟨vi, ta, rfl, h2'⟩ := strs_snoc6 h2
          have hvi := h2'.length
          rw [List.length_map] at hvi
          have hl5 := hG.2.2
          simp only [List.length_append, List.length_cons, List.length_nil] at hl5
          k_dflt (refine' pop_at F5 N5 ?Up ?zp ?_; (case Up => k_upd))
          case zp => omega
          intro h6 F6 N6
          w_strict k_steps
          unfold Stop
          rename Fr g' L' _ _ => F7
          rename News g' L' _ _ => N7
          obtain ⟨k, hk6, ek⟩ := place (x := Int.fdiv k9 8) (n := (List.map wordStr words).length + 1) (by omega)
          dsimp only [List.cons_append, List.nil_append]
          k_dflt (refine' insAt_K F7 N7 (i := k) ?hx ?hk ?Ui ?zi ?_; (case Ui => k_upd))
          case hx => exact ek
          case hk => (simp only [List.length_map, List.length_nil] at hk6 hlen1 ⊢; omega)
          case zi => omega
          intro h8 F8 N8
          w_strict k_steps
          unfold Stop
          dsimp only [TurnEnd]
          rename Fr g' L' _ _ => F9
          rename News g' L' _ _ => N9
          exact ⟨⟨_, _, _, _, _, _⟩, _, _, rfl, fr_ab (a := Str.ofString "x") (b := Str.ofString "word") F9 (by rfl) (by rfl) (fun y n1 n2 => by simp only [if_neg n1, if_neg n2]), News.tail' (News.tail' N9), off_same (by rfl) off, _, _, strs_ins h1 k, h2', goodW_ins hG⟩

      · unfold Stop
        rename Fr g' L' _ _ => F5
        rename News g' L' _ _ => N5
        obtain ⟨k, hk6, ek⟩ := place (x := Int.fdiv k9 8) (n := (List.map wordStr words).length) hne2
        obtain ⟨y, hy⟩ : ∃ y, words[k]? = some y := ⟨words[k]'(by rw [List.length_map] at hk6; exact hk6), List.getElem?_eq_getElem _⟩
        obtain ⟨ty, hty⟩ := strs_at h1 hy
        have hy12 : y.length ≤ 12 := hG.1.2 y (List.mem_append_left _ (List.mem_of_getElem? hy))
        dsimp only [List.cons_append, List.nil_append]
        k_dflt (refine' popAt_K F5 N5 (i := k) ek hty ?Uq ?zq ?_; (case Uq => k_upd))
        case zq => omega
        intro h6 F6 N6
        w_strict k_steps
        unfold Stop
        rename Fr g' L' _ _ => F7
        rename News g' L' _ _ => N7
        dsimp only [List.cons_append, List.nil_append]
        k_dflt (refine' append_K F7 N7 ?Ua ?_ ?Uz; (case Ua => k_upd))
        case Uz => rw [List.size_toArray, sizeLine_eq]; omega
        intro h8 F8 N8
        w_strict k_steps
        unfold Stop
        dsimp only [TurnEnd]
        rename Fr g' L' _ _ => F9
        rename News g' L' _ _ => N9
        rw [List.push_toArray] at N9
        exact ⟨⟨_, _, _, _, _, _⟩, _, _, rfl, fr_ab (a := Str.ofString "x") (b := Str.ofString "word") F9 (by rfl) (by rfl) (fun y n1 n2 => by simp only [if_neg n1, if_neg n2]), News.tail' N9, off_same (by rfl) off, _, aside ++ [y], strs_del h1 k, by rw [List.map_append]; exact h2.append' (.cons _ _ .nil), goodW_del hG hy⟩
      · unfold Stop
        rename Fr g' L' _ _ => F5
        rename News g' L' _ _ => N5
        obtain ⟨k, hk6, ek⟩ := place (x := Int.fdiv k9 8) (n := (List.map wordStr words).length) hne2
        obtain ⟨y, hy⟩ : ∃ y, words[k]? = some y := ⟨words[k]'(by rw [List.length_map] at hk6; exact hk6), List.getElem?_eq_getElem _⟩
        obtain ⟨ty, hty⟩ := strs_at h1 hy
        have hy12 : y.length ≤ 12 := hG.1.2 y (List.mem_append_left _ (List.mem_of_getElem? hy))
        refine item_listL (News.isList N5 (by k_mem)) (by rw [ek]; omega) (by rw [ek]; rw [List.length_map] at hk6; omega) (by rw [ek, Int.toNat_natCast]; exact hty) ?_
        w_strict k_steps
        · unfold Stop
          rename ((wordStr y).length : Int) < 12 => hy11
          rw [wordStr_len] at hy11
          rename Fr g' L' _ _ => F6
          rename News g' L' _ _ => N6
          dsimp only [List.cons_append, List.nil_append]
          k_dflt (refine' popAt_K F6 N6 (i := k) ek hty ?Uq ?zq ?_; (case Uq => k_upd))
          case zq => omega
          intro h7 F7 N7
          have hdl := del_len hy
          have h1b := strs_del h1 k
          have hbl := h1b.length
          rw [List.length_map] at hbl
          w_strict k_steps
          refine add_small (by rw [wordStr_len]; omega) (by rw [show (Str.ofString "0").length = 1 by decide +kernel]; decide) fun t1 tk1 => ?_
          have e0 : wordStr y ++ Str.ofString "0" = wordStr (y ++ [false]) := by simpa using wordStr_snoc y false
          have e1 : wordStr y ++ Str.ofString "1" = wordStr (y ++ [true]) := by simpa using wordStr_snoc y true
          rw [e0]
          w_strict k_steps
          unfold Stop
          rename Fr g' L' _ _ => F8
          rename News g' L' _ _ => N8
          obtain ⟨k1, hk1, ek1⟩ := place (x := Int.fdiv k9 128) (n := (List.map wordStr (delAt words k)).length + 1) (by omega)
          dsimp only [List.cons_append, List.nil_append]
          k_dflt (refine' insAt_K F8 N8 (i := k1) ek1 ?hk ?Ui ?zi ?_; (case Ui => k_upd))
          case hk => (rw [List.length_map] at hk1; omega)
          case zi => omega
          intro h9 F9 N9
          have h1c := strs_ins h1b k1 (y := y ++ [false]) (t := t1)
          have hcl := h1c.length
          rw [List.length_map] at hcl
          have hil := ins_len (l := delAt words k) (k := k1) (y := y ++ [false])
          w_strict k_steps
          refine add_small (by rw [wordStr_len]; omega) (by rw [show (Str.ofString "1").length = 1 by decide +kernel]; decide) fun t2 tk2 => ?_
          rw [e1]
          w_strict k_steps
          unfold Stop
          rename Fr g' L' _ _ => Fb
          rename News g' L' _ _ => Nb
          obtain ⟨k2, hk2, ek2⟩ := place (x := Int.fdiv k9 1024) (n := (List.map wordStr (insAt (delAt words k) k1 (y ++ [false]))).length + 1) (by omega)
          dsimp only [List.cons_append, List.nil_append]
          k_dflt (refine' insAt_K Fb Nb (i := k2) ek2 ?hk2 ?Uj ?zj ?_; (case Uj => k_upd))
          case hk2 => (rw [List.length_map] at hk2; omega)
          case zj => omega
          intro hc Fc Nc
          w_strict k_steps
          unfold Stop
          dsimp only [TurnEnd]
          rename Fr g' L' _ _ => Fd
          rename News g' L' _ _ => Nd
          exact ⟨⟨_, _, _, _, _, _⟩, _, _, rfl, fr_ab (a := Str.ofString "x") (b := Str.ofString "word") Fd (by rfl) (by rfl) (fun y n1 n2 => by simp only [if_neg n1, if_neg n2]), News.tail' Nd, off_same (by rfl) off, _, _, strs_ins h1c k2, h2, goodW_split hG hy (by omega)⟩
        · unfold Stop
          dsimp only [TurnEnd]
          rename Fr g' L' _ _ => F9
          rename News g' L' _ _ => N9
          exact ⟨⟨_, _, _, _, _, _⟩, _, _, rfl, fr_ab (a := Str.ofString "x") (b := Str.ofString "word") F9 (by rfl) (by rfl) (fun y n1 n2 => by simp only [if_neg n1, if_neg n2]), News.tail' N9, off_same (by rfl) off, _, _, h1, h2, goodW_same hG⟩
  case fin1 =>
    intro I d h tk F3 N3 ⟨words, aside, h1, h2, hG⟩
    obtain ⟨u1, uw1, wv, zw, av, za⟩ := d
    dsimp only at *
    clear F1 N1 F1b
    subst hm₀
    w_strict k_steps
    rename News h₀ L _ _ => N9
    rename Fr h₀ L _ _ => F9
    exact rS _ _ R' zw wv words F9 (N9.perm (fun q hq => .tail _ (.tail _ hq))) h1 (hG.1.sub (List.sublist_append_left _ _)) (by have := hG.2.2; omega) (by assumption)
end Mine
end
section
open PySem PySem.W PyProof.Rows PySem.Spec PySem.Calls
set_option maxRecDepth 100000
namespace Mine
section
open LCg LCt
variable {prog : Program} {w : World} {A : Around} {E : Value → Shared → Prop} {s : Shared} {h₀ : Heap} {L : Addr} {m : Str → Option Value} {env : Env}
theorem comp_inv {δ : Type} {elt : Expr} {x : Str} {scope : Scope} {cl : List (Str × Addr)} {Fin : List Value → List (Addr × Obj) → Prop} {S : List (Addr × Obj) → Prop} {P : Nat → Value → Prop} {n : Nat} (LED : δ → List (Addr × Obj)) (J : Nat → List Value → δ → Prop) (d0 : δ) (h0 : J 0 [] d0)
    (turn : ∀ (i : Nat) (d : δ) v I oI C oC D m₂ ys h tk (E' : Value → Shared → Prop), i < n → P i v → J i ys d → NsObj oC m₂ → m₂ x = some v → Fr h₀ L h m → News h₀ L h ((I, oI) :: (C, oC) :: (D, lst ys) :: LED d) → Off3 I C D (LED d) → ((@Ne Nat I C) ∧ (@Ne Nat I D) ∧ (@Ne Nat C D)) →
      wpAny (model prog w) A (eval elt (compEnvC scope cl C env)) (CompEnd h₀ L m { s with heap := h, toks := tk } I oI C oC D (lst ys) S (fun y news' => ∃ d', news' = LED d' ∧ J (i + 1) (ys ++ [y]) d')) E' { s with heap := h, toks := tk })
    (fin : ∀ (ys : List Value) (d : δ), ys.length = n → J n ys d → Fin ys (LED d)) : CompRest prog w A h₀ L m env elt x scope cl s S P Fin n 0 [] (LED d0) := by
  have key : ∀ (j i : Nat) (ys : List Value) (d : δ), i + j = n → ys.length = i → J i ys d → CompRest prog w A h₀ L m env elt x scope cl s S P Fin j i ys (LED d) := by
    intro j
    induction j with
    | zero =>
      intro i ys d hi hl hr
      have : i = n := by omega
      subst this
      exact CompRest.zero (fin ys d hl hr)
    | succ j ih =>
      intro i ys d hi hl hr
      refine CompRest.succ ?_
      intro v I oI C oC D m₂ h tk E' hv hC hx F N off ne
      refine wpAny_mono (turn i d v I oI C oC D m₂ _ h tk E' (by omega) hv hr hC hx F N off ne) (fun v s₂ hq => ?_) fun _ _ e => e
      obtain ⟨h', tk', nw, e, F', N', off', hS, d', hn, hy'⟩ := hq
      rw [hn] at N' off' hS
      exact ⟨h', tk', LED d', e, F', N', off', hS, ih (i + 1) _ d' (by omega) (by simp [hl]) hy'⟩
  exact key n 0 [] d0 (by omega) rfl h0
theorem comp_words {ct elt : Expr} {x : Str} {scope : Scope} {cl : List (Str × Addr)} {Fin : List Value → List (Addr × Obj) → Prop} {news : List (Addr × Obj)} {S : List (Addr × Obj) → Prop} {P : Nat → Value → Prop} (src : List Wd) (keep : Wd → Bool)
    (hP : ∀ i v, P i v → i < src.length → ∃ a t, src[i]? = some a ∧ v = .str (wordStr a) t)
    (turn : ∀ (i : Nat) (a : Wd) t I oI C oC D m₂ ys h tk (E' : Value → Shared → Prop), src[i]? = some a → NsObj oC m₂ → m₂ x = some (.str (wordStr a) t) → Fr h₀ L h m → News h₀ L h ((I, oI) :: (C, oC) :: (D, lst ys) :: news) → Off3 I C D news → ((@Ne Nat I C) ∧ (@Ne Nat I D) ∧ (@Ne Nat C D)) →
      wpAny (model prog w) A (isTrue ct (compEnvC scope cl C env) (eval ct (compEnvC scope cl C env))) (fun ok s' => if ok = true then
        wpAny (model prog w) A (eval elt (compEnvC scope cl C env)) (CompEnd h₀ L m { s with heap := h, toks := tk } I oI C oC D (lst ys) S (fun y news' => news' = news ∧ keep a = true ∧ ∃ u, y = .str (wordStr a) u)) E' s'
        else CompEnd h₀ L m { s with heap := h, toks := tk } I oI C oC D (lst ys) S (fun _ news' => news' = news ∧ keep a = false) Value.none s') E' { s with heap := h, toks := tk })
    (fin : ∀ ys : List Value, StrsAre ys ((src.filter keep).map wordStr) → Fin ys news) : CompRestT prog w A h₀ L m env ct elt x scope cl s S P Fin src.length 0 [] news := by
  have key : ∀ (j i : Nat) (ys : List Value), i + j = src.length → StrsAre ys (((src.take i).filter keep).map wordStr) → CompRestT prog w A h₀ L m env ct elt x scope cl s S P Fin j i ys news := by
    intro j
    induction j with
    | zero =>
      intro i ys hi hr
      refine CompRestT.zero (fin ys ?_)
      rw [List.take_of_length_le (by omega)] at hr
      exact hr
    | succ j ih =>
      intro i ys hi hr
      refine CompRestT.succ ?_
      intro v I oI C oC D m₂ h tk E' hv hC hmx F N off ne
      obtain ⟨a, t, ha, rfl⟩ := hP i v hv (by omega)
      have htk : src.take (i + 1) = src.take i ++ [a] := by rw [List.take_add_one, ha]; rfl
      refine wpAny_mono (turn i a t I oI C oC D m₂ _ h tk E' ha hC hmx F N off ne) (fun ok s' hq => ?_) fun _ _ e => e
      cases ok with
      | true =>
        simp only [if_true] at hq ⊢
        refine wpAny_mono hq (fun y s₂ hq => ?_) fun _ _ e => e
        obtain ⟨h', tk', nw, e, F', N', off', hS, hn, hk, u, hy⟩ := hq
        rw [hn] at N' off' hS
        subst hy
        refine ⟨h', tk', news, e, F', N', off', hS, ih (i + 1) _ (by omega) ?_⟩
        rw [htk, List.filter_append, show [a].filter keep = [a] by simp [List.filter_cons, hk], List.map_append]
        exact hr.append' (.cons _ _ .nil)
      | false =>
        simp only [Bool.false_eq_true, if_false] at hq ⊢
        obtain ⟨h', tk', nw, e, F', N', off', hS, hn, hk⟩ := hq
        rw [hn] at N' off' hS
        refine ⟨h', tk', news, e, F', N', off', hS, ih (i + 1) _ (by omega) ?_⟩
        rw [htk, List.filter_append, show [a].filter keep = [] by simp [List.filter_cons, hk], List.append_nil]
        exact hr
  exact key src.length 0 [] (by omega) .nil
theorem src_words {its : List Value} {src : List Wd} (h : StrsAre its (src.map wordStr)) : ∀ (i : Nat) (v : Value), its.toArray[i]? = some v → i < src.length → ∃ b t, src[i]? = some b ∧ v = .str (wordStr b) t := by
  intro i v hv hi
  obtain ⟨t, e⟩ := strs_at h (List.getElem?_eq_getElem hi)
  have hv' : its[i]? = some v := by simpa using hv
  rw [e] at hv'
  exact ⟨_, t, List.getElem?_eq_getElem hi, (Option.some.inj hv').symm⟩
end
end Mine
end
section
open PySem PySem.W PyProof.Rows
set_option maxRecDepth 100000
local macro_rules | `(tactic| k_all) => `(tactic| assumption)
local macro_rules | `(tactic| k_room) => `(tactic| ktr_room)
local macro_rules | `(tactic| ke_room) => `(tactic| ktr_units)
local macro_rules | `(tactic| k_units) => `(tactic| ktr_units)
local macro_rules | `(tactic| k_ne) => `(tactic| (refine neN ?_; (try dsimp only); first | (with_reducible assumption) | ((with_reducible refine Ne.symm ?_); (with_reducible assumption))))
local macro_rules | `(tactic| walk_at "call ref") => `(tactic| (refine Mine.stop_here ?_))
local macro_rules | `(tactic| walk_at "eval Dict nil nil") => `(tactic| (k_here; k_dflt (refine' Mine.dict_new ?F ?N ?T ?_; (case F => k_asm); (case N => k_asm); (case T => k_asm); k_whole); intro d' h' F' N' l1 e1; (try k_lt l1); (try k_sweep)))
local macro_rules | `(tactic| walk_at "eval ListComp") => `(tactic| (refine Mine.stop_here ?_))
local macro_rules | `(tactic| walk_at "exec Assign cons ListComp") => `(tactic| (refine Mine.stop_here ?_))
local macro_rules | `(tactic| walk_at "compareOp NotEq ref ref") => `(tactic| (refine Mine.stop_here ?_))
local macro_rules | `(tactic| walk_at "compareOp Eq ref ref") => `(tactic| (refine Mine.stop_here ?_))
local macro_rules | `(tactic| walk_at "compareOp Is ref ref") => `(tactic| (refine Mine.stop_here ?_))
local macro_rules | `(tactic| walk_at "WPost") => `(tactic| (refine Mine.stop_here ?_))
local macro_rules | `(tactic| walk_at "CompEnd") => `(tactic| ((with_reducible show LCg.CompEnd _ _ _ _ _ _ _ _ _ _ _ _ _ _); refine Mine.stop_here ?_))
local macro_rules | `(tactic| walk_at "exec While") => `(tactic| (refine Mine.stop_here ?_))
local macro_rules | `(tactic| walk_at "subscriptTail") => `(tactic| ((with_reducible show wpAny _ _ (subscriptTail _ _ (Value.ref _) (Value.int _ _)) _ _ _); refine Mine.stop_here ?_))
local macro_rules | `(tactic| walk_at "call builtin:len") => `(tactic| ((with_reducible show wpAny _ _ (call (Value.builtin _) [Value.ref _]) _ _ _); refine Mine.stop_here ?_))
local macro_rules | `(tactic| walk_at "storeName") => `(tactic| ((with_reducible show wpAny _ _ (storeName _ (PySem.Str.ofString "head") _) _ _ _); refine Mine.stop_here ?_))
local macro_rules | `(tactic| walk_at "subscriptTail") => `(tactic| (k_here; (with_reducible show wpAny _ _ (subscriptTail _ _ (Value.str _ _) (Value.ref _)) _ _ _); refine Mine.stop_here ?_))
local macro_rules | `(tactic| walk_at "binaryOp Pow int int") => `(tactic| (k_here; (refine PyProof.Rows.pow_int_small (by rw [Mine.wordStr_len]; omega) (by rw [Mine.wordStr_len]; omega) (by decide) ?_)))
local macro_rules | `(tactic| walk_at "CompSrcT") => `(tactic| (refine Mine.stop_here ?_))
local macro_rules | `(tactic| walk_at "CompSrc") => `(tactic| (refine Mine.stop_here ?_))
local macro_rules | `(tactic| walk_at "call type:list") => `(tactic| (refine Mine.stop_here ?_))
local macro_rules | `(tactic| walk_at "AfterTry") => `(tactic| (refine Mine.stop_here ?_))
local macro_rules | `(tactic| walk_at "exec Try") => `(tactic| ((fail_if_success (with_reducible show wpAny _ _ _ (Mine.AfterTry _) _ _)); refine Mine.stop_here ?_))
local macro_rules | `(tactic| walk_at "call builtin:len") => `(tactic| (k_here; (with_reducible show wpAny _ _ (call (Value.builtin _) [Value.str (Mine.wordStr _) _]) _ _ _); refine PyProof.Rows.len_str (by (rw [Mine.wordStr_len]; omega)) ?_))
set_option hygiene false
local macro_rules | `(tactic| kn_posts) => `(tactic| refine Mine.kn_postB hT9 (fun _ _ => rfl) ?_)
set_option hygiene true
namespace Mine
abbrev led6 (ND : Addr) (σ : WS) (rest : List (Addr × Obj)) : List (Addr × Obj) := (ND, σ.oN) :: (580, σ.tab) :: (rest ++ σ.G)
theorem led6_in {i c d : Addr × Obj} {ND : Addr} {σ : WS} {rest : List (Addr × Obj)} : ∀ q ∈ wled ND σ (i :: c :: d :: rest), q ∈ i :: c :: d :: led6 ND σ rest := by
  intro q hq; simp only [List.mem_cons, List.mem_append] at hq ⊢; grind
theorem led6_out {i c d : Addr × Obj} {ND : Addr} {σ : WS} {rest : List (Addr × Obj)} : ∀ q ∈ i :: c :: d :: led6 ND σ rest, q ∈ wled ND σ (i :: c :: d :: rest) := by
  intro q hq; simp only [List.mem_cons, List.mem_append] at hq ⊢; grind
theorem row_led {h₀ h : Heap} {L ND : Addr} {oN o5 : Obj} {a b c : Addr × Obj} (N : News h₀ L h [(ND, oN), a, b, c, (580, o5)]) : ∃ rest, rest = [a, b, c] ∧ News h₀ L h (led6 ND ⟨[], oN, 0, o5, []⟩ rest) :=
  ⟨_, rfl, N.perm fun q hq => by simp only [List.mem_cons, List.mem_append] at hq ⊢; grind⟩
theorem cells_name6 {h₀ h : Heap} {L : Addr} {D N5 c R hc nc : Addr} {o1 o2 o3 o4 oh on : Obj} {G : List (Addr × Obj)} (N : News h₀ L h ((D, o1) :: (N5, o2) :: (c, o3) :: (R, o4) :: (hc, oh) :: (nc, on) :: G)) :
    ∃ oh' on', oh' = oh ∧ on' = on ∧ News h₀ L h ((D, o1) :: (N5, o2) :: (c, o3) :: (R, o4) :: (hc, oh') :: (nc, on') :: G) := ⟨_, _, rfl, rfl, N⟩
theorem led6_try {D R hc nc a b : Addr × Obj} {G : List (Addr × Obj)} : ∀ q ∈ D :: a :: b :: (G ++ [D, R, hc, nc]), q ∈ D :: a :: b :: R :: hc :: nc :: G := by
  intro q hq; simp only [List.mem_cons, List.mem_append, List.not_mem_nil, or_false] at hq ⊢; grind
theorem strs_row6 : ∀ {ys : List Value} {ws : List Wd}, ys.length = ws.length → (∀ (i : Nat) (y : Value), ys[i]? = some y → ∃ v t, ws[i]? = some v ∧ y = .str (wordStr v) t) → StrsAre ys (ws.map wordStr)
  | [], [], _, _ => .nil
  | [], _ :: _, h, _ => by simp at h
  | _ :: _, [], h, _ => by simp at h
  | y :: r, v :: ws, h, k => by
    obtain ⟨v', t, h1, h2⟩ := k 0 y rfl
    cases h1
    subst h2
    exact .cons _ _ (strs_row6 (Nat.succ.inj h) fun i y hy => k (i + 1) y hy)
theorem filter_none {words : List Wd} {v : Wd} (h : ∀ w ∈ words, v <+: w) : words.filter (fun w => !decide (w.take v.length = v)) = [] := by
  rw [List.filter_eq_nil_iff]
  intro a ha
  rw [decide_eq_true (take_prefix.mpr (h a ha))]
  decide
theorem filter_some {words : List Wd} {v : Wd} (h : ¬ ∀ w ∈ words, v <+: w) : words.filter (fun w => !decide (w.take v.length = v)) ≠ [] := fun e => h fun a ha => by
  rw [List.filter_eq_nil_iff] at e
  have := e a ha
  exact take_prefix.mp (by simpa using this)
theorem bne_words {a b : Wd} : (wordStr a != wordStr b) = !decide (a = b) := by
  by_cases e : a = b
  · subst e; simp
  · rw [decide_eq_false e, bne_iff_ne.mpr (fun z => e (wordStr_inj z))]; rfl
theorem pow_word {a : Wd} (h : a.length ≤ 12) : ((2 : Int) ^ ((12 : Int) - ((wordStr a).length : Nat)).toNat) = 2 ^ (12 - a.length) := by
  rw [wordStr_len, show ((12 : Int) - (a.length : Nat)).toNat = 12 - a.length by omega]
theorem ints_row6 : ∀ {ys : List Value} {ws : List Wd}, ys.length = ws.length → (∀ (i : Nat) (y : Value), ys[i]? = some y → ∃ a t, ws[i]? = some a ∧ y = .int (2 ^ (12 - a.length)) t) → IntsAre ys (ws.map fun a => ((2 ^ (12 - a.length) : Nat) : Int))
  | [], [], _, _ => .nil
  | [], _ :: _, h, _ => by simp at h
  | _ :: _, [], h, _ => by simp at h
  | y :: r, v :: ws, h, k => by
    obtain ⟨v', t, h1, h2⟩ := k 0 y rfl
    cases h1
    subst h2
    have := IntsAre.cons (((2 ^ (12 - v.length) : Nat) : Int)) t (ints_row6 (Nat.succ.inj h) fun i y hy => k (i + 1) y hy)
    have e : (((2 ^ (12 - v.length) : Nat) : Int)) = 2 ^ (12 - v.length) := by simp
    rw [← e]
    exact this
theorem sum_words {ws : List Wd} : (ws.map fun a => ((2 ^ (12 - a.length) : Nat) : Int)).sum = ((wsum ws : Nat) : Int) := by
  induction ws with
  | nil => rfl
  | cons a r ih => rw [List.map_cons, List.sum_cons, ih, wsum_cons]; simp
theorem led6_nd {ND : Addr × Obj} {r s : List (Addr × Obj)} : ∀ q ∈ ND :: (r ++ s), q ∈ r ++ ND :: s := by
  intro q hq; simp only [List.mem_cons, List.mem_append] at hq ⊢; grind
def ToldW (τ : WS) (sub : List (Wd × Wd)) (tv : Value) (LX : List (Addr × Obj)) : Prop :=
  (∃ S c k y, tv = .ref S ∧ LX = [(S, W.listOf #[.ref (τ.X y)] c)] ∧ sub = [(k, y)] ∧ τ.dom y) ∨ (∃ S c, tv = .ref S ∧ LX = [(S, W.listOf #[] c)] ∧ sub = []) ∨ (tv = .none ∧ LX = [] ∧ 2 ≤ sub.length)
theorem led6_g {g D a b : Addr × Obj} {G r : List (Addr × Obj)} : ∀ q ∈ D :: a :: b :: (G ++ (g :: r)), q ∈ g :: D :: a :: b :: (G ++ r) := by
  intro q hq; simp only [List.mem_cons, List.mem_append] at hq ⊢; grind
theorem led6_s {S D R hc nc a b : Addr × Obj} {G : List (Addr × Obj)} : ∀ q ∈ D :: a :: b :: R :: hc :: nc :: ([S] ++ G), q ∈ S :: a :: b :: (G ++ [D, R, hc, nc]) := by
  intro q hq; simp only [List.mem_cons, List.mem_append, List.not_mem_nil, or_false] at hq ⊢; grind
theorem led6_e {D R hc nc a b : Addr × Obj} {G : List (Addr × Obj)} : ∀ q ∈ D :: a :: b :: R :: hc :: nc :: ([] ++ G), q ∈ a :: b :: (G ++ [D, R, hc, nc]) := by
  intro q hq; simp only [List.mem_cons, List.mem_append, List.not_mem_nil, or_false] at hq ⊢; grind
def RowIs (w : World) (ND : Addr) (words : List Wd) (i : Nat) (ys : List Value) (σ : WS) : Prop := WOk w ND σ ∧ (∀ v ∈ words.take i, σ.dom v) ∧ ys = refs σ.X (words.take i) ∧ σ.ks.length ≤ i
theorem RowIs.start {w : World} {ND : Addr} {words : List Wd} : RowIs w ND words 0 [] ⟨[], dictOf [] 0, 0, tabObj #[], []⟩ :=
  ⟨⟨kp_isDict (w := w) (ex := []) 0 0 .nil, .inl ⟨rfl, rfl⟩, (fun p hp => nomatch hp), .nil, .nil, (fun p hp => nomatch hp)⟩, (fun v hv => nomatch hv), rfl, Nat.le_refl _⟩
theorem RowIs.next {w : World} {ND x : Addr} {words : List Wd} {i : Nat} {ys : List Value} {σ τ : WS} {v : Wd} (R : RowIs w ND words i ys σ) (hv : words[i]? = some v) (O : WOk w ND τ) (e : Ext σ τ) (hx : τ.ks.lookup v = some x) (hl : τ.ks.length ≤ σ.ks.length + 1) : RowIs w ND words (i + 1) (ys ++ [.ref x]) τ := by
  obtain ⟨_, h1, h2, h3⟩ := R
  have ht : words.take (i + 1) = words.take i ++ [v] := by rw [List.take_add_one, hv]; rfl
  have hX : τ.X v = x := by rw [WS.X, hx]; rfl
  refine ⟨O, fun a ha => ?_, ?_, by omega⟩
  · rw [ht] at ha
    rcases List.mem_append.mp ha with ha | ha
    · exact e.dom (h1 a ha)
    · rw [List.mem_singleton.mp ha]; exact ⟨x, hx⟩
  · rw [ht, h2, refs_ext e h1]
    unfold refs
    rw [List.map_append]
    show _ = _ ++ [Value.ref (τ.X v)]
    rw [hX]
set_option maxHeartbeats 16000000 in
set_option pp.deepTerms false in
set_option pp.deepTerms.threshold 8 in
theorem fin06 : PySem.Challenge.rw_km0038_06.Holds := hd (by
  w_on
  w_strict (k_go0; (all_goals try k_fold); k_steps)
  unfold Stop
  rename Fr _ _ _ _ => F1
  rename News _ _ _ _ => N1
  rename Below _ _ _ _ => B1
  rename PySem.W.Frag.In _ _ => X1
  rename Top _ _ _ _ _ (ghostOf _ _) => T1
  rename PySem.World => w
  rename List Int => scr
  rename PySem.Shared => s1
  have hn1 : scr.length ≤ 63 := by omega
  rename PySem.Heap.IsList (ghostOf _ _) _ _ => hL1
  rename IntsAre _ scr => hI1
  refine words06 w (outer := []) B1 F1 X1 N1 T1 (by rfl) (by rfl) hL1 hI1 hn1 ?dp1 ?un1 ?rS1
  (case dp1 => ktr_room)
  (case un1 => ktr_units)
  case rS1 =>
    intro h2 tk2 R z vs words F2 N2 hvs hC12 hw41 hlt2
    have hlt3 := hlt2 _ (.head _)
    have hlt4 := hlt2 _ (.tail _ (.head _))
    have hlt5 := hlt2 _ (.tail _ (.tail _ (.head _)))
    dsimp only at hlt3 hlt4 hlt5
    clear F1 N1 hlt2
    w_strict k_steps
    unfold Stop
    rename Fr _ _ _ _ => F3
    rename News _ _ _ _ => N3
    obtain ⟨ND, eND, N3b⟩ := head_name N3
    subst eND
    clear N3
    obtain ⟨l1a, l1b, l1c, l1d⟩ := (by assumption : R < ND ∧ s1.heap.objs.size + 1 + 1 < ND ∧ s1.heap.objs.size + 1 < ND ∧ 580 < ND)
    rename (ND == sysModules) = false => hlo
    have hvl := hvs.length
    rw [List.length_map] at hvl
    refine LCg.Assign_ListComp_U F3 (by rfl) (by with_unfolding_all rfl) (by with_unfolding_all rfl) (by decide) (by rfl) (by decide) (by rfl) (by rfl) (by rfl) ?_
    walk1
    obtain ⟨rest, hrest, N4⟩ := row_led N3b
    refine LCg.CompSrc.ledger (k := z) (by rfl) F3 N4 (by rw [hrest]; k_mem) (by rw [List.size_toArray, hvl, sizeLine_eq]; omega) fun g9 => ?_
    have hvz : vs.toArray.size = words.length := by rw [List.size_toArray, hvl]
    rw [hvz]
    have hw12 : ∀ v ∈ words, v.length ≤ 12 := hC12.2
    refine comp_inv (fun σ => led6 ND σ rest) (RowIs w ND words) _ RowIs.start ?turn1 ?fin1
    case turn1 =>
      intro i σ v I oI C oC D m₂ ys h tk E' hi hv hJ hC hmx F5 N5 off ne
      obtain ⟨a, ta, ha, rfl⟩ := src_words hvs i v hv hi
      have hal := hw12 a (List.mem_of_getElem? ha)
      subst hrest
      simp only [led6, List.cons_append, List.nil_append] at N5 off
      clear F3 N4 N3b
      w_strict k_steps
      unfold Stop
      rename Fr _ _ _ _ => F6
      rename News _ _ _ _ => N6
      subst ek
      have N7 := N6.perm (led6_in (rest := [(R, W.listOf vs.toArray z), (s1.heap.objs.size + 1 + 1, _), (s1.heap.objs.size + 1, _)]))
      have off3 := LCg.Off3.mem off
      have oND := off3 (ND, σ.oN) (.head _)
      have o580 := off3 (580, σ.tab) (.tail _ (.head _))
      dsimp only at oND o580
      have l41 := hJ.2.2.2
      refine net06 w (outer := []) B1 F6 X1 N7 hJ.1 hlo hal (by omega) T1 (by rfl) (by rfl) codeHd ?hoff2 l1d ?dp2 ?un2 ?rS2
      case hoff2 =>
        intro p hp
        simp only [List.mem_cons, List.not_mem_nil, or_false] at hp
        rcases hp with rfl | rfl | rfl | rfl | rfl | rfl
        · exact ⟨Ne.symm o580.1, Ne.symm oND.1⟩
        · exact ⟨Ne.symm o580.2.1, Ne.symm oND.2.1⟩
        · exact ⟨Ne.symm o580.2.2, Ne.symm oND.2.2⟩
        · exact ⟨Nat.ne_of_gt hlt5, Nat.ne_of_lt l1a⟩
        · exact ⟨by show s1.heap.objs.size + 1 + 1 ≠ 580; omega, Nat.ne_of_lt l1b⟩
        · exact ⟨by show s1.heap.objs.size + 1 ≠ 580; omega, Nat.ne_of_lt l1c⟩
      (case dp2 => ktr_room)
      (case un2 => ktr_units)
      intro h8 tk8 τ x F8 N8 O8 e8 x8 k8 g8
      have hJ8 := hJ.next ha O8 e8 x8 k8
      refine LCg.CompEnd.intro F8 (N8.perm led6_out) (led6 ND τ [(R, W.listOf vs.toArray z), (s1.heap.objs.size + 1 + 1, _), (s1.heap.objs.size + 1, _)]) (fun p hp => hp) (LCg.Off3.of fun p hp => ?_) (.inr ⟨W.listOf vs.toArray z, by k_mem, rfl, z, rfl⟩) ⟨τ, rfl, hJ8⟩
      rcases List.mem_append.mp (show p ∈ ((ND, τ.oN) :: (580, τ.tab) :: (R, W.listOf vs.toArray z) :: (s1.heap.objs.size + 1 + 1, _) :: [(s1.heap.objs.size + 1, _)]) ++ τ.G from hp) with hp | hp
      · simp only [List.mem_cons, List.not_mem_nil, or_false] at hp
        rcases hp with rfl | rfl | rfl | rfl | rfl
        · exact oND
        · exact o580
        · exact off3 (R, W.listOf vs.toArray z) (.tail _ (.tail _ (.head _)))
        · exact off3 (s1.heap.objs.size + 1 + 1, _) (.tail _ (.tail _ (.tail _ (.head _))))
        · exact off3 (s1.heap.objs.size + 1, _) (.tail _ (.tail _ (.tail _ (.tail _ (.head _)))))
      · rcases g8 p hp with hp | hp
        · exact off3 p (.tail _ (.tail _ (.tail _ (.tail _ (.tail _ hp)))))
        · exact ⟨Nat.ne_of_gt (hp (I, oI) (.head _)), Nat.ne_of_gt (hp (C, oC) (.tail _ (.head _))), Nat.ne_of_gt (hp (D, LCg.lst ys) (.tail _ (.tail _ (.head _))))⟩
    case fin1 =>
      intro ys σ hyl hJ D h7 tk7 F5 N5 off
      obtain ⟨hO, hdom, hys, hkl⟩ := hJ
      rw [List.take_length] at hdom hys
      subst hys
      subst hrest
      simp only [led6, List.cons_append, List.nil_append] at N5 off
      have offD := off1_mem off
      clear F3 N4 N3b
      w_strict k_steps
      unfold Stop
      rename Fr _ _ _ _ => F20
      rename News _ _ _ _ => N20
      obtain ⟨m₂, hm₂, F21⟩ := fr_name F20
      obtain ⟨ST, hST⟩ := stand_name B1 X1 T1
      obtain ⟨oh, on, eoh, eon, N21⟩ := cells_name6 N20
      subst eoh
      subst eon
      clear N20
      obtain ⟨cvh, hcvh⟩ : ∃ c, oh.data = .cell c := ⟨_, by assumption⟩
      obtain ⟨sub, hsub⟩ : ∃ sub, sub = (cfin List.dropLast ⟨words, [], []⟩).sub := ⟨_, rfl⟩
      refine mid (fun s' => ∃ (g' h : Heap) (tk : Nat) (tv : Value) (τ : WS) (LX : List (Addr × Obj)), s' = { s1 with gens := s1.gens.push .finished, heap := h, toks := tk } ∧
        Fr g' s1.heap.objs.size h (fun y => if y = Str.ofString "told" then some tv else m₂ y) ∧
        News g' s1.heap.objs.size h ((D, LCg.lst (refs σ.X words)) :: (ND, τ.oN) :: (580, τ.tab) :: (R, W.listOf vs.toArray z) :: (s1.heap.objs.size + 1 + 1, oh) :: (s1.heap.objs.size + 1, on) :: (LX ++ τ.G)) ∧
        WOk w ND τ ∧ Ext σ τ ∧ ToldW τ sub tv LX ∧ ST g' ∧ (∀ p ∈ LX ++ τ.G, p.1 ≠ s1.heap.objs.size + 1 + 1)) ?main3 ?rest3
      case rest3 =>
        intro s' ⟨g', h', tk', tv, τ, LX, e, F30, N30, hO3, hE3, htold, hST', hLX⟩
        subst e
        subst hST
        obtain ⟨T30, B30, X30, P30⟩ := hST'
        clear F20 N21 F21 B1 X1 T1
        subst hm₂
        obtain ⟨ps, hps⟩ : ∃ ps, τ.tab = tabObj ps := by
          rcases hO3.tabs with ⟨-, e⟩ | ⟨e, -⟩ <;> exact ⟨_, e⟩
        rw [hps] at N30
        obtain ⟨XG, hXG⟩ : ∃ XG, XG = LX ++ τ.G := ⟨_, rfl⟩
        rw [← hXG] at N30 hLX
        w_strict k_steps
        unfold Stop
        rename Fr g' _ _ _ => F31
        rename News g' _ _ _ => N31
        have hXin : ∀ p ∈ τ.G, p ∈ XG := fun p hp => by rw [hXG]; exact List.mem_append_right _ hp
        refine LCg.ListComp_U F31 (by with_unfolding_all rfl) (by decide) (by rfl) (by decide) (by rfl) ?_
        walk1
        refine LCg.CompSrc.ledger (by rfl) F31 N31 (by k_mem) (by rw [List.size_toArray, hyl, sizeLine_eq]; omega) fun g9 => ?_
        have hrz : (refs σ.X words).toArray.size = words.length := by rw [List.size_toArray, hyl]
        rw [hrz]
        refine comp_relP (fun i y => ∃ v t, words[i]? = some v ∧ y = .str (wordStr v) t) ?turn3 ?fin3
        case turn3 =>
          intro i v I oI C oC D2 m₃ ys h tk E' hv hC hmx F5 N5 off3 ne
          have hi : i < words.length := by
            rcases Nat.lt_or_ge i words.length with q | q
            · exact q
            · rw [Array.getElem?_eq_none (by rw [hrz]; exact q)] at hv; cases hv
          have ha : words[i]? = some words[i] := List.getElem?_eq_getElem hi
          obtain ⟨a, hae⟩ : ∃ a, a = words[i] := ⟨_, rfl⟩
          rw [← hae] at ha
          have had := hdom a (List.mem_of_getElem? ha)
          have hva : v = .ref (τ.X a) := by
            rw [List.getElem?_toArray, List.getElem?_map, ha] at hv
            rw [hE3.X had]
            exact (Option.some.inj hv).symm
          subst hva
          obtain ⟨d, q, pm, ctv, a1, a2, o1, o2, tt, i1, i2, q1, q2, q3, i3, -, -, -⟩ := hO3.at' (hE3.dom had)
          have N6 := add_two N5 (a := (τ.X a, instObj 556 d)) (b := (d, netD w.params q)) (.tail _ (.tail _ (.tail _ (.tail _ (.tail _ (.tail _ (.tail _ (.tail _ (.tail _ (hXin _ i1)))))))))) (.tail _ (.tail _ (.tail _ (.tail _ (.tail _ (.tail _ (.tail _ (.tail _ (.tail _ (hXin _ i2))))))))))
          clear N5 F31 N31
          w_strict k_steps
          unfold Stop
          rename Fr g' _ _ _ => F7
          rename News g' _ _ _ => N7
          exact LCg.CompEnd.intro F7 N7 _ (fun p hp => .tail _ (.tail _ hp)) off3 (.inr ⟨LCg.lst (refs σ.X words), by k_mem, rfl, _, rfl⟩) ⟨rfl, a, q.u0, ha, by rw [q1]⟩
        case fin3 =>
          intro ys hyl2 hrel D2 h5 tk5 F5 N5 o5
          (try dsimp only)
          have hys := strs_row6 hyl2 hrel
          clear F31 N31
          w_strict k_steps
          unfold Stop
          rename Fr g' _ _ _ => F32
          rename News g' _ _ _ => N32
          refine ne_strL (News.isList N32 (.head _)) (News.isList N32 (by k_mem)) hys hvs words_strOk words_strOk ?eu3 ?_
          case eu3 => ktr_units
          rw [show (!decide (List.map wordStr words = List.map wordStr words)) = false by simp]
          w_strict k_steps
          unfold Stop
          rename Fr g' _ _ _ => F33
          rename News g' _ _ _ => N33
          refine eq_strL (News.isList N33 (by k_mem)) (News.isList (items := #[]) N33 (.head _)) hvs .nil words_strOk (fun x hx => nomatch hx) ?eu4 ?_
          case eu4 => ktr_units
          replace N33 := News.tail' (News.tail' N33)
          by_cases hw : words = []
          · subst hw
            rw [decide_eq_true (by rfl)]
            have hs0 : sub = [] := by rw [hsub]; rfl
            rcases htold with ⟨S, c9, k9, y9, -, -, e9, -⟩ | ⟨S, c9, rfl, rfl, -⟩ | ⟨-, -, e9⟩
            · rw [hs0] at e9; cases e9
            rotate_left
            · rw [hs0] at e9; simp at e9
            subst hXG
            simp only [List.cons_append, List.nil_append] at N33 hLX
            skip
            w_strict k_steps
            unfold Stop
            rename Fr g' _ _ _ => F34
            rename News g' _ _ _ => N34
            refine eq_strL (News.isList (items := #[]) N34 (by k_mem)) (News.isList (items := #[]) N34 (.head _)) .nil .nil (fun x hx => nomatch hx) (fun x hx => nomatch hx) ?eu5 ?_
            case eu5 => ktr_units
            rw [decide_eq_true (by rfl)]
            refine ⟨good_turnB T30 F34 (bare_fin (by assumption)) (raisesW_false ?_) ?_, GrownAt.of N34 (by k_mem), True.intro⟩
            · wrow_none_raised
            · wrow_post
          · rw [decide_eq_false (by simpa using hw)]
            w_strict k_steps
            unfold Stop
            obtain ⟨y0, hy0⟩ : ∃ y, words[0]? = some y := by
              cases words with
              | nil => exact absurd rfl hw
              | cons a r => exact ⟨a, rfl⟩
            obtain ⟨t0, ht0⟩ := strs_at hvs hy0
            have hy0m := List.mem_of_getElem? hy0
            have hwpos : 0 < words.length := List.length_pos_iff.mpr hw
            rename Fr g' _ _ _ => F34
            rename News g' _ _ _ => N34
            refine item_listL (News.isList N34 (by k_mem)) (by omega) (by omega) ht0 ?_
            w_strict k_steps
            unfold Stop
            rename Fr g' _ _ _ => F35
            rename News g' _ _ _ => N35
            have oHD : D ≠ s1.heap.objs.size + 1 + 1 := fun e => offD (s1.heap.objs.size + 1 + 1, oh) (.tail _ (.tail _ (.tail _ (.head _)))) e.symm
            have oHN : ND ≠ s1.heap.objs.size + 1 + 1 := Nat.ne_of_gt l1b
            have oH5 : 580 ≠ s1.heap.objs.size + 1 + 1 := by omega
            have oHR : R ≠ s1.heap.objs.size + 1 + 1 := Nat.ne_of_gt hlt3
            have oHX : ∀ p ∈ (s1.heap.objs.size + 1, on) :: XG, p.1 ≠ s1.heap.objs.size + 1 + 1 := by
              simp only [List.forall_mem_cons]
              exact ⟨by omega, hLX⟩
            refine storeX_C F35 N35 (by rfl) (.tail oHD (.tail oHN (.tail oH5 (.tail oHR (.head oHX))))) hcvh fun h36 oh' F36 N36 hoh => ?_
            (try dsimp only at N36)
            w_strict k_steps
            unfold Stop
            rename Fr g' _ _ _ => F37
            rename News g' _ _ _ => N37
            obtain ⟨m₅, hm₅, F38⟩ := fr_name F37
            refine while_ind ?hEw (fun k s' => ∃ (h : Heap) (tk : Nat) (v : Wd) (t : Tok) (oc : Obj), k = v.length ∧ s' = { s1 with gens := s1.gens.push .finished, heap := h, toks := tk } ∧ Fr g' s1.heap.objs.size h m₅ ∧
              News g' s1.heap.objs.size h ((D, LCg.lst (refs σ.X words)) :: (ND, τ.oN) :: (580, tabObj ps) :: (R, W.listOf vs.toArray z) :: (s1.heap.objs.size + 1 + 1, oc) :: (s1.heap.objs.size + 1, on) :: XG) ∧
              oc.data = .cell (some (.str (wordStr v) t)) ∧ v.length ≤ 12 ∧ (∀ k : Wd, (∀ w ∈ words, k <+: w) → k <+: v)) ?turnW y0.length ?startW
            case hEw => first | passes_own | with_unfolding_all passes_own
            case startW => exact ⟨_, _, y0, _, _, rfl, rfl, F38, N37, hoh, hw12 y0 hy0m, fun k hk => hk y0 hy0m⟩
            case turnW =>
              intro k s' ⟨h, tk, v, t, oc, ek, e, F42, N42, hoc, hv12, hpre⟩
              subst e
              (try clear F38)
              (try clear N38)
              (try clear F37)
              (try clear N37)
              (try clear F36)
              (try clear N36)
              (try clear F35)
              (try clear N35)
              (try clear F34)
              (try clear N34)
              (try clear F33)
              (try clear N33)
              (try clear F32)
              (try clear N32)
              subst hm₅
              (try dsimp only at F42)
              w_strict k_steps
              unfold Stop
              rename Fr g' _ _ _ => F43
              rename News g' _ _ _ => N43
              refine LCt.ListComp_T F43 (by with_unfolding_all rfl) (by decide) (by rfl) (by decide) (by rfl) ?_
              w_strict k_steps
              unfold Stop
              refine LCt.CompSrcT.ledger (its := vs.toArray) (k := z) (by rfl) F43 N43 (by k_mem) (by rw [hvz, sizeLine_eq]; omega) fun g7 => ?_
              rw [hvz]
              refine comp_words words (fun w => !decide (w.take v.length = v)) (src_words hvs) ?turnI ?finI
              case turnI =>
                intro i2 a t2 I2 oI2 C2 oC2 D2 m₄ ys2 h2 tk2 E2 ha2 hC2 hmx2 F50 N50 off2 ne2
                (try clear F42)
                (try clear N42)
                (try clear F43)
                (try clear N43)
                w_strict k_steps
                unfold Stop
                rename Fr g' _ _ _ => F51
                rename News g' _ _ _ => N51
                refine slice_strN_ns (s := ⟨_, _, _, _, _⟩) F51 N51 ?_ (hsz := by rw [wordStr_len, sizeLine_eq]; have := hw12 a (List.mem_of_getElem? ha2); omega)
                intro h52 t52 k52 F52 N52
                rw [wordStr_len, slice_upto]
                (try clear F51)
                (try clear N51)
                w_strict k_steps
                · unfold Stop
                  exact LCg.CompEnd.intro F52 N52 _ (fun p hp => hp) off2 (.inr ⟨W.listOf vs.toArray z, by k_mem, rfl, z, rfl⟩) ⟨rfl, by rw [← bne_words]; assumption, _, rfl⟩
                · unfold Stop
                  exact LCg.CompEnd.intro F52 N52 _ (fun p hp => hp) off2 (.inr ⟨W.listOf vs.toArray z, by k_mem, rfl, z, rfl⟩) ⟨rfl, by rw [← bne_words]; assumption⟩
              case finI =>
                intro lv hlv D7 h7 tk7 F48 N48 o48
                (try dsimp only)
                (try clear F42)
                (try clear N42)
                (try clear F43)
                (try clear N43)
                w_strict k_steps
                unfold Stop
                rename Fr g' _ _ _ => F53
                rename News g' _ _ _ => N53
                refine ne_strL (News.isList N53 (by k_mem)) (News.isList (items := #[]) N53 (.head _)) hlv .nil words_strOk (fun x hx => nomatch hx) ?eu6 ?_
                case eu6 => ktr_units
                replace N53 := News.tail' (News.tail' N53)
                by_cases hall : ∀ w ∈ words, v <+: w
                · have hnil : words.filter (fun w => !decide (w.take v.length = v)) = [] := filter_none hall
                  rw [hnil, show (!decide (List.map wordStr [] = [])) = false by rfl]
                  w_strict k_steps
                  unfold Stop
                  rename Fr g' _ _ _ => F60
                  rename News g' _ _ _ => N60
                  refine LCg.ListComp_U F60 (by with_unfolding_all rfl) (by decide) (by rfl) (by decide) (by rfl) ?_
                  walk1
                  refine LCg.CompSrc.ledger (k := z) (by rfl) F60 N60 (by k_mem) (by rw [hvz, sizeLine_eq]; omega) fun g9 => ?_
                  rw [hvz]
                  refine comp_relP (fun i y => ∃ a t, words[i]? = some a ∧ y = .int (2 ^ (12 - a.length)) t) ?turnS ?finS
                  case turnS =>
                    intro i v9 I oI C oC D2 m₃ ys h tk E' hv9 hC hmx F5 N5 off3 ne
                    have hi : i < words.length := by
                      rcases Nat.lt_or_ge i words.length with q | q
                      · exact q
                      · rw [Array.getElem?_eq_none (by rw [hvz]; exact q)] at hv9; cases hv9
                    obtain ⟨a, ta, ha, rfl⟩ := src_words hvs i v9 hv9 hi
                    have hal := hw12 a (List.mem_of_getElem? ha)
                    (try clear F53)
                    (try clear N53)
                    (try clear F60)
                    (try clear N60)
                    have hwl := wordStr_len a
                    w_strict k_steps
                    unfold Stop
                    rename Fr g' _ _ _ => F62
                    rename News g' _ _ _ => N62
                    exact LCg.CompEnd.intro F62 N62 _ (fun p hp => hp) off3 (.inr ⟨W.listOf vs.toArray z, by k_mem, rfl, z, rfl⟩) ⟨rfl, a, _, ha, by rw [pow_word hal]⟩
                  case finS =>
                    intro ys hyl2 hrel D8 h8 tk8 F61 N61 o61
                    (try clear F53)
                    (try clear N53)
                    (try clear F60)
                    (try clear N60)
                    (try dsimp only)
                    have hysI := ints_row6 hyl2 hrel
                    w_strict k_steps
                    · (try unfold Stop)
                      rename Ne (List.sum _) _ => hbad
                      have h2 : 2 ≤ sub.length := by
                        rw [hsub]
                        refine col_two hC12 hw hall (fun k hk => (hpre k hk).length_le) fun e => hbad ?_
                        rw [sum_words, e, pow_word hv12]; simp
                      rcases htold with ⟨S, c9, k9, y9, -, -, e9, -⟩ | ⟨S, c9, -, -, e9⟩ | ⟨rfl, rfl, -⟩
                      · rw [e9] at h2; simp at h2
                      · rw [e9] at h2; simp at h2
                      subst hXG
                      rename Fr g' _ _ _ => F70
                      rename News g' _ _ _ => N70
                      iterate 1 walk1
                      refine ⟨good_turnB T30 F70 (bare_fin (by assumption)) (raisesW_false ?_) ?_, GrownAt.of N70 (by k_mem), True.intro⟩
                      · wrow_none_raised
                      · wrow_post
                    · (try unfold Stop)
                      rename List.sum _ = _ => hgood
                      obtain ⟨k8, hk8⟩ := col_one hC12 hw hall (by
                        rw [sum_words, pow_word hv12] at hgood
                        exact Int.ofNat.inj (by rw [Int.ofNat_eq_natCast, hgood]; simp))
                      rw [← hsub] at hk8
                      rcases htold with ⟨S, c9, k9, y9, rfl, rfl, e9, hyd⟩ | ⟨S, c9, -, -, e9⟩ | ⟨-, -, e9⟩
                      rotate_left
                      · rw [hk8] at e9; cases e9
                      · rw [hk8] at e9; simp at e9
                      have ey : y9 = v := by rw [hk8] at e9; cases e9; rfl
                      subst ey
                      subst hXG
                      rename Fr g' _ _ _ => F70
                      rename News g' _ _ _ => N70
                      simp only [List.cons_append, List.nil_append] at N70
                      (try clear F61)
                      (try clear N61)
                      w_strict k_steps
                      unfold Stop
                      refine PySem.Calls.call_len_list (items := #[.ref (τ.X y9)]) (News.isList N70 (by k_mem)) (by show ((1 : Nat) : Int) < 2 ^ 63; decide) ?_
                      rw [show ((#[Value.ref (τ.X y9)].size : Nat) : Int) = 1 from rfl]
                      w_strict k_steps
                      unfold Stop
                      refine item_listL (l := [.ref (τ.X y9)]) (News.isList N70 (by k_mem)) (by decide) (by decide) (by rfl) ?_
                      w_strict k_steps
                      unfold Stop
                      rename Fr g' _ _ _ => F71
                      rename News g' _ _ _ => N71
                      refine net_known w B30 F71 X30 (N71.perm (led6_nd (r := [(D8, LCg.lst ys), (D, LCg.lst (refs σ.X words))]))) hO3.dict hlo (by rw [kvs_look, WS.dom_X hyd]; rfl) P30 (by rfl) (by rfl) ?dp9 ?un9 fun h72 tk72 F72 N72 => ?_
                      (case dp9 => ktr_room)
                      (case un9 => ktr_units)
                      w_strict k_steps
                      unfold Stop
                      refine is_ref_same ?_
                      refine ⟨good_turnB T30 F72 (bare_fin (by assumption)) (raisesW_false ?_) ?_, GrownAt.of N72 (by simp only [List.cons_append, List.nil_append]; k_mem), True.intro⟩
                      · wrow_none_raised
                      · wrow_post
                · have hne : words.filter (fun w => !decide (w.take v.length = v)) ≠ [] := filter_some hall
                  rw [show (!decide (List.map wordStr (words.filter (fun w => !decide (w.take v.length = v))) = [])) = true by simpa using hne]
                  w_strict k_steps
                  unfold Stop
                  rename Fr g' _ _ _ => F54
                  rename News g' _ _ _ => N54
                  refine slice_strN_ns (s := ⟨_, _, _, _, _⟩) F54 N54 ?_ (hsz := by rw [wordStr_len, sizeLine_eq]; omega)
                  intro h55 t55 k55 F55 N55
                  rw [slice_last]
                  (try clear F54)
                  (try clear N54)
                  (try clear N53)
                  w_strict k_steps
                  unfold Stop
                  rename Fr g' _ _ _ => F56
                  rename News g' _ _ _ => N56
                  refine storeX_C F56 N56 (by rfl) (.tail oHD (.tail oHN (.tail oH5 (.tail oHR (.head oHX))))) hoc fun h57 oc7 F57 N57 hoc7 => ?_
                  w_strict k_steps
                  unfold Stop
                  dsimp only [WPost]
                  rename Fr g' _ _ _ => F58
                  rename News g' _ _ _ => N58
                  obtain ⟨hv0, hpre'⟩ := head_keep hpre hall
                  have hvp : 0 < v.length := List.length_pos_iff.mpr hv0
                  exact ⟨_, by rw [ek, List.length_dropLast]; omega, _, _, v.dropLast, _, _, rfl, rfl, F58, N58, hoc7, by rw [List.length_dropLast]; omega, hpre'⟩
      case main3 =>
        subst hm₂
        clear F21
        refine wpAny_Try_except ?_
        w_strict k_steps
        unfold Stop
        rename Fr _ _ _ _ => F22
        rename News _ _ _ _ => N22
        refine gen_spec w (outer := []) (row := words) (rowv := refs σ.X words) (zr := (refs σ.X words).length) (rest := wled ND σ [(D, LCg.lst (refs σ.X words)), (R, W.listOf vs.toArray z), (s1.heap.objs.size + 1 + 1, oh), (s1.heap.objs.size + 1, on)]) B1 F22 X1 (N22.perm led6_try) T1 (by rfl) (by rfl) (by omega) codeHd hlo l1d ?dp3 ?un3 ?rS3
        (case dp3 => ktr_room)
        (case un3 => ktr_units)
        intro g L' h11 t1 t2 tk1 m0 code FG F11 N11 hkp GS
        dsimp only
        w_strict k_steps
        unfold Stop
        obtain ⟨N12, lt12⟩ := push_head F11 N11 (o := genO s1.gens.size (Str.ofString "_collapse_addresses_internal") (Str.ofString "_collapse_addresses_internal") t1 t2) rfl
        have F12 := F11.push (genO s1.gens.size (Str.ofString "_collapse_addresses_internal") (Str.ofString "_collapse_addresses_internal") t1 t2)
        obtain ⟨ga, hga⟩ : ∃ ga, ga = h11.objs.size := ⟨_, rfl⟩
        rw [← hga] at N12 lt12 ⊢
        clear N11 N22 F11 hkp
        refine list_spec w (row := words) FG F12 (T1.keeps FG.keep) (N12.perm led6_g) GS ?hgs3 hO hdom (by omega) ?hoff3 ?hDA3 ?hGD3 ?dp4 ?un4 ?one3 ?no3 ?err3
        case hgs3 => dsimp only; simp
        case hoff3 =>
          intro p hp
          simp only [List.mem_cons, List.not_mem_nil, or_false] at hp
          rcases hp with rfl | rfl | rfl | rfl | rfl
          · exact ⟨Nat.ne_of_gt (lt12 (580, σ.tab) (.tail _ (.tail _ (.head _)))), Nat.ne_of_gt (lt12 (ND, σ.oN) (.tail _ (.head _)))⟩
          · exact ⟨Ne.symm (offD (580, σ.tab) (.tail _ (.head _))), Ne.symm (offD (ND, σ.oN) (.head _))⟩
          · exact ⟨Nat.ne_of_gt hlt5, Nat.ne_of_lt l1a⟩
          · exact ⟨by show s1.heap.objs.size + 1 + 1 ≠ 580; omega, Nat.ne_of_lt l1b⟩
          · exact ⟨by show s1.heap.objs.size + 1 ≠ 580; omega, Nat.ne_of_lt l1c⟩
        case hDA3 => exact ⟨Ne.symm (offD (580, σ.tab) (.tail _ (.head _))), Ne.symm (offD (ND, σ.oN) (.head _))⟩
        case hGD3 => exact fun p hp => offD p (.tail _ (.tail _ (.tail _ (.tail _ (.tail _ hp)))))
        case dp4 => ktr_room
        case un4 => ktr_units
        case no3 =>
          intro S h' tk' τ c hs0 hW F13 N13
          rw [set_fin]
          (try dsimp only)
          w_strict k_steps
          unfold Stop
          rename Fr (ghostOf _ _) _ _ _ => F14
          rename News (ghostOf _ _) _ _ _ => N14
          refine ⟨rfl, _, _, _, _, τ, [(S, W.listOf #[] c)], rfl, F14, N14.perm led6_s, hW.ok, hW.ext, .inr (.inl ⟨S, c, rfl, rfl, by rw [hsub]; exact hs0⟩), by subst hST; exact ⟨KtsTurn.refl, B1, X1, T1⟩, fun p hp => ?_⟩
          rcases List.mem_cons.mp hp with rfl | hp
          · exact ne_of_data N14 (.head _) (.tail _ (.tail _ (.tail _ (List.mem_append_right _ (.tail _ (.tail _ (.head _))))))) (by rw [hcvh]; intro e; cases e)
          · exact Nat.ne_of_gt (Nat.lt_trans l1b (hW.ok.gt p hp))
        case one3 =>
          intro k y S h' tk' τ c hs0 hyd hW F13 N13
          rw [set_fin]
          (try dsimp only)
          w_strict k_steps
          unfold Stop
          rename Fr (ghostOf _ _) _ _ _ => F14
          rename News (ghostOf _ _) _ _ _ => N14
          refine ⟨rfl, _, _, _, _, τ, [(S, W.listOf #[.ref (τ.X y)] c)], rfl, F14, N14.perm led6_s, hW.ok, hW.ext, .inl ⟨S, c, k, y, rfl, rfl, by rw [hsub]; exact hs0, hyd⟩, by subst hST; exact ⟨KtsTurn.refl, B1, X1, T1⟩, fun p hp => ?_⟩
          rcases List.mem_cons.mp hp with rfl | hp
          · exact ne_of_data N14 (.head _) (.tail _ (.tail _ (.tail _ (List.mem_append_right _ (.tail _ (.tail _ (.head _))))))) (by rw [hcvh]; intro e; cases e)
          · exact Nat.ne_of_gt (Nat.lt_trans l1b (hW.ok.gt p hp))
        case err3 =>
          intro ex h' tk' τ h2' hW R13
          rw [set_fin]
          (try dsimp only)
          refine caught_X R13 (by rfl) B1 X1 T1 (fun A E Q s g' F X T h => nameX_B F X T (by k_is) PyProof.Rows.Boot.«TypeError» (by decide) h) PySem.F.isExc_TypeError PySem.F.notTuple_TypeError (by kts_sub) (by passes_own) ?_
          intro h16 g16 T16 F16 N16 B16 X16 P16
          (try dsimp only)
          w_strict k_steps
          unfold Stop
          rename Fr g16 _ _ _ => F17
          rename News g16 _ _ _ => N17
          refine ⟨rfl, _, _, _, _, τ, [], rfl, F17, N17.perm led6_e, hW.ok, hW.ext, .inr (.inr ⟨rfl, rfl, by rw [hsub]; exact h2'⟩), by subst hST; exact ⟨T16, B16, X16, P16⟩, fun p hp => ?_⟩
          exact Nat.ne_of_gt (Nat.lt_trans l1b (hW.ok.gt p hp)))
end Mine
end
set_option maxRecDepth 100000 in
set_option maxHeartbeats 8000000 in
theorem PySem.Challenge.cw_km0038_06_holds : PySem.Challenge.rw_km0038_06.Holds := by
  exact Mine.fin06
