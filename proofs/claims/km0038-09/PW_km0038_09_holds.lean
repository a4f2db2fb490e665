import PyProof.Rows.All
import Wide.All
import OpenK.AllK
import Wide.FinOn
import PySem.Challenge.RW_km0038_09
set_option Elab.async false
section
open PySem PySem.W PyProof.Rows
noncomputable section
namespace Mine
def topRunT (tb : String → Option Builtin) (p : Program) (w : World) (n₀ : Nat) (ann : Option Value) : Nat → SharedT → Thread → Option SharedT
  | 0, _, _ => none
  | n + 1, s, t => match through t with
    | true => some s
    | false => match stepOk n₀ ann t with
      | false => none
      | true => match stepT (denote tb) p w s t with
        | some (s', t') => topRunT tb p w n₀ ann n s' t'
        | none => none
theorem topRunT_of {tb : String → Option Builtin} {p : Program} {w : World} {n₀ : Nat} {ann : Option Value} : ∀ {n : Nat} {s s' : SharedT} {t : Thread},
    topRunT tb p w n₀ ann n s t = some s' → topRun tb p w n₀ ann n s.abs t = some s'.abs
  | 0, _, _, _, h => by cases h
  | n + 1, s, s', t, h => by
    unfold topRunT at h
    unfold topRun
    cases he : through t with
    | true => rw [he] at h; cases h; rfl
    | false =>
      rw [he] at h
      cases hk : stepOk n₀ ann t with
      | false => rw [hk] at h; cases h
      | true =>
        rw [hk] at h
        cases hs : stepT (denote tb) p w s t with
        | none => rw [hs] at h; cases h
        | some r => obtain ⟨s₂, t₂⟩ := r; rw [hs] at h; dsimp only; rw [stepT_spec hs]; exact topRunT_of h

def plant (l : List Obj) : BT := (l.foldl (fun (x : BT × Nat) o => (x.1.ins x.2 o, x.2 + 1)) (BT.nil, 0)).1
def bootT (P : Params) : BT := plant (boot_heap P).objs.toList
def bootN : Nat := 11
def start0 (w : World) (os : OsState) : SharedT := ⟨bootT w.params, bootN, (boot_heap w.params).life, #[], boot_drawn, boot_toks, os⟩

def shotF {α : Type} (p q : Program) (loose : List Str) (s₀ : SharedT) (h₀ : Heap) (Yf : Shared → α) (M : Nat) (w : World) :=
  (topRunT treeTable p w 11 (some (.ref 6)) M s₀ (topStub p)).map fun sT =>
    ((staticsOk (importedModules p.main.body) h₀ sT.abs.heap && namesBound p sT.abs.heap && gensDone sT.abs && laidKept h₀ sT.abs.heap),
      openSeen q loose (importedModules p.main.body) (fun s => xlAt q [] s && recOk [] s) true sT.abs, Yf sT.abs)
end Mine
end
noncomputable section
namespace Mine
theorem boot_base (P : Params) : absHeap (bootT P) bootN (boot_heap P).life = boot_heap P := by kernel_rfl
theorem boot_size (w : World) : ((boot_heap w.params).isNs mainGlobals && (#[] : Array GenState).size == 0, (boot_heap w.params).objs.size, (boot_heap w.params).nsMap mainGlobals "__annotations__") = (true, 11, some (.ref 6)) := by kernel_rfl
theorem left_shot {p q : Program} {loose : List Str} {α : Type} {Yf : Shared → α} {Ya : World → α} {N : Nat}
    (e : opening p = plainProg p.main.scope.names) (hN : Nat.ble 600 N = true) (f : ∀ s, fenceModules? p s = some s)
    (h : ∀ w os, shotF p q loose (start0 w os) (boot_heap w.params) Yf N w = some (true, openGood q loose, Ya w)) :
    LeftO p q loose (fun s => xlAt q [] s && recOk [] s) Yf Ya N true := fun w => by
  obtain ⟨⟨hp, gs, d, k, os⟩, e1, e2⟩ := Option.map_eq_some_iff.mp (boot_open e hN f w)
  obtain ⟨rfl, rfl, rfl, rfl⟩ : hp = boot_heap w.params ∧ gs = #[] ∧ d = boot_drawn ∧ k = boot_toks := by simpa using e2
  obtain ⟨sT, r, l⟩ := Option.map_eq_some_iff.mp (h w os)
  obtain ⟨l1, l2, l3⟩ : _ ∧ _ ∧ _ := by simpa only [Prod.mk.injEq] using l
  have r := topRunT_of r
  rw [show (start0 w os).abs = ⟨boot_heap w.params, #[], boot_drawn, boot_toks, os⟩ from congrArg (fun x => (⟨x, #[], boot_drawn, boot_toks, os⟩ : Shared)) (boot_base w.params)] at r
  obtain ⟨z1, z2, z3⟩ : _ ∧ _ ∧ _ := by simpa only [Prod.mk.injEq] using boot_size w
  have t : topFrom treeTable p w N ⟨boot_heap w.params, #[], boot_drawn, boot_toks, os⟩ = some sT.abs := by
    unfold topFrom
    dsimp only
    rw [z1, z2, z3, r]
    show (match staticsOk (importedModules p.main.body) (boot_heap w.params) sT.abs.heap && namesBound p sT.abs.heap && gensDone sT.abs && laidKept (boot_heap w.params) sT.abs.heap with | true => _ | false => _) = _
    rw [l1]
  unfold openEnds
  rw [e1]
  show (topFrom treeTable p w N _).map _ = _
  rw [t]
  exact congrArg some (Prod.ext l2 l3)
end Mine
end
namespace Mine
theorem left_shotT (H : Hook) {p q : Program} {loose : List Str} {N : Nat}
    (T : {α : Type} → Program → Program → List Str → SharedT → Heap → (Shared → α) → Nat → World → _) (te : @shotF = @T)
    (e1 : opening p = plainProg p.main.scope.names) (hN : Nat.ble 600 N = true) (f : ∀ s, fenceModules? p s = some s)
    (h : ∀ w os, T p q loose (start0 w os) (boot_heap w.params) H.obs N w = some (true, openGood q loose, H.val w)) :
    LeftO p q loose (fun s => xlAt q [] s && recOk [] s) H.obs H.val N true := by
  refine left_shot e1 hN f ?_
  rw [te]
  exact h
end Mine
end
section
open PySem PySem.W PyProof.Rows
set_option maxRecDepth 100000
set_option maxHeartbeats 8000000
lay_quick Mine.shotF
noncomputable section
namespace Mine
abbrev pw := PySem.Challenge.pw_km0038_09
def qv : Program := view pw [27]
def lo : List Str := ["_wall", "_collapse_addresses_internal", "_IPAddressBase", "_gt_from_lt", "_le_from_lt", "_ge_from_lt", "_ge_from_le", "_lt_from_le", "_gt_from_le", "_lt_from_gt", "_ge_from_gt", "_le_from_gt", "_le_from_ge", "_gt_from_ge", "_lt_from_ge", "total_ordering", "_NOT_FOUND", "cached_property", "_BaseNetwork", "_BaseConstants", "_law_asked", "_law_net"]
end Mine
end
set_option hygiene false
local macro_rules
  | `(tactic| o_head $H) => `(tactic| (
    refine PySem.W.holds_open (r := PySem.Challenge.rw_km0038_09.row) (q := Mine.qv) (loose := Mine.lo) (Xt := fun s => xlAt Mine.qv [] s && recOk [] s) (XP := XL Mine.qv []) (Yf := Hook.obs $H) (Ya := Hook.val $H) (YP := Hook.says $H) (N := 8000) ?hl (Hook.of $H) (Hook.keeps $H) (fun s e => xl_of s (Bool.and_eq_true_iff.mp e).1) XL.keeps (by rfl) (by rfl) (by rfl) (fun s e => recFacts_of (Bool.and_eq_true_iff.mp e).2) (by rfl) (by first | assumption | decide +kernel) (by decide +kernel) ⟨rfl, rfl, rfl, rfl, rfl, by decide +kernel⟩ ?hw ?hc;
    (case hl => (refine Mine.left_shotT $H (p := Mine.pw) _ PySem.W.Fast.te17940891641106722768 (by kernel_rfl) (by decide) (by intro s; kernel_rfl) ?_; intro w os; kernel_rfl))))
set_option hygiene true
namespace Mine
open_top hd for PySem.Challenge.rw_km0038_09
end Mine
end
section
open PySem PySem.W PyProof.Rows
namespace Mine
end Mine
namespace Mine
section
variable {prog : Program} {w : World} {A : Around} {E : Value → Shared → Prop} {s : Shared} {t : Tok} {Q : Value → Shared → Prop}
end
end Mine
namespace Mine
end Mine
namespace Mine
section
variable {prog : Program} {w : World} {A : Around} {E : Value → Shared → Prop} {s : Shared} {t u : Tok} {Q : Value → Shared → Prop} {h₀ : Heap} {L : Addr} {m : Str → Option Value} {news : List (Addr × Obj)} {d : Str}
end
end Mine
namespace Mine
end Mine
namespace Mine
end Mine
end
section
open PySem PySem.W PyProof.Rows PySem.Spec PySem.Calls
namespace Mine
section
variable {prog : Program} {w : World} {A₀ : Around} {E : Value → Shared → Prop} {s' : Shared} {base g g₀ G : Heap} {outer : List Env} {L a e t C : Addr} {m : Str → Option Value} {name : Str} {scope : Scope} {cd : Value}
  {vs : List Value} {n : Str} {b₀ : Stmt} {suite : List Stmt} {pos np : Pos} {rest : List ExceptHandler} {Q : Flow → Shared → Prop} {news : List (Addr × Obj)} {KF : Frag}
  {p : Program} {loose : List Str} {mean : ExcName → Option Value} {mg mb : Str → Option Value} {x : Str}
end
section
variable {prog : Program} {w : World} {A : Around} {E : Value → Shared → Prop} {s : Shared} {h₀ : Heap} {L e t C : Addr} {m : Str → Option Value} {news : List (Addr × Obj)} {d : Option Addr} {ws : Array Value} {sl : Array (Option Value)} {vs : List Value} {Q : Value → Shared → Prop}
end
end Mine
namespace Mine
section
variable {prog : Program} {w : World} {A : Around} {E : Value → Shared → Prop} {s : Shared} {h₀ : Heap} {L a b : Addr} {news : List (Addr × Obj)} {d : Option Addr} {sl : Array (Option Value)} {x y : Str} {t u : Tok} {n k : Nat} {Q : Value → Shared → Prop}
end
end Mine
namespace Mine
end Mine
namespace Mine
def Stop (p : Prop) : Prop := p
theorem stop_here {p : Prop} (h : Stop p) : p := h
section
variable {prog : Program} {w : World} {A : Around} {E : Value → Shared → Prop} {env : Env} {test : PySem.Expr} {body orelse : List Stmt} {Q : Flow → Shared → Prop}
def WPost (I : Nat → Shared → Prop) (n : Nat) (Q : Flow → Shared → Prop) (f : Flow) (s : Shared) : Prop := match f with
  | .next => ∃ n', n' < n ∧ I n' s
  | .cont => ∃ n', n' < n ∧ I n' s
  | .brk => Q .next s
  | .ret v => Q (.ret v) s
theorem while_ind (hE : PassesOwn (model prog w) A env E) (I : Nat → Shared → Prop)
    (turn : ∀ n s, I n s → wpAny (model prog w) A (isTrue test env (eval test env)) (fun b s₂ => WhlIf b (wpAny (model prog w) A (execs body env) (WPost I n Q) E s₂) (wpAny (model prog w) A (execs orelse env) Q E s₂)) E s)
    {pos : Pos} (n : Nat) {s : Shared} (h : I n s) : wpAny (model prog w) A (exec (.While test body orelse pos) env) Q E s := by
  refine whl_start 0 ?_
  have key : ∀ N n s, n < N → I n s → WhlRest prog w A E env test body orelse Q 1 s := by
    intro N
    induction N with
    | zero => intro n s hn; exact absurd hn (Nat.not_lt_zero _)
    | succ N ih =>
      intro n s hn hI
      refine whl_turn hE (wpAny_mono (turn n s hI) (fun b s₂ hb => ?_) fun _ _ e => e)
      unfold WhlIf at hb ⊢
      cases b with
      | false => exact hb
      | true =>
        refine wpAny_mono hb (fun f s₃ hf => ?_) fun _ _ e => e
        have go : (∃ n', n' < n ∧ I n' s₃) → WhlRest prog w A E env test body orelse Q 0 s₃ := fun ⟨n', l, i⟩ => ih n' s₃ (Nat.lt_of_lt_of_le l (Nat.le_of_lt_succ hn)) i
        cases f with
        | next => exact go hf
        | cont => exact go hf
        | brk => exact hf
        | ret v => exact hf
  exact key (n + 1) n s (Nat.lt_succ_self _) h
end
end Mine
namespace Mine
end Mine
end
section
open PySem PySem.W PyProof.Rows PySem.Spec PySem.Calls
namespace Mine
section
variable {prog : Program} {w : World} {A : Around} {E : Value → Shared → Prop} {s : Shared} {h₀ : Heap} {L a b : Addr} {news : List (Addr × Obj)} {ps qs : List (Str × Tok)} {n k : Nat} {vs : Array Value} {Q : Value → Shared → Prop}
end
section
open PySem.Spec PySem.Calls
end
section
open PySem.Spec PySem.Calls
end
end Mine
end
section
open PySem PySem.W PyProof.Rows
namespace Mine
section
variable {prog : Program} {w : World} {A : Around} {E : Value → Shared → Prop} {s : Shared} {t u : Tok} {Q : Value → Shared → Prop}
end
end Mine
end
section
open PySem PySem.W PyProof.Rows PySem.Spec PySem.Calls
namespace Mine
section
variable {prog : Program} {w : World} {A : Around} {E : Value → Shared → Prop} {s : Shared} {h₀ : Heap} {L D b : Addr} {m : Str → Option Value} {news news' : List (Addr × Obj)} {ps qs : List (Str × Tok)} {p : Str × Tok} {n k : Nat} {x y : Str} {t u : Tok}
end
section
variable {prog : Program} {w : World} {A : Around} {E : Value → Shared → Prop} {s : Shared} {t u : Tok} {Q : Value → Shared → Prop}
end
end Mine
end
section
open PySem PySem.W PyProof.Rows PySem.Spec PySem.Calls
namespace Mine
section
open LCg
variable {prog : Program} {w : World} {A : Around} {E : Value → Shared → Prop} {s : Shared} {h₀ : Heap} {L : Addr} {m : Str → Option Value} {env : Env}
end
end Mine
end
section
open PySem PySem.W PyProof.Rows
namespace Mine
end Mine
end
section
open PySem PySem.W PyProof.Rows
namespace Mine
section
variable {prog : Program} {w : World} {A : Around} {E : Value → Shared → Prop} {s : Shared} {t u : Tok} {Q : Value → Shared → Prop}
end
end Mine
end
section
open PySem PySem.W PyProof.Rows
namespace Mine
end Mine
end
section
open PySem PySem.W PyProof.Rows
namespace Mine
end Mine
end
section
open PySem PySem.W PyProof.Rows PySem.Spec PySem.Calls
namespace Mine
section
variable {prog : Program} {w : World} {A : Around} {E : Value → Shared → Prop} {s : Shared} {h₀ : Heap} {L a : Addr} {news : List (Addr × Obj)} {vs : List Value} {n : Nat} {Q : Value → Shared → Prop}
end
end Mine
end
section
open PySem PySem.W PyProof.Rows PySem.Spec PySem.Calls
set_option maxRecDepth 100000
namespace Mine
section
variable {prog : Program} {w : World} {A : Around} {E : Value → Shared → Prop} {s : Shared} {env : Env} {x : Str} {px : Pos} {body : List Stmt} {it : Value} {Q : Flow → Shared → Prop}
def ForTurn (prog : Program) (w : World) (A : Around) (E : Value → Shared → Prop) (env : Env) (x : Str) (px : Pos) (body : List Stmt) (Q : Flow → Shared → Prop) (I : Nat → Shared → Prop) (n : Nat) (r : Option Value) (s₁ : Shared) : Prop := match r with
  | none => wpAny (model prog w) A (execs [] env) Q E s₁
  | some v => wpAny (model prog w) A (assign (.Name x px) env v) (fun _ s₂ => wpAny (model prog w) A (execs body env) (WPost I n Q) E s₂) E s₁
theorem for_ind (hE : PassesOwn (model prog w) A env E) (I : Nat → Shared → Prop) (turn : ∀ n s, I n s → wpAny (model prog w) A (pyNext it) (ForTurn prog w A E env x px body Q I n) E s) (n : Nat) (h : I n s)
    (ht : ∀ v, letOwnedTupleGo (.Name x px) it v = pure () := by intro _; rfl) :
    codeAny (model prog w) A (.forLoop (.Name x px) it body [] env) (fun r s' => match r with | .ok f => Q f s' | .error e => cameBackBy (model prog w) A env E e s') s := by
  refine codeAny_forLoop I (fun n s hI => wpAny_passesOwn hE (wpAny_mono (turn n s hI) (fun r s₁ hr => ?_) fun _ _ e => e)) n h ht
  cases r with
  | none => exact wpAny_passesOwn hE hr
  | some v =>
    refine wpAny_passesOwn hE (wpAny_mono hr (fun _ s₂ h₂ => wpAny_passesOwn hE (wpAny_mono h₂ (fun f s₃ h₃ => ?_) fun _ _ e => e)) fun _ _ e => e)
    cases f with
    | next => exact h₃
    | cont => exact h₃
    | brk => exact h₃
    | ret v => exact h₃
end
end Mine
end
section
open PySem PySem.W PyProof.Rows PySem.Spec PySem.Calls
namespace Mine
section
open LCg
variable {prog : Program} {w : World} {A : Around} {E : Value → Shared → Prop} {s : Shared} {h₀ : Heap} {L : Addr} {m : Str → Option Value} {env : Env}
end
section
variable {prog : Program} {w : World} {A : Around} {E : Value → Shared → Prop} {s : Shared} {t : Tok} {Q : Value → Shared → Prop}
end
end Mine
end
section
open PySem PySem.W PyProof.Rows PySem.Spec PySem.Calls
set_option maxRecDepth 100000
namespace Mine
namespace RB
theorem slot_bytes_repr : Slot "bytes" "__repr__" "bytes.__repr__" :=
  .of (owner := "bytes") (n := "__repr__") (by rw [typeLookup_type, builtinLookup_eq_fast]; kernel_rfl) (by decide +kernel) (by decide +kernel) (by decide +kernel)
    (by first | exact .inl (by decide +kernel) | exact .inr (by decide +kernel)) (by rw [isSubtype_type]; kernel_rfl)
theorem entry_bytes_repr : entryFor table "bytes.__repr__" = some Builtin.«bytes.__repr__» := entryFor_of_tree (by kernel_rfl)
theorem args_bytes_repr (a : Value) : argsOk "bytes.__repr__" ⟨[a], []⟩ := by
  unfold argsOk; rw [signature?_of (id := "bytes.__repr__") (n := ['_', '_', 'r', 'p', 'e', 'r', '_', '_']) (o := ['s', 'e', 't', 'y', 'b']) (by kernel_rfl) FB.owner_bytes]; kernel_rfl
theorem fills_bytes_mod : fillsNumberSlot (.type "bytes") "mod" = pure true :=
  fillsNumberSlot_of (id := "bytes.__mod__") (r := some (.builtin "bytes.__rmod__")) (by rw [typeLookup_type, builtinLookup_eq_fast]; kernel_rfl) (by decide +kernel) (by rw [typeLookup_type, builtinLookup_eq_fast]; kernel_rfl)
theorem noFill (T : String) (h1 : typeLookup (.type T) (dunder "mod") = pure none) (h2 : typeLookup (.type T) (dunderR "mod") = pure none) : fillsNumberSlot (.type T) "mod" = pure false := by
  simp only [fillsNumberSlot, h1, h2, pure_bind]; rfl
theorem noFill_list : fillsNumberSlot (.type "list") "mod" = pure false := noFill _ (by rw [typeLookup_type, builtinLookup_eq_fast]; kernel_rfl) (by rw [typeLookup_type, builtinLookup_eq_fast]; kernel_rfl)
theorem noFill_None : fillsNumberSlot (.type "NoneType") "mod" = pure false := noFill _ (by rw [typeLookup_type, builtinLookup_eq_fast]; kernel_rfl) (by rw [typeLookup_type, builtinLookup_eq_fast]; kernel_rfl)
theorem get_bytes : typeLookup (.type "bytes") "__getitem__" = pure (some (.builtin "bytes.__getitem__")) := by rw [typeLookup_type, builtinLookup_eq_fast]; kernel_rfl
theorem get_list : typeLookup (.type "list") "__getitem__" = pure (some (.builtin "list.__getitem__")) := by rw [typeLookup_type, builtinLookup_eq_fast]; kernel_rfl
theorem get_None : typeLookup (.type "NoneType") "__getitem__" = pure none := by rw [typeLookup_type, builtinLookup_eq_fast]; kernel_rfl
theorem get_int : typeLookup (.type "int") "__getitem__" = pure none := by rw [typeLookup_type, builtinLookup_eq_fast]; kernel_rfl
theorem get_bool : typeLookup (.type "bool") "__getitem__" = pure none := by rw [typeLookup_type, builtinLookup_eq_fast]; kernel_rfl
theorem get_str : typeLookup (.type "str") "__getitem__" = pure (some (.builtin "str.__getitem__")) := by rw [typeLookup_type, builtinLookup_eq_fast]; kernel_rfl
end RB
section
variable {prog : Program} {w : World} {A : Around} {E : Value → Shared → Prop} {s : Shared}
end
end Mine
end
section
open PySem PySem.W PyProof.Rows PySem.Spec PySem.Calls
set_option maxRecDepth 100000
namespace Mine
section
variable {prog : Program} {w : World} {A : Around} {E : Value → Shared → Prop} {s : Shared}
end
end Mine
namespace Mine
section
variable {prog : Program} {w : World} {A : Around} {E : Value → Shared → Prop} {s : Shared}
end
end Mine
end
section
open PySem PySem.W PyProof.Rows PySem.Spec PySem.Calls
set_option maxRecDepth 100000
namespace Mine
section
variable {prog : Program} {w : World} {A : Around} {E : Value → Shared → Prop} {s : Shared} {h₀ : Heap} {L : Addr} {m : Str → Option Value} {news : List (Addr × Obj)}
end
end Mine
end
section
open PySem PySem.W PyProof.Rows PySem.Spec PySem.Calls
set_option maxRecDepth 100000
namespace Mine
def HeldOk (hd : Option Value) (h : Heap) : Prop := hd = none ∨ ∃ e oe ve, hd = some (.ref e) ∧ h.get? e = some oe ∧ oe.data = .fields ve ∧ ve[2]? = some .none
theorem HeldOk.keeps {hd : Option Value} {h h' : Heap} (H : HeldOk hd h) (k : ∀ b o, h.get? b = some o → h'.get? b = some o) : HeldOk hd h' := by
  rcases H with H | ⟨e, oe, ve, h1, h2, h3, h4⟩
  · exact .inl H
  · exact .inr ⟨e, oe, ve, h1, k _ _ h2, h3, h4⟩
theorem heldOk_none (h : Heap) : HeldOk none h := .inl rfl
theorem entry_unchain : entryFor table "proto.unchain" = some Builtin.«proto.unchain» := entryFor_of_fast (by kernel_rfl)
section
variable {prog : Program} {w : World} {A : Around} {E : Value → Shared → Prop} {s : Shared}
theorem raiseNew_ok {α : Type} {a : Addr} {oa : Obj} {va : Array Value} {Q : α → Shared → Prop} (H : HeldOk A.handled s.heap) (ha : s.heap.get? a = some oa) (hda : oa.data = .fields va) (hsz : 2 < va.size) (hnew : ∀ e, A.handled = some (.ref e) → e ≠ a)
    (hE : ∀ h' o', (∀ b o, b ≠ a → s.heap.get? b = some o → h'.get? b = some o) → h'.get? a = some o' → o'.cls = oa.cls → E (.ref a) { s with heap := h' }) :
    wpAny (model prog w) A (raiseNew (.ref a) : Sem α) Q E s := by
  unfold raiseNew
  refine wpAny_bind (wpAny_handled ?_)
  rcases H with H | ⟨e, oe, ve, h1, h2, h3, h4⟩
  · rw [H]
    exact wpAny_bind (wpAny_pure (wpAny_throw (hE s.heap oa (fun _ _ _ e => e) ha rfl)))
  · rw [h1]
    have hne : (Value.ref e != Value.ref a) = true := by
      have := hnew e h1
      simpa using this
    show wpAny _ _ (if (Value.ref e != Value.ref a) = true then _ else _) _ _ s
    rw [if_pos hne]
    refine wpAny_bind ((wpAny_holding (wpAny_runValue (codeAny_builtin entry_unchain ?_))))
    show wpAny _ _ (field (.ref e) 2 >>= _) _ _ s
    refine wpAny_bind (wpAny_field h2 h3 h4 ?_)
    show wpAny _ _ (if (Value.none == Value.none) = true then _ else _) _ _ s
    rw [if_pos (show (Value.none == Value.none) = true from rfl)]
    refine wpAny_pure ?_
    show wpAny _ _ (updateField a 2 (Value.ref e) >>= _) _ _ s
    refine wpAny_bind (m := setField (.ref a) 2 (.ref e)) (wpAny_setField ha hda hsz (wpAny_throw ?_))
    have hd' := Obj.data_mapFields hda (·.setIfInBounds 2 (Value.ref e))
    exact hE _ _ (fun b o hb hg => (Heap.get?_update_other _ _ (Ne.symm hb)).trans hg) (Heap.get?_update_self _ ha (Obj.isFreed_of_fields hd')) (Obj.cls_mapFields _ _)
theorem HeldOk.but {hd : Option Value} {h h' : Heap} {it : Addr} (H : HeldOk hd h) (hne : ∀ e, hd = some (.ref e) → e ≠ it) (k : Heap.ExtBut it h h') : HeldOk hd h' := by
  rcases H with H | ⟨e, oe, ve, h1, h2, h3, h4⟩
  · exact .inl H
  · exact .inr ⟨e, oe, ve, h1, k _ _ (hne e h1) h2, h3, h4⟩
theorem HeldOk.old {hd : Option Value} {h : Heap} (H : HeldOk hd h) : ∀ e, hd = some (.ref e) → e < h.objs.size := by
  intro e he
  rcases H with H | ⟨e', oe, ve, h1, h2, h3, h4⟩
  · rw [H] at he; cases he
  · rw [h1] at he
    cases he
    exact Heap.lt_size h2
theorem stop_end {it : Addr} {h₀ : Heap} {Q : Fin → Shared → Prop} {E' : Value → Shared → Prop} (H : HeldOk A.handled s.heap)
    (hE : ∀ h' a o', (∀ b o, s.heap.get? b = some o → h'.get? b = some o) → h'.get? a = some o' → o'.cls = .type "StopIteration" → E' (.ref a) { s with heap := h' }) (_hx : Heap.ExtBut it h₀ s.heap) :
    wpAny (model prog w) A (newExc (.type "StopIteration") [] >>= fun e => raiseNew e) Q E' s := by
  refine wpAny_bind ?_
  simp only [newExc, newTuple]
  refine wpAny_bind (wpAny_newObj_type ?_ (by size_fits))
  refine wpAny_bind (m := firstArgMember _ _) (wpAny_of_eq (a := Value.none) (by first | rfl | (simp only [firstArgMember]; rfl)) ?_)
  refine wpAny_newObj_type ?_ (by size_fits)
  have up : ∀ (x y : Obj) b o, s.heap.get? b = some o → ((s.heap.push x).push y).get? b = some o := fun x y b o e => Heap.get?_push_of_some _ (Heap.get?_push_of_some _ e)
  refine raiseNew_ok (H.keeps (up _ _)) (Heap.get?_push_size _ rfl) rfl (by rw [Array.size_append]; exact Nat.lt_of_lt_of_le (by decide : 2 < 6) (Nat.le_add_right _ _)) (fun e he => ?_) fun h' o' hk hg hc => ?_
  · have := H.old e he
    have h2 : (s.heap.push { cls := .type "tuple", dict := none, data := .seq ([] : List Value).toArray }).objs.size = s.heap.objs.size + 1 := Heap.size_push ..
    intro hz
    have h3 : @LT.lt Nat _ e s.heap.objs.size := this
    have h4 : @Eq Nat e (s.heap.objs.size + 1) := by rw [← h2]; exact hz
    omega
  · refine hE h' _ o' (fun b o e => hk b o ?_ (up _ _ b o e)) hg hc
    have h2 : (s.heap.push { cls := .type "tuple", dict := none, data := .seq ([] : List Value).toArray }).objs.size = s.heap.objs.size + 1 := Heap.size_push ..
    have h3 : @LT.lt Nat _ b s.heap.objs.size := Heap.lt_size e
    intro hz
    have h4 : @Eq Nat b (s.heap.objs.size + 1) := by rw [← h2]; exact hz
    omega
theorem next_list_end {it l : Addr} {i : Nat} {items : Array Value} {Q : Option Value → Shared → Prop} (H : HeldOk A.handled s.heap) (hne : ∀ e, A.handled = some (.ref e) → e ≠ it)
    (hit : s.heap.IsListIter it l i) (hl : s.heap.IsList l items) (hx : items[i]? = none)
    (hQ : ∀ h', Heap.ExtBut it s.heap h' → Q none { s with heap := h' }) : wpAny (model prog w) A (pyNext (.ref it)) Q E s := by
  obtain ⟨o, ho, hc, hd⟩ := id hit
  obtain ⟨ol, hol, _, nl, hdl⟩ := hl
  unfold pyNext
  refine wpAny_bind (wpAny_attempt (wpAny_callSpecial?_slot (name := Str.ofString "__next__") hit.typeIs slot_listiter_next
    (wpAny_call_entry slot_listiter_next hit.typeIs entry_listiter_next ?_ (args_listiter_next _))))
  show wpAny _ _ (field (.ref it) 0 >>= _) _ _ s
  refine wpAny_bind (wpAny_field ho hd (x := .ref l) rfl ?_)
  show wpAny _ _ (if (Value.ref l == Value.none) = true then _ else _) _ _ s
  rw [if_neg (show ¬ ((Value.ref l == Value.none) = true) from Bool.false_ne_true)]
  show wpAny _ _ (field (.ref it) 1 >>= _) _ _ s
  refine wpAny_bind (wpAny_field ho hd (x := .int i 0) rfl ?_)
  show wpAny _ _ (seqItems? (.ref l) >>= _) _ _ s
  refine wpAny_bind (wpAny_seqItems hol hdl ?_)
  simp only [Int.toNat_natCast, hx]
  refine wpAny_bind (wpAny_rule (wpAny_bind (wpAny_setField ho hd (by simp) ?_)))
  have hs := (Heap.SameBut.update s.heap it (Obj.mapFields (·.setIfInBounds 0 Value.none))).extBut
  refine stop_end (H.but hne hs) (fun h' a o' hk hg hc' => ?_) hs
  refine wpAny_bind (wpAny_isInstance (T := "StopIteration") (b := true) ⟨_, hg, hc'⟩ isSubtype_stop ?_)
  exact wpAny_pure (hQ _ fun b o hb e => hk b o (hs b o hb e))
end
def heldAt : Option Value → List Addr
  | some (.ref e) => [e]
  | _ => []
theorem mem_heldAt {hd : Option Value} {e : Addr} (h : hd = some (.ref e)) : e ∈ heldAt hd := by rw [h]; exact List.mem_singleton.mpr rfl
theorem heldAt_mem {hd : Option Value} {b : Addr} (h : b ∈ heldAt hd) : hd = some (.ref b) := by
  unfold heldAt at h
  split at h
  · rw [List.mem_singleton.mp h]
  · cases h
theorem HeldOk.at {hd : Option Value} {h h' : Heap} (H : HeldOk hd h) (k : ∀ b ∈ heldAt hd, ∀ o, h.get? b = some o → h'.get? b = some o) : HeldOk hd h' := by
  rcases H with H | ⟨e, oe, ve, h1, h2, h3, h4⟩
  · exact .inl H
  · exact .inr ⟨e, oe, ve, h1, k e (mem_heldAt h1) _ h2, h3, h4⟩
theorem HeldOk.there {hd : Option Value} {h : Heap} (H : HeldOk hd h) {b : Addr} (hb : b ∈ heldAt hd) : ∃ o, h.get? b = some o := by
  have h0 := heldAt_mem hb
  rcases H with H | ⟨e, oe, ve, h1, h2, h3, h4⟩
  · rw [H] at h0; cases h0
  · rw [h1] at h0; cases h0; exact ⟨_, h2⟩
theorem held_walks {prog : Program} {w : World} {A : Around} {I : Addr} {fp : List Addr} {n : Nat} {P : Nat → Value → Prop} {St : Nat → Heap → Prop} (hI : I ∈ fp) (hne : ∀ e, A.handled = some (.ref e) → e ≠ I)
    (frame : ∀ i h h', St i h → (∀ b ∈ fp, ∀ o, h.get? b = some o → h'.get? b = some o) → St i h')
    (item : ∀ i (s : Shared) (Q : Option Value → Shared → Prop) (E : Value → Shared → Prop), i < n → St i s.heap → (∀ v h' tk, P i v → St (i + 1) h' → Heap.ExtBut I s.heap h' → Q (some v) { s with heap := h', toks := tk }) → wpAny (model prog w) A (pyNext (.ref I)) Q E s)
    (done : ∀ (s : Shared) (Q : Option Value → Shared → Prop) (E : Value → Shared → Prop), HeldOk A.handled s.heap → St n s.heap → (∀ h', Heap.ExtBut I s.heap h' → Q none { s with heap := h' }) → wpAny (model prog w) A (pyNext (.ref I)) Q E s)
    (self : ∀ i (s : Shared) (Q : Value → Shared → Prop) (E : Value → Shared → Prop), St i s.heap → Q (.ref I) s → wpAny (model prog w) A (pyIter (.ref I)) Q E s) :
    Walks prog w A I (heldAt A.handled ++ fp) [I] n P (fun i h => St i h ∧ HeldOk A.handled h) where
  sub := fun b hb => by rw [List.mem_singleton.mp hb]; exact List.mem_append_right _ hI
  frame := fun i h h' st hk => ⟨frame i h h' st.1 fun b hb => hk b (List.mem_append_right _ hb), st.2.at fun b hb => hk b (List.mem_append_left _ hb)⟩
  item := fun i s Q E hi st hQ => item i s Q E hi st.1 fun v h' tk hp hs hx => hQ v h' tk hp ⟨hs, st.2.but hne hx⟩ fun b o hb e => hx b o (fun q => hb (List.mem_singleton.mpr q)) e
  done := fun s Q E st hQ => done s Q E st.2 st.1 fun h' hx => hQ h' s.toks fun b o hb e => hx b o (fun q => hb (List.mem_singleton.mpr q)) e
  self := fun i s Q E st hQ => self i s Q E st.1 hQ
section
variable {prog : Program} {w : World} {A : Around}
theorem walks_list (I ax : Addr) (hne : ∀ e, A.handled = some (.ref e) → e ≠ I) (hax : ax ≠ I) (items : Array Value) :
    Walks prog w A I (heldAt A.handled ++ [I, ax]) [I] items.size (fun i v => items[i]? = some v) (fun i h => (h.IsListIter I ax i ∧ h.IsList ax items) ∧ HeldOk A.handled h) :=
  held_walks (List.mem_cons_self ..) hne (fun _ _ _ st hk => ⟨st.1.at fun o e => hk I (by simp) o e, st.2.at fun o e => hk ax (by simp) o e⟩)
    (fun i s Q E hi st hQ => wpAny_pyNext_list_item st.1 st.2 (x := items[i]) (by simp [hi]) fun h' hit' hs' => hQ _ h' s.toks (by simp [hi]) ⟨hit', st.2.extBut hs'.extBut hax⟩ hs'.extBut)
    (fun s Q E H st hQ => next_list_end H hne st.1 st.2 (by simp) hQ) (fun _ _ _ _ st hQ => wpAny_pyIter_listiter st.1 hQ)
end
end Mine
end
section
open PySem PySem.W PyProof.Rows PySem.Spec PySem.Calls
set_option maxRecDepth 100000
namespace Mine
section
open LCg
variable {prog : Program} {w : World} {A : Around} {E : Value → Shared → Prop} {s : Shared} {h₀ : Heap} {L : Addr} {m : Str → Option Value} {env : Env}
theorem held_new {h : Heap} (F : Fr h₀ L h m) (HH : HeldOk A.handled h₀) : ∀ e, A.handled = some (.ref e) → e ≠ h.objs.size := fun e he =>
  Nat.ne_of_lt ((HH.keeps F.keep).old e he)
theorem held_lt {hd : Option Value} {h : Heap} {o : Obj} (HH : HeldOk hd h) {b : Addr} (hb : b ∈ heldAt hd ++ [h.objs.size]) : b < (h.push o).objs.size := by
  rw [Heap.size_push]
  rcases List.mem_append.mp hb with hb | hb
  · obtain ⟨o, e⟩ := HH.there hb
    exact Nat.lt_succ_of_lt (Heap.lt_size e)
  · rw [List.mem_singleton.mp hb]; exact Nat.lt_succ_self _
theorem listcomp_listH {elt iter : Expr} {x : Str} {px : Pos} {scope : Scope} {cl : List (Str × Addr)} {pos : Pos} {Q : Value → Shared → Prop} (_F₀ : Fr h₀ L s.heap m) (HH : HeldOk A.handled h₀)
    (hclos : closureFor scope env = pure cl) (hcell : ∀ y ∈ scope.names, y.2 ≠ .cell) (hkind : scope.kind = .function)
    (hnames : ∀ y ∈ scope.names, y.2 = .local → scope.names.lookup y.1 = some .local) (hx : scope.names.lookup x = some .local)
    (h : wpAny (model prog w) A (eval iter env) (fun xv s₁ => ∃ (ax : Addr) (its : Array Value) (news : List (Addr × Obj)), xv = .ref ax ∧ Fr h₀ L s₁.heap m ∧ News h₀ L s₁.heap news ∧ SrcAt h₀ ax its news ∧ its.size ≤ sizeLine ∧
      ∀ s₂ : Shared, (∃ h, s₂ = { s₁ with heap := h }) → CompRest prog w A h₀ L m env elt x scope cl s₂ (SrcAt h₀ ax its) (fun i v => its[i]? = some v) (FinE h₀ L m s₂ Q) its.size 0 [] news) E s)
    (hs : ∀ x, foldedSetIterable iter env x = pure x := by intro _; rfl) :
    wpAny (model prog w) A (eval (.ListComp elt [⟨.Name x px, iter, [], 0⟩] scope pos) env) Q E s := by
  rw [eval_ListComp]
  refine wpAny_comprehension_free (use := none) rfl hs hclos hkind hnames (wpAny_mono h (fun xv s₁ h₁ => ?_) fun _ _ e => e)
  obtain ⟨ax, its, news, rfl, F, N, S, hsz, R⟩ := h₁
  have hl := S.list F.keep N
  have hlt : ax < s₁.heap.objs.size := by obtain ⟨_, e, _⟩ := hl; exact Heap.lt_size e
  refine wpAny_pyIter_list hl ?_
  have up : ∀ b o, s₁.heap.get? b = some o → (s₁.heap.push { cls := .type "list_iterator", data := .fields #[.ref ax, .int 0 0] }).get? b = some o := fun b o e => Heap.get?_push_of_some _ e
  refine block_U (walks_list s₁.heap.objs.size ax (held_new F HH) (Nat.ne_of_lt hlt) its) hsz (fun i h st => by obtain ⟨o, e, _⟩ := st.1.1; exact ⟨o, e⟩) (fun i h h' o nw st e1 e2 k n z => ⟨list_st i h h' o nw st.1 e1 e2 k n z, HH.keeps k⟩) hcell hkind hx
    ⟨⟨⟨_, Heap.get?_push_size _ rfl, rfl, rfl⟩, hl.push _⟩, (HH.keeps F.keep).keeps up⟩ (fun b hb => ?_)
    (F.keeps up) (N.grown up) (Nat.ne_of_lt F.ns.lt) (next_is_new F) (fun p hp => Nat.ne_of_lt (Heap.lt_size (N p hp).1)) S (R _ ⟨_, rfl⟩) ?_
  · show b < (s₁.heap.push _).objs.size
    rcases List.mem_append.mp hb with hb | hb
    · exact held_lt (HH.keeps F.keep) (List.mem_append_left _ hb)
    · rcases List.mem_cons.mp hb with hb | hb
      · exact held_lt (HH.keeps F.keep) (List.mem_append_right _ (List.mem_singleton.mpr hb))
      · rw [Heap.size_push, List.mem_singleton.mp hb]; exact Nat.lt_succ_of_lt hlt
  · intro D C h tk m' ys news' F' N' o1 hn hC₀ hD₀ hCL hDL hCD offC fin
    refine ⟨m', hn, fun h'' hs'' => fin D h'' tk (F'.change hs'' hCL hC₀) (fun p hp => ?_) o1⟩
    refine ⟨hs''.extBut _ _ ?_ (N' p hp).1, (N' p hp).2⟩
    rcases List.mem_cons.mp hp with rfl | hp
    · exact Ne.symm hCD
    · exact offC p hp
end
section
variable {prog : Program} {w : World} {A : Around} {E : Value → Shared → Prop} {s : Shared} {env : Env} {h₀ : Heap} {x : PySem.Str} {body : List Stmt} {Q : Flow → Shared → Prop}
end
end Mine
end
section
open PySem PySem.W PyProof.Rows PySem.Spec PySem.Calls
set_option maxRecDepth 100000
namespace Mine
section
open LCg
variable {prog : Program} {w : World} {A : Around} {E : Value → Shared → Prop} {s : Shared} {h₀ : Heap} {L : Addr} {m : Str → Option Value} {env : Env}
end
theorem ints_at : ∀ {vs : List Value} {ns : List Int}, IntsAre vs ns → ∀ {i : Nat} {v : Value}, vs[i]? = some v → ∃ k t, ns[i]? = some k ∧ v = .int k t
  | _, _, .nil, i, v, h => by simp at h
  | _, _, .cons n t hr, i, v, h => by
    cases i with
    | zero => exact ⟨n, t, rfl, by simpa using h.symm⟩
    | succ i => simpa using ints_at hr (by simpa using h)
section
variable {prog : Program} {w : World} {A : Around} {E : Value → Shared → Prop} {s : Shared} {t : Tok} {Q : Value → Shared → Prop}
end
end Mine
end
section
open PySem PySem.W PyProof.Rows PySem.Spec PySem.Calls
set_option maxRecDepth 100000
namespace Mine
end Mine
end
section
open PySem PySem.W PyProof.Rows PySem.Spec PySem.Calls
set_option maxRecDepth 100000
namespace Mine
theorem iter_new {h₀ h : Heap} {L l : Addr} {m : Str → Option Value} {LED : List (Addr × Obj)} (F : Fr h₀ L h m) (N : News h₀ L h LED) :
    News h₀ L (h.push { cls := .type "list_iterator", data := .fields #[.ref l, .int 0 0] }) ((h.objs.size, { cls := .type "list_iterator", data := .fields #[.ref l, .int 0 0] }) :: LED) ∧ ∀ p ∈ LED, p.1 ≠ h.objs.size := by
  refine ⟨fun p hp => ?_, fun p hp => Nat.ne_of_lt (Heap.lt_size (N p hp).1)⟩
  rcases List.mem_cons.mp hp with rfl | hp
  · exact ⟨Heap.get?_push_size _ rfl, Ne.symm (Nat.ne_of_lt F.ns.lt), next_is_new F⟩
  · exact ⟨Heap.get?_push_of_some _ (N p hp).1, (N p hp).2⟩
theorem iter_step {h₀ h h' : Heap} {L I l : Addr} {m : Str → Option Value} {LED : List (Addr × Obj)} {oI : Obj} {i : Nat} (F : Fr h₀ L h m) (N : News h₀ L h ((I, oI) :: LED)) (off : ∀ p ∈ LED, p.1 ≠ I) (hit : h'.IsListIter I l i) (hs : Heap.SameBut I h h') :
    ∃ o', o'.cls = .type "list_iterator" ∧ o'.data = .fields #[.ref l, .int i 0] ∧ Fr h₀ L h' m ∧ News h₀ L h' ((I, o') :: LED) := by
  obtain ⟨o', h1, h2, h3⟩ := hit
  have hI := N (I, oI) List.mem_cons_self
  refine ⟨o', h2, h3, F.change hs hI.2.1 hI.2.2, fun p hp => ?_⟩
  rcases List.mem_cons.mp hp with rfl | hp
  · exact ⟨h1, hI.2⟩
  · exact ⟨(hs.2 _ (off p hp)).trans (N p (List.mem_cons_of_mem _ hp)).1, (N p (List.mem_cons_of_mem _ hp)).2⟩
theorem iter_at {h₀ h : Heap} {L I l : Addr} {LED : List (Addr × Obj)} {oI : Obj} {i : Nat} (N : News h₀ L h ((I, oI) :: LED)) (h1 : oI.cls = .type "list_iterator") (h2 : oI.data = .fields #[.ref l, .int i 0]) : h.IsListIter I l i :=
  ⟨oI, (N (I, oI) List.mem_cons_self).1, h1, h2⟩
end Mine
end
section
open PySem PySem.W PyProof.Rows PySem.Spec PySem.Calls
set_option maxRecDepth 100000
namespace Mine
section
open LCg
variable {prog : Program} {w : World} {A : Around} {E : Value → Shared → Prop} {s : Shared} {h₀ : Heap} {L : Addr} {m : Str → Option Value} {env : Env}
end
end Mine
end
section
open PySem PySem.W PyProof.Rows PySem.Spec PySem.Calls
set_option maxRecDepth 100000
namespace Mine
section
open LCg
variable {prog : Program} {w : World} {A : Around} {E : Value → Shared → Prop} {s : Shared} {h₀ : Heap} {L : Addr} {m : Str → Option Value} {env : Env}
theorem comp_relP {elt : Expr} {x : Str} {scope : Scope} {cl : List (Str × Addr)} {Fin : List Value → List (Addr × Obj) → Prop} {news : List (Addr × Obj)} {S : List (Addr × Obj) → Prop} {P : Nat → Value → Prop} {n : Nat} (Rel : Nat → Value → Prop)
    (turn : ∀ (i : Nat) v I oI C oC D m₂ ys h tk (E' : Value → Shared → Prop), P i v → NsObj oC m₂ → m₂ x = some v → Fr h₀ L h m → News h₀ L h ((I, oI) :: (C, oC) :: (D, lst ys) :: news) → Off3 I C D news → ((@Ne Nat I C) ∧ (@Ne Nat I D) ∧ (@Ne Nat C D)) →
      wpAny (model prog w) A (eval elt (compEnvC scope cl C env)) (CompEnd h₀ L m { s with heap := h, toks := tk } I oI C oC D (lst ys) S (fun y news' => news' = news ∧ Rel i y)) E' { s with heap := h, toks := tk })
    (fin : ∀ ys : List Value, ys.length = n → (∀ i y, ys[i]? = some y → Rel i y) → Fin ys news) : CompRest prog w A h₀ L m env elt x scope cl s S P Fin n 0 [] news := by
  have key : ∀ (j i : Nat) (ys : List Value), i + j = n → ys.length = i → (∀ k y, ys[k]? = some y → Rel k y) → CompRest prog w A h₀ L m env elt x scope cl s S P Fin j i ys news := by
    intro j
    induction j with
    | zero =>
      intro i ys hi hl hr
      exact CompRest.zero (fin ys (by omega) hr)
    | succ j ih =>
      intro i ys hi hl hr
      refine CompRest.succ ?_
      intro v I oI C oC D m₂ h tk E' hv hC hx F N off ne
      refine wpAny_mono (turn i v I oI C oC D m₂ _ h tk E' hv hC hx F N off ne) (fun v s₂ hq => ?_) fun _ _ e => e
      obtain ⟨h', tk', nw, e, F', N', off', hS, hn, hy'⟩ := hq
      rw [hn] at N' off' hS
      refine ⟨h', tk', news, e, F', N', off', hS, ?_⟩
      refine ih (i + 1) _ (by omega) (by simp [hl]) fun k y hk => ?_
      by_cases hlt : k < ys.length
      · rw [List.getElem?_append_left hlt] at hk
        exact hr k y hk
      · rw [List.getElem?_append_right (by omega)] at hk
        have hk0 : k - ys.length = 0 := by
          rcases Nat.eq_zero_or_pos (k - ys.length) with h | h
          · exact h
          · rw [List.getElem?_eq_none (by simp only [List.length_singleton]; exact h)] at hk; cases hk
        rw [hk0] at hk
        have : v = y := by simpa using hk
        subst this
        have : k = i := by omega
        subst this
        exact hy'
  exact key n 0 [] (by omega) rfl (fun k y hk => by simp at hk)
end
section
variable {h₀ h : Heap} {L : Addr} {m : Str → Option Value}
theorem fr_name (F : Fr h₀ L h m) : ∃ m', m' = m ∧ Fr h₀ L h m' := ⟨_, rfl, F⟩
theorem fr_ext {m' : Str → Option Value} (F : Fr h₀ L h m) (e : ∀ y, m' y = m y) : Fr h₀ L h m' := by
  have : m' = m := funext e
  rw [this]; exact F
theorem off1_mem {D : Addr} : ∀ {l : List (Addr × Obj)}, LCg.Off1 D l → ∀ p ∈ l, p.1 ≠ D
  | [], _, _, h => nomatch h
  | q :: r, h, p, hp => by
    rcases List.mem_cons.mp hp with rfl | hp
    · exact h.1
    · exact off1_mem h.2 p hp
theorem allLt_mem {d : Addr} : ∀ {l : List (Addr × Obj)}, AllLt d l → ∀ p ∈ l, @LT.lt Nat _ p.1 d
  | [], _, _, h => nomatch h
  | q :: r, h, p, hp => by
    rcases List.mem_cons.mp hp with rfl | hp
    · exact h.1
    · exact allLt_mem h.2 p hp
theorem iter_end {h' : Heap} {I : Addr} {oI : Obj} {LED : List (Addr × Obj)} (F : Fr h₀ L h m) (N : News h₀ L h ((I, oI) :: LED)) (off : ∀ p ∈ LED, p.1 ≠ I) (he : Heap.ExtBut I h h') : Fr h₀ L h' m ∧ News h₀ L h' LED := by
  have hI9 := N (I, oI) List.mem_cons_self
  exact ⟨⟨F.ns.at' fun o e => he _ _ (fun z => hI9.2.1 z.symm) e, fun b o e => he _ _ (fun z => by rw [z, hI9.2.2] at e; cases e) (F.keep b o e), F.above⟩,
    fun p hp => ⟨he _ _ (off p hp) (N p (List.mem_cons_of_mem _ hp)).1, (N p (List.mem_cons_of_mem _ hp)).2⟩⟩
theorem fr_turn1 {a : Str} {A u1 : Option Value} {m : Str → Option Value} (F : Fr h₀ L h (fun y => if y = a then A else if y = a then u1 else m y)) : Fr h₀ L h (fun y => if y = a then A else m y) := fr_ext F fun y => by
  by_cases h1 : y = a
  · rw [if_pos h1, if_pos h1]
  · rw [if_neg h1, if_neg h1, if_neg h1]
theorem head_name {a : Addr} {o : Obj} {LED : List (Addr × Obj)} (N : News h₀ L h ((a, o) :: LED)) : ∃ a', a' = a ∧ News h₀ L h ((a', o) :: LED) := ⟨_, rfl, N⟩
end
end Mine
end
section
open PySem PySem.W PyProof.Rows PySem.Spec PySem.Calls
set_option maxRecDepth 100000
namespace Mine
section
variable {prog : Program} {w : World} {A₀ A : Around} {s : Shared} {base h₀ g₀ : Heap} {outer : List Env} {env : Env} {L a : Addr} {m : Str → Option Value} {news : List (Addr × Obj)} {K : Frag} {p : Program} {loose : List Str} {mean : ExcName → Option Value} {mg mb : Str → Option Value}
  {R : Result → Shared → Prop} {name qual : Str} {params : Arguments} {body : List Stmt} {scope : Scope} {dV kV doc pm cdv ct oc : Value} {an od : Option Addr} {osl : Array (Option Value)} {f : Addr} {args : Args} {binds : List (Str × Value)}
end
end Mine
end
section
open PySem PySem.W PyProof.Rows PySem.Spec PySem.Calls
set_option maxRecDepth 100000
namespace Mine
abbrev ents (H : Addr → Int) (xs : List (Addr × Value)) : List DictEntry := xs.map fun p => ⟨H p.1, .ref p.1, p.2⟩
section
variable {prog : Program} {w : World} {A : Around} {E : Value → Shared → Prop} {s : Shared} {H : Addr → Int} {xs : List (Addr × Value)} {k d : Addr} {o : Obj} {ep : Nat}
theorem ents_at (j : Nat) : (ents H xs).toArray[j]? = (xs[j]?).map fun p => ⟨H p.1, .ref p.1, p.2⟩ := by
  rw [List.getElem?_toArray, List.getElem?_map]
theorem ents_size : (ents H xs).toArray.size = xs.length := by rw [List.size_toArray, List.length_map]
theorem keys_unique (hn : (xs.map (·.1)).Nodup) {i j : Nat} {p q : Value} (hi : xs[i]? = some (k, p)) (hj : xs[j]? = some (k, q)) : i = j := by
  have hi' : (xs.map (·.1))[i]? = some k := by rw [List.getElem?_map, hi]; rfl
  have hj' : (xs.map (·.1))[j]? = some k := by rw [List.getElem?_map, hj]; rfl
  exact (List.getElem?_inj (List.getElem?_eq_some_iff.mp hi').1 hn).mp (hi'.trans hj'.symm)
theorem dictFind_ref {Q : Option Nat → Shared → Prop} (ho : s.heap.get? d = some o) (hd : o.data = .dict (ents H xs).toArray ep) (hn : (xs.map (·.1)).Nodup) (hH : ∀ p ∈ xs, H p.1 = H k → p.1 = k)
    (hnone : (∀ (j : Nat) (v : Value), xs[j]? ≠ some (k, v)) → Q none s) (hsome : ∀ (j : Nat) (v : Value), xs[j]? = some (k, v) → Q (some j) s) :
    wpAny (model prog w) A (dictFind d (.ref k) (H k)) Q E s := by
  generalize hes : (ents H xs).toArray = es at hd
  have hat : ∀ j : Nat, es[j]? = (xs[j]?).map fun p => (⟨H p.1, .ref p.1, p.2⟩ : DictEntry) := fun j => by rw [← hes]; exact ents_at j
  have hsz : es.size = xs.length := by rw [← hes]; exact ents_size
  have haskey : ∀ (j : Nat) (v : Value), xs[j]? = some (k, v) → ((es[j]?.map (·.hash)) == some (H k)) = true := by
    intro j v hj
    rw [hat j, hj]; simp
  have hany : ¬ (es.any fun e => e.key == Value.ref k && e.hash != H k) = true := by
    rw [← Array.any_toList, List.any_eq_true]
    rintro ⟨e, hin, hc⟩
    rw [← hes, List.toList_toArray] at hin
    obtain ⟨p, hp, rfl⟩ := List.mem_map.mp hin
    simp only [Bool.and_eq_true, beq_iff_eq, bne_iff_ne, ne_eq, Value.ref.injEq] at hc
    exact hc.2 (by rw [hc.1])
  have hst : ∀ v ∈ (placesWithHash es.size (fun i => es[i]?.map (·.hash)) (H k)).filterMap (fun i => es[i]?.map (·.key)), v = .ref k := by
    intro v hv
    obtain ⟨i, hi0, hi⟩ := List.mem_filterMap.mp hv
    have hp := (List.mem_filter.mp hi0).2
    dsimp only at hp
    rw [hat i] at hi hp
    cases hx : xs[i]? with
    | none => rw [hx] at hi; cases hi
    | some p =>
      rw [hx] at hi hp
      have e1 : H p.1 = H k := by simpa using hp
      have e2 : (.ref p.1 : Value) = v := by simpa using hi
      rw [← e2, hH p (List.mem_of_getElem? hx) e1]
  have hlen1 : ((placesWithHash es.size (fun i => es[i]?.map (·.hash)) (H k)).filterMap (fun i => es[i]?.map (·.key))) = [] ∨ ((placesWithHash es.size (fun i => es[i]?.map (·.hash)) (H k)).filterMap (fun i => es[i]?.map (·.key))) = [.ref k] := by
    have uniq : ∀ l : List Nat, l.Nodup → (∀ i ∈ l, ∃ v, xs[i]? = some (k, v)) → l.filterMap (fun i => es[i]?.map (·.key)) = [] ∨ l.filterMap (fun i => es[i]?.map (·.key)) = [.ref k] := by
      intro l hl hk
      match l, hl, hk with
      | [], _, _ => exact .inl rfl
      | [i], _, hk =>
        obtain ⟨v, hv⟩ := hk i (.head _)
        right
        rw [List.filterMap_cons, List.filterMap_nil, hat i, hv]
        rfl
      | i :: j :: r, hl, hk =>
        obtain ⟨v, hv⟩ := hk i (.head _)
        obtain ⟨u, hu⟩ := hk j (.tail _ (.head _))
        have := keys_unique hn hv hu
        subst this
        simp at hl
    refine uniq _ ?_ ?_
    · unfold placesWithHash
      exact List.nodup_range.filter _
    · intro i hi
      have hp := (List.mem_filter.mp hi).2
      dsimp only at hp
      rw [hat i] at hp
      cases hx : xs[i]? with
      | none => rw [hx] at hp; simp at hp
      | some p =>
        rw [hx] at hp
        have e1 : H p.1 = H k := by simpa using hp
        refine ⟨p.2, ?_⟩
        rw [← hH p (List.mem_of_getElem? hx) e1]
  unfold dictFind
  try with_reducible refine wpAny_holding ?_
  refine wpAny_bind (wpAny_dictEntries ho hd ?_)
  dsimp only
  rw [if_neg (show ¬ ((Value.ref k :: (placesWithHash es.size (fun i => es[i]?.map (·.hash)) (H k)).filterMap (fun i => es[i]?.map (·.key))).all carriedByValue) = true by simp [carriedByValue])]
  rw [if_neg hany]
  have htell : ∀ {Q' : Bool → Shared → Prop}, Q' false s → wpAny (model prog w) A (if (((placesWithHash es.size (fun i => es[i]?.map (·.hash)) (H k)).filterMap (fun i => es[i]?.map (·.key))) == [Value.ref k]) = true then pure false else tableMayTell (.ref k) ((placesWithHash es.size (fun i => es[i]?.map (·.hash)) (H k)).filterMap (fun i => es[i]?.map (·.key)))) Q' E s := by
    intro Q' hq
    rcases hlen1 with e | e
    · rw [e]
      rw [if_neg (by simp)]
      unfold tableMayTell
      rw [if_pos (by rfl)]
      exact wpAny_pure hq
    · rw [e]
      rw [if_pos (by simp)]
      exact wpAny_pure hq
  by_cases hone : (((placesWithHash es.size (fun i => es[i]?.map (·.hash)) (H k)).filterMap (fun i => es[i]?.map (·.key))) == [Value.ref k]) = true <;>
  (first | rw [if_pos hone] | rw [if_neg hone]) <;>
  (first | rw [if_pos hone] at htell | rw [if_neg hone] at htell) <;> (first | refine wpAny_bind (wpAny_pure ?_) | refine wpAny_bind (htell ?_)) <;> (
    rw [if_neg (by simp)]
    refine wpAny_bind ?_
    refine wpAny_forIn_list _
      (fun rest b s' => s' = s ∧ ∃ i hit, b = (none, hit) ∧ rest = (List.range' i (es.size - i)).filter (fun i => (es[i]?.map (·.hash)) == some (H k)) ∧ i ≤ es.size ∧
        ((hit = none ∧ ∀ j v, j < i → xs[j]? ≠ some (k, v)) ∨ ∃ j v, hit = some j ∧ j < i ∧ xs[j]? = some (k, v))) _ ?_ ?_ _ _
      ⟨rfl, 0, none, rfl, by rw [placesWithHash, List.range_eq_range', Nat.sub_zero], Nat.zero_le _, .inl ⟨rfl, fun _ _ h => absurd h (Nat.not_lt_zero _)⟩⟩
    · rintro x rest b s' ⟨rfl, i, hit, rfl, hr, hi, hHt⟩
      obtain ⟨hix, hxn, hpx, hskip, hrest⟩ := filter_range'_cons _ _ _ _ _ hr.symm
      have hlt : x < es.size := by omega
      have hrest' : rest = (List.range' (x + 1) (es.size - (x + 1))).filter (fun i => (es[i]?.map (·.hash)) == some (H k)) := by rw [hrest]; congr 2; omega
      obtain ⟨⟨b, v'⟩, hkv⟩ : ∃ y, xs[x]? = some y := ⟨xs[x]'(by rw [← hsz]; exact hlt), List.getElem?_eq_getElem _⟩
      have hex : es[x]? = some ⟨H b, .ref b, v'⟩ := by rw [hat x, hkv]; rfl
      have hbk : b = k := by
        rw [hex] at hpx
        exact hH (b, v') (List.mem_of_getElem? hkv) (by simpa using hpx)
      subst hbk
      rw [hex]
      dsimp only
      rw [if_pos (by simp)]
      have heq : ∀ {Q' : Bool → Shared → Prop}, Q' true s' → wpAny (model prog w) A (PySem.eqBool (.ref b) (.ref b)) Q' E s' := by
        intro Q' hq
        unfold PySem.eqBool
        try with_reducible refine wpAny_holding ?_
        rw [if_pos (by simp)]
        exact wpAny_bind (wpAny_rule (wpAny_pure hq))
      refine wpAny_bind (wpAny_dictEpoch ho hd (wpAny_bind (heq (wpAny_bind (wpAny_dictEpoch ho hd ?_)))))
      show wpAny _ _ (if (ep != ep) = true then _ else _) _ E _
      rw [if_neg (by simp)]
      rcases hHt with ⟨rfl, _⟩ | ⟨j, p, _, hjx, hj⟩
      · first | rw [if_pos rfl] | skip
        simp only [Option.isSome_none, Bool.false_eq_true, if_false]
        first | refine wpAny_bind (wpAny_pure ?_) | skip
        refine wpAny_bind (wpAny_rule ?_)
        split
        · exact wpAny_pure (wpAny_pure (hsome x _ hkv))
        · exact wpAny_pure ⟨rfl, x + 1, some x, rfl, hrest', hlt, .inr ⟨x, _, rfl, Nat.lt_succ_self x, hkv⟩⟩
      · exact absurd (keys_unique hn hj hkv) (by omega)
    · rintro b s' ⟨rfl, i, hit, rfl, hr, hi, hHt⟩
      have hall : ∀ j, i ≤ j → j < es.size → ((es[j]?.map (·.hash)) == some (H k)) = false := by
        intro j h1 h2
        have := List.filter_eq_nil_iff.mp hr.symm j (List.mem_range'_1.mpr ⟨h1, by omega⟩)
        simpa using this
      rcases hHt with ⟨rfl, hno⟩ | ⟨j, p, rfl, _, hj⟩
      · refine wpAny_pure (hnone fun j p hj => ?_)
        rcases Nat.lt_or_ge j i with h | h
        · exact hno j p h hj
        · have hjl : j < es.size := by
            rw [hsz]
            rcases Nat.lt_or_ge j xs.length with h' | h'
            · exact h'
            · rw [List.getElem?_eq_none h'] at hj; exact nomatch hj
          have := hall j h hjl
          rw [haskey j p hj] at this
          exact absurd this (by decide)
      · exact wpAny_pure (hsome j p hj))
end
end Mine
end
section
open PySem PySem.W PyProof.Rows PySem.Spec PySem.Calls
set_option maxRecDepth 100000
namespace Mine
section
variable {prog : Program} {w : World} {A : Around} {E : Value → Shared → Prop} {s : Shared} {K : Frag} {C L f : Addr} {h₀ : Heap} {m : Str → Option Value} {ox : Obj} {od : Option Obj} {news : List (Addr × Obj)} {k S : Addr} {Hk : Int}
def HashAt (prog : Program) (w : World) (A : Around) (h₀ : Heap) (L : Addr) (m : Str → Option Value) (news : List (Addr × Obj)) (f k : Addr) (Hk : Int) : Prop :=
  ∀ (s : Shared) (Q E : Value → Shared → Prop), Fr h₀ L s.heap m → News h₀ L s.heap news → (∀ h' tk' t, Fr h₀ L h' m → News h₀ L h' news → Q (.int Hk t) { s with heap := h', toks := tk' }) → wpAny (model prog w) A (call (.ref f) [.ref k]) Q E s
theorem hash_ref {Q : Int → Shared → Prop} (hu : A.units < cLine) (F : Fr h₀ L s.heap m) (N : News h₀ L s.heap news) (X₀ : K.In h₀) (I : InstAt s.heap k ox C od) (hs : findIn K (.ref C) "__hash__" = some (some (.ref f))) (hf : isFn K (.ref f) = true)
    (hr : -2 ^ 63 ≤ Hk ∧ Hk < 2 ^ 63 ∧ Hk ≠ -1) (hc : HashAt prog w A h₀ L m news f k Hk)
    (h : ∀ h' tk', Fr h₀ L h' m → News h₀ L h' news → Q Hk { s with heap := h', toks := tk' }) : wpAny (model prog w) A (pyHash (.ref k)) Q E s := by
  have X := X₀.keeps F.keep
  unfold pyHash
  refine wpAny_bind (wpAny_cRoomFor hu ?_)
  have sp : ∀ {Q' : Option Value → Shared → Prop}, Q' (some (.ref f)) s → wpAny (model prog w) A (specialOf (.ref k) "__hash__") Q' E s := by
    intro Q' hq
    unfold specialOf
    exact wpAny_bind (I.type.here ((looks_findIn X hs).here hq))
  refine wpAny_bind (sp ?_)
  rw [if_neg (by simp)]
  refine wpAny_bind (sp ?_)
  simp only [Option.isNone_some, Bool.false_eq_true, if_false]
  refine wpAny_bind ?_
  have main : wpAny (model prog w) A (call (.ref f) [.ref k] >>= fun v => pure (some v)) (fun r s' => ∃ h' tk' t, r = some (.int Hk t) ∧ s' = { s with heap := h', toks := tk' } ∧ Fr h₀ L h' m ∧ News h₀ L h' news) E s :=
    wpAny_bind (hc s _ _ F N fun h' tk' t F' N' => wpAny_pure ⟨h', tk', t, rfl, rfl, F', N'⟩)
  have two : wpAny (model prog w) A (callSpecialIfBoundUnlessNone? (.ref k) "__hash__" (do rule "hash.unhashable"; raiseError "TypeError" s!"unhashable type: '{← typeNameOf (.ref k)}'")) (fun r s' => ∃ h' tk' t, r = some (.int Hk t) ∧ s' = { s with heap := h', toks := tk' } ∧ Fr h₀ L h' m ∧ News h₀ L h' news) E s := by
    simp only [callSpecialIfBoundUnlessNone?, bindSpecialIfBound?]
    refine wpAny_holding (wpAny_bind (wpAny_bind (sp ?_)))
    refine wpAny_bind (wpAny_askSetting (wpAny_ite ?_))
    split
    · exact wpAny_bind ((bind_fn X _ (beq_iff_eq.mp hf)).here (wpAny_pure (by exact main)))
    · exact wpAny_tryCatch (wpAny_bind ((bind_fn X _ (beq_iff_eq.mp hf)).here (wpAny_pure (by exact main))))
  refine wpAny_mono two (fun r s' z => ?_) fun _ _ e => e
  obtain ⟨h', tk', t, rfl, rfl, F', N'⟩ := z
  dsimp only
  unfold pyHashByItsType.reduced
  rw [if_pos (by rw [decide_eq_true hr.1, decide_eq_true hr.2.1]; rfl)]
  refine wpAny_pure ?_
  rw [if_neg (by simpa using hr.2.2)]
  exact h h' tk' F' N'
end
section
variable {prog : Program} {w : World} {A : Around} {E : Value → Shared → Prop} {s : Shared} {K : Frag} {C L f : Addr} {h₀ : Heap} {m : Str → Option Value} {ox : Obj} {od : Option Obj} {news : List (Addr × Obj)} {k S : Addr} {H : Addr → Int} {xs : List (Addr × Value)} {n : Nat}
theorem atOf {v : Value} : ∀ {xs : List (Addr × Value)} {j : Nat}, (xs.map (·.1)).Nodup → xs[j]? = some (k, v) → xs.lookup k = some v
  | [], _, _, h => by simp at h
  | x :: r, 0, _, h => by
    have : x = (k, v) := by simpa using h
    subst this
    simp [List.lookup]
  | x :: r, j + 1, hn, h => by
    rw [List.map_cons, List.nodup_cons] at hn
    have h' : r[j]? = some (k, v) := by simpa using h
    have hne : (k == x.1) = false := by
      rw [beq_eq_false_iff_ne]
      rintro rfl
      exact hn.1 (List.mem_map.mpr ⟨_, List.mem_of_getElem? h', rfl⟩)
    obtain ⟨a, b⟩ := x
    simp only [List.lookup, hne]
    exact atOf hn.2 h'
theorem noneOf : ∀ {xs : List (Addr × Value)}, (∀ (j : Nat) (v : Value), xs[j]? ≠ some (k, v)) → xs.lookup k = none
  | [], _ => rfl
  | (a, b) :: r, h => by
    have hne : (k == a) = false := by
      rw [beq_eq_false_iff_ne]
      rintro rfl
      exact h 0 b rfl
    simp only [List.lookup, hne]
    exact noneOf fun j v hj => h (j + 1) v (by simpa using hj)
theorem get_ref {Q : Value → Shared → Prop} (hu : A.in1.units < cLine) (F : Fr h₀ L s.heap m) (N : News h₀ L s.heap news) (X₀ : K.In h₀) (I : InstAt s.heap k ox C od) (hs : findIn K (.ref C) "__hash__" = some (some (.ref f))) (hf : isFn K (.ref f) = true)
    (hr : -2 ^ 63 ≤ H k ∧ H k < 2 ^ 63 ∧ H k ≠ -1) (hc : HashAt prog w A.in1 h₀ L m news f k (H k)) (hS : (S, dictOf (ents H xs) n) ∈ news) (hsm : (S == sysModules) = false) (hn : (xs.map (·.1)).Nodup) (hH : ∀ p ∈ xs, H p.1 = H k → p.1 = k)
    (h : ∀ h' tk', Fr h₀ L h' m → News h₀ L h' news → Q ((xs.lookup k).getD .none) { s with heap := h', toks := tk' }) : wpAny (model prog w) A (call (.builtin "dict.get") [.ref S, .ref k]) Q E s := by
  have z := N _ hS
  refine wpAny_call_entry PySem.F.slot_dict_get ⟨_, z.1, rfl⟩ PySem.F.entry_dict_get ?_ (PySem.F.args_dict_get_2 _ _)
  show wpAny _ _ (Builtin.Dict.notOrdered "get" ⟨[.ref S, .ref k], []⟩ >>= fun _ => _) _ _ s
  refine wpAny_bind (wpAny_notOrdered_dict ⟨_, z.1, rfl⟩ ?_)
  show wpAny _ _ (dictGet S (.ref k) >>= _) _ _ s
  unfold dictGet
  refine wpAny_bind ?_
  try with_reducible refine wpAny_holding ?_
  refine wpAny_bind (hash_ref hu F N X₀ I hs hf hr hc fun h' tk' F' N' => ?_)
  have z' := N' _ hS
  refine wpAny_bind (dictFind_ref (H := H) (xs := xs) (ep := n) z'.1 rfl hn hH (fun hno => ?_) fun j v hj => ?_)
  · refine wpAny_pure ?_
    dsimp only
    show wpAny _ _ (Builtin.Dict.missed S (.ref k) >>= _) _ _ _
    refine wpAny_bind (wpAny_missed_other hsm (wpAny_pure ⟨.none, rfl, ?_⟩))
    have := h h' tk' F' N'
    rw [noneOf hno] at this
    exact this
  · refine wpAny_bind (wpAny_dictEntries z'.1 rfl (wpAny_pure ?_))
    rw [ents_at j, hj]
    have := h h' tk' F' N'
    rw [atOf hn hj] at this
    exact wpAny_pure ⟨v, rfl, this⟩
end
end Mine
end
section
open PySem PySem.W PyProof.Rows PySem.Spec PySem.Calls
set_option maxRecDepth 100000
namespace Mine
theorem map_erase {α β : Type} (f : α → β) : ∀ (l : List α) (j : Nat), (l.map f).eraseIdx j = (l.eraseIdx j).map f
  | [], _ => rfl
  | _ :: _, 0 => rfl
  | x :: r, j + 1 => by simp only [List.map_cons, List.eraseIdx_cons_succ, map_erase f r j]
theorem upd_at {h : Heap} {S : Addr} {o : Obj} (g : Obj → Obj) (ho : h.get? S = some o) (hf : (g o).isFreed = false) : (h.update S g).get? S = some (g o) := Heap.get?_update_self _ ho hf
theorem erase_keys {k : Addr} {v : Value} : ∀ {xs : List (Addr × Value)} {j : Nat}, (xs.map (·.1)).Nodup → xs[j]? = some (k, v) → xs.eraseIdx j = xs.filter (fun p => p.1 != k)
  | [], _, _, h => by simp at h
  | x :: r, 0, hn, h => by
    have : x = (k, v) := by simpa using h
    subst this
    rw [List.map_cons, List.nodup_cons] at hn
    rw [List.eraseIdx_cons_zero, List.filter_cons_of_neg (by simp)]
    symm
    rw [List.filter_eq_self]
    intro p hp
    have : p.1 ≠ k := fun e => hn.1 (List.mem_map.mpr ⟨p, hp, e⟩)
    simpa using this
  | x :: r, j + 1, hn, h => by
    rw [List.map_cons, List.nodup_cons] at hn
    have h' : r[j]? = some (k, v) := by simpa using h
    have hne : x.1 ≠ k := by
      rintro rfl
      exact hn.1 (List.mem_map.mpr ⟨_, List.mem_of_getElem? h', rfl⟩)
    rw [List.eraseIdx_cons_succ, List.filter_cons_of_pos (by simpa using hne), erase_keys hn.2 h']
section
variable {prog : Program} {w : World} {A : Around} {E : Value → Shared → Prop} {s : Shared} {K : Frag} {C L f : Addr} {h₀ : Heap} {m : Str → Option Value} {ox : Obj} {od : Option Obj} {rest : List (Addr × Obj)} {k S : Addr} {H : Addr → Int} {xs : List (Addr × Value)} {n : Nat} {v : Value}
theorem news_head {h h' : Heap} {o o' : Obj} (N : News h₀ L h ((S, o) :: rest)) (F : Fr h₀ L h m) (off : ∀ p ∈ rest, p.1 ≠ S) (hs : Heap.SameBut S h h') (ho : h'.get? S = some o') : Fr h₀ L h' m ∧ News h₀ L h' ((S, o') :: rest) := by
  have z := N (S, o) (.head _)
  refine ⟨F.change hs z.2.1 z.2.2, fun p hp => ?_⟩
  rcases List.mem_cons.mp hp with rfl | hp
  · exact ⟨ho, z.2⟩
  · exact ⟨(hs.2 _ (off p hp)).trans (N p (List.mem_cons_of_mem _ hp)).1, (N p (List.mem_cons_of_mem _ hp)).2⟩
theorem set_ref {Q : Unit → Shared → Prop} (hu : A.in1.units < cLine) (F : Fr h₀ L s.heap m) (N : News h₀ L s.heap ((S, dictOf (ents H xs) n) :: rest)) (off : ∀ p ∈ rest, p.1 ≠ S) (X₀ : K.In h₀) (I : InstAt s.heap k ox C od) (hs : findIn K (.ref C) "__hash__" = some (some (.ref f))) (hf : isFn K (.ref f) = true)
    (hr : -2 ^ 63 ≤ H k ∧ H k < 2 ^ 63 ∧ H k ≠ -1) (hc : HashAt prog w A.in1 h₀ L m ((S, dictOf (ents H xs) n) :: rest) f k (H k)) (hn : (xs.map (·.1)).Nodup) (hH : ∀ p ∈ xs, H p.1 = H k → p.1 = k) (hz : xs.length ≤ 1000) (hk : k ∉ xs.map (·.1))
    (h : ∀ h' tk', Fr h₀ L h' m → News h₀ L h' ((S, dictOf (ents H (xs ++ [(k, v)])) (n + 1)) :: rest) → Q () { s with heap := h', toks := tk' }) : wpAny (model prog w) A (setItem (.ref S) (.ref k) v) Q E s := by
  have z := N _ (.head _)
  have hT : s.TypeIs (.ref S) "dict" := ⟨_, z.1, rfl⟩
  unfold setItem
  try with_reducible refine wpAny_holding ?_
  refine wpAny_bind (wpAny_sequenceKey hT (by decide) ?_)
  refine wpAny_bind (wpAny_callSpecial?_slot (name := Str.ofString "__setitem__") hT slot_dict_setitem
    (wpAny_call_entry slot_dict_setitem hT entry_dict_setitem ?_ (args_dict_setitem _ _ _)))
  show wpAny _ _ (Builtin.Dict.notOrdered "__setitem__" ⟨[.ref S, .ref k, v], []⟩ >>= _) _ _ s
  refine wpAny_bind (wpAny_notOrdered_dict hT ?_)
  show wpAny _ _ (dictSet S (.ref k) v >>= _) _ _ s
  refine wpAny_bind ?_
  unfold dictSet
  try with_reducible refine wpAny_holding ?_
  refine wpAny_bind (hash_ref hu F N X₀ I hs hf hr hc fun h' tk' F' N' => ?_)
  have z' := N' _ (.head _)
  unfold dictSetHashed
  try with_reducible refine wpAny_holding ?_
  refine wpAny_bind (dictFind_ref (H := H) (xs := xs) (ep := n) z'.1 rfl hn hH (fun hno => ?_) fun j u hj => absurd (List.mem_map.mpr ⟨_, List.mem_of_getElem? hj, rfl⟩) hk)
  refine wpAny_bind (wpAny_rule (wpAny_updateDictKeys (hz := by rw [ents_size, sizeLine_eq]; omega) z'.1 rfl ?_))
  refine wpAny_pure ⟨.none, rfl, wpAny_pure ?_⟩
  obtain ⟨F2, N2⟩ := news_head (o' := dictOf (ents H (xs ++ [(k, v)])) (n + 1)) N' F' off (Heap.SameBut.update ..) (by
    refine (upd_at (Obj.mapDictKeys (·.push ⟨H k, .ref k, v⟩)) z'.1 rfl).trans ?_
    show some (Obj.mk _ _ (.dict ((ents H xs).toArray.push ⟨H k, .ref k, v⟩) (n + 1)) _) = _
    rw [List.push_toArray, ents, ents, List.map_append]
    rfl)
  exact h _ _ F2 N2
theorem del_ref {Q : Unit → Shared → Prop} {u : Value} (hu : A.in1.units < cLine) (F : Fr h₀ L s.heap m) (N : News h₀ L s.heap ((S, dictOf (ents H xs) n) :: rest)) (off : ∀ p ∈ rest, p.1 ≠ S) (X₀ : K.In h₀) (I : InstAt s.heap k ox C od) (hs : findIn K (.ref C) "__hash__" = some (some (.ref f))) (hf : isFn K (.ref f) = true)
    (hr : -2 ^ 63 ≤ H k ∧ H k < 2 ^ 63 ∧ H k ≠ -1) (hc : HashAt prog w A.in1 h₀ L m ((S, dictOf (ents H xs) n) :: rest) f k (H k)) (hn : (xs.map (·.1)).Nodup) (hH : ∀ p ∈ xs, H p.1 = H k → p.1 = k) (hz : xs.length ≤ 1000) (hk : xs.lookup k = some u)
    (h : ∀ h' tk', Fr h₀ L h' m → News h₀ L h' ((S, dictOf (ents H (xs.filter (fun p => p.1 != k))) (n + 1)) :: rest) → Q () { s with heap := h', toks := tk' }) : wpAny (model prog w) A (delItem (.ref S) (.ref k)) Q E s := by
  have z := N _ (.head _)
  have hT : s.TypeIs (.ref S) "dict" := ⟨_, z.1, rfl⟩
  refine wpAny_delItem_slot hT (by decide) PySem.F.slot_dict_delitem (wpAny_call_entry PySem.F.slot_dict_delitem hT PySem.F.entry_dict_delitem ?_ (PySem.F.args_dict_delitem_2 _ _))
  unfold Builtin.«dict.__delitem__»
  refine wpAny_bind ?_
  unfold Builtin.Dict.dictSlotArgs
  refine wpAny_bind (wpAny_notOrdered_dict hT ?_)
  show wpAny _ _ (pure (Value.ref S, Value.ref k)) _ _ s
  refine wpAny_pure ?_
  show wpAny _ _ (Builtin.Dict.takeOut S (.ref k) >>= _) _ _ s
  refine wpAny_bind ?_
  unfold Builtin.Dict.takeOut
  try with_reducible refine wpAny_holding ?_
  refine wpAny_bind (hash_ref hu F N X₀ I hs hf hr hc fun h' tk' F' N' => ?_)
  have z' := N' _ (.head _)
  refine wpAny_bind (dictFind_ref (H := H) (xs := xs) (ep := n) z'.1 rfl hn hH (fun hno => absurd hk (by rw [noneOf hno]; simp)) fun j u hj => ?_)
  refine wpAny_bind (wpAny_dictEntries z'.1 rfl ?_)
  rw [ents_at j, hj]
  refine wpAny_bind (wpAny_updateDictKeys (hz := by rw [ents_size, sizeLine_eq]; omega) z'.1 rfl (wpAny_pure ?_))
  refine wpAny_bind (wpAny_letGo (wpAny_pure ⟨.none, rfl, ?_⟩))
  obtain ⟨F2, N2⟩ := news_head (o' := dictOf (ents H (xs.filter (fun p => p.1 != k))) (n + 1)) N' F' off (Heap.SameBut.update ..) (by
    refine (upd_at (Obj.mapDictKeys (·.eraseIdxIfInBounds j)) z'.1 rfl).trans ?_
    show some (Obj.mk _ _ (.dict ((ents H xs).toArray.eraseIdxIfInBounds j) (n + 1)) _) = _
    have e : (ents H xs).toArray.eraseIdxIfInBounds j = (ents H (xs.filter (fun p => p.1 != k))).toArray := by
      rw [← erase_keys hn hj]
      have hjl : j < (ents H xs).length := by
        rw [List.length_map]
        exact (List.getElem?_eq_some_iff.mp hj).1
      apply Array.toList_inj.mp
      rw [Array.eraseIdxIfInBounds]
      simp only [List.size_toArray, hjl, dif_pos]
      rw [Array.toList_eraseIdx, List.toList_toArray]
      exact map_erase _ _ _
    rw [e])
  exact h _ _ F2 N2
end
end Mine
end
section
open PySem PySem.W PyProof.Rows PySem.Spec PySem.Calls
set_option maxRecDepth 100000
namespace Mine
section
variable {M : Model} {A : Around} {E : Value → Shared → Prop} {s : Shared} {σ : Type}
def wpT (M : Model) (A : Around) (E : Value → Shared → Prop) (s : Shared) {α : Type} (m : StateT σ Sem α) (Q : α → σ → Shared → Prop) (st : σ) : Prop :=
  wpAny M A (m.run st) (fun r s' => Q r.1 r.2 s') E s
theorem wpT_pure {α : Type} {a : α} {Q : α → σ → Shared → Prop} {st : σ} (h : Q a st s) : wpT M A E s (pure a : StateT σ Sem α) Q st := by
  unfold wpT; rw [StateT.run_pure]; exact wpAny_pure h
theorem wpT_bind {α β : Type} {m : StateT σ Sem α} {f : α → StateT σ Sem β} {Q : β → σ → Shared → Prop} {st : σ}
    (h : wpT M A E s m (fun a st' s' => wpT M A E s' (f a) Q st') st) : wpT M A E s (m >>= f) Q st := by
  unfold wpT at h ⊢; rw [StateT.run_bind]
  exact wpAny_bind (wpAny_mono h (fun _ _ h' => h') fun _ _ e => e)
theorem wpT_mono {α : Type} {m : StateT σ Sem α} {Q Q' : α → σ → Shared → Prop} {st : σ} (h : wpT M A E s m Q st) (hq : ∀ a st' s', Q a st' s' → Q' a st' s') : wpT M A E s m Q' st :=
  wpAny_mono h (fun r s' h' => hq _ _ _ h') fun _ _ e => e
theorem wpT_get {Q : σ → σ → Shared → Prop} {st : σ} (h : Q st st s) : wpT M A E s (get : StateT σ Sem σ) Q st := by
  unfold wpT; rw [StateT.run_get]; exact wpAny_pure h
theorem wpT_modify {f : σ → σ} {Q : PUnit → σ → Shared → Prop} {st : σ} (h : Q ⟨⟩ (f st) s) : wpT M A E s (modify f : StateT σ Sem PUnit) Q st := by
  unfold wpT; rw [StateT.run_modify]; exact wpAny_pure h
theorem wpT_lift {α : Type} {m : Sem α} {Q : α → σ → Shared → Prop} {st : σ} (h : wpAny M A m (fun a s' => Q a st s') E s) : wpT M A E s (liftM m : StateT σ Sem α) Q st := by
  unfold wpT
  show wpAny M A ((StateT.lift m : StateT σ Sem α).run st) _ E s
  rw [StateT.run_lift]
  exact wpAny_bind (wpAny_mono h (fun a s' h' => wpAny_pure h') fun _ _ e => e)
theorem wpT_first {β : Type} {a b : Nat} {f : Nat → β → StateT σ Sem (ForInStep β)} {c : β} {Q : β → σ → Shared → Prop} {st : σ} (hab : a < b)
    (h : wpT M A E s (f a c) (fun r st' s' => ∃ c', r = .done c' ∧ Q c' st' s') st) : wpT M A E s (forIn [a:b] c f) Q st := by
  rw [Std.Legacy.Range.forIn_eq_forIn_range']
  have hsz : ([a:b] : Std.Legacy.Range).size = b - a := by simp [Std.Legacy.Range.size]
  show wpT M A E s (forIn (List.range' a ([a:b] : Std.Legacy.Range).size 1) c f) Q st
  rw [hsz]
  obtain ⟨n, hn⟩ : ∃ n, b - a = n + 1 := ⟨b - a - 1, by omega⟩
  rw [hn, List.range'_succ, List.forIn_cons]
  refine wpT_bind (wpT_mono h fun r st' s' h' => ?_)
  obtain ⟨c', rfl, hq⟩ := h'
  exact wpT_pure hq
end
section
variable {prog : Program} {w : World} {A : Around} {E : Value → Shared → Prop} {s : Shared}
theorem lt_raises {st : SortSt} {i j : Nat} {x y p q : Value} {Q : Option Bool → SortSt → Shared → Prop} (hk : kindOf st = oneType') (hi : (arrOf st)[i]? = some (x, p)) (hj : (arrOf st)[j]? = some (y, q))
    (h : wpAny (model prog w) A (oneLt' true x y) (fun _ _ => False) (fun e s' => Q none (SortSt.mk' (kindOf st) (arrOf st) (pendingOf st) (gallopOf st) (some e)) s') s) :
    wpT (model prog w) A E s (ltAt' i j) Q st := by
  rw [ltAt'_eq]
  refine wpT_bind (wpT_get ?_)
  show wpT _ _ _ _ (do let x ← elem' (arrOf st) i; let y ← elem' (arrOf st) j; lt' x y) Q st
  rw [elem'_eq, elem'_eq, hi, hj]
  refine wpT_bind (wpT_pure (wpT_bind (wpT_pure ?_)))
  rw [lt'_eq]
  refine wpT_bind (wpT_get ?_)
  rw [hk, keyLt'_oneType]
  refine wpT_bind (wpT_lift (wpAny_attempt (wpAny_mono h (fun _ _ h' => h'.elim) fun e s' h' => ?_)))
  refine wpT_bind (wpT_modify (wpT_pure ?_))
  exact h'
theorem runs_raise {st : SortSt} {x y p q : Value} {Q : Unit → SortSt → Shared → Prop} (hk : kindOf st = oneType') (h0 : (arrOf st)[0]? = some (y, q)) (h1 : (arrOf st)[1]? = some (x, p))
    (h : wpAny (model prog w) A (oneLt' true x y) (fun _ _ => False) (fun e s' => Q () (SortSt.mk' (kindOf st) (arrOf st) (pendingOf st) (gallopOf st) (some e)) s') s) :
    wpT (model prog w) A E s sortRuns' Q st := by
  have h2 : 1 < (arrOf st).size := by
    rcases Nat.lt_or_ge 1 (arrOf st).size with h | h
    · exact h
    · rw [Array.getElem?_eq_none h] at h1; cases h1
  rw [sortRuns'_eq]
  refine wpT_bind (wpT_get ?_)
  dsimp only
  refine wpT_bind (wpT_first (by omega) ?_)
  rw [if_neg (by omega)]
  refine wpT_bind ?_
  rw [countRun0_eq]
  refine wpT_bind ?_
  unfold ascLoop
  refine wpT_first (by omega) ?_
  refine wpT_bind (lt_raises hk h1 h0 (wpAny_mono h (fun _ _ h' => h'.elim) fun e s' h' => ?_))
  dsimp only
  refine wpT_pure ⟨_, rfl, ?_⟩
  dsimp only
  refine wpT_pure ?_
  dsimp only
  refine wpT_pure ⟨_, rfl, ?_⟩
  dsimp only
  exact wpT_pure h'
end
end Mine
end
section
open PySem PySem.W PyProof.Rows PySem.Spec PySem.Calls
set_option maxRecDepth 100000
namespace Mine
section
variable {M : Model} {A : Around} {E : Value → Shared → Prop} {s : Shared} {C : Addr}
def OfClass (h : Heap) (C : Addr) (vs : List Value) : Prop := ∀ v ∈ vs, ∃ a o, v = .ref a ∧ h.get? a = some o ∧ o.cls = .ref C
theorem first_ref {v : Value} {Q : Option Value → Shared → Prop} (h : ∃ a o, v = .ref a ∧ s.heap.get? a = some o ∧ o.cls = .ref C) (hq : Q none s) : wpAny M A (firstOfTuple' v) Q E s := by
  obtain ⟨a, o, rfl, ho, hc⟩ := h
  show wpAny M A (do if (← typeOf (.ref a)) != .type "tuple" then return none
                     return (← Builtin.List.listItems (.ref a))[0]?) Q E s
  refine wpAny_bind ?_
  unfold typeOf
  refine wpAny_bind (wpAny_load ho (wpAny_pure ?_))
  rw [hc, if_pos (by simp)]
  exact wpAny_pure hq
theorem firsts_refs : ∀ {vs : List Value} {Q : List (Option Value) → Shared → Prop}, OfClass s.heap C vs → Q (vs.map fun _ => none) s → wpAny M A (vs.mapM firstOfTuple') Q E s
  | [], Q, _, hq => by rw [List.mapM_nil]; exact wpAny_pure hq
  | v :: r, Q, h, hq => by
    rw [List.mapM_cons]
    exact wpAny_bind (first_ref (h v (.head _)) (wpAny_bind (firsts_refs (fun u hu => h u (.tail _ hu)) (wpAny_pure hq))))
theorem types_refs : ∀ {vs : List Value} {Q : List Value → Shared → Prop}, OfClass s.heap C vs → Q (vs.map fun _ => .ref C) s → wpAny M A (vs.mapM typeOf) Q E s
  | [], Q, _, hq => by rw [List.mapM_nil]; exact wpAny_pure hq
  | v :: r, Q, h, hq => by
    rw [List.mapM_cons]
    obtain ⟨a, o, rfl, ho, hc⟩ := h v (.head _)
    refine wpAny_bind ?_
    unfold typeOf
    refine wpAny_bind (wpAny_load ho (wpAny_pure ?_))
    rw [hc]
    exact wpAny_bind (types_refs (fun u hu => h u (.tail _ hu)) (wpAny_pure hq))
theorem kind_refs {v₁ : Value} {vs : List Value} {Q : SortKind → Shared → Prop} (h : OfClass s.heap C (v₁ :: vs)) (hq : Q oneType' s) : wpAny M A (keyKind' (v₁ :: vs).toArray) Q E s := by
  rw [keyKind'_eq]
  simp only [List.mapM_toArray]
  refine wpAny_bind ?_
  rw [map_eq_pure_bind]
  refine wpAny_bind (firsts_refs h (wpAny_pure ?_))
  rw [if_neg (by simp), if_neg (by simp)]
  refine wpAny_bind ?_
  rw [oneTypeOnly'_eq]
  simp only [List.mapM_toArray]
  refine wpAny_bind ?_
  rw [map_eq_pure_bind]
  refine wpAny_bind (types_refs h (wpAny_pure ?_))
  have h0 : (List.map (fun _ => Value.ref C) (v₁ :: vs)).toArray[0]? = some (.ref C) := by simp
  rw [h0]
  have hall : ((List.map (fun _ => Value.ref C) (v₁ :: vs)).toArray.all fun x => x == Value.ref C) = true := by
    simp only [List.all_toArray, List.all_map, List.all_eq_true]
    intro _ _
    show (Value.ref C == Value.ref C) = true
    simp
  simp only [hall, if_true]
  refine wpAny_pure ?_
  simp only [Option.isSome_some, if_true]
  exact wpAny_pure hq
end
section
variable {prog : Program} {w : World} {A : Around} {E : Value → Shared → Prop} {s : Shared} {C L B : Addr} {h₀ : Heap} {m : Str → Option Value} {news : List (Addr × Obj)} {vs : List Value} {n : Nat}
theorem sort_world (F : Fr h₀ L s.heap m) (N : News h₀ L s.heap ((B, W.listOf vs.toArray n) :: news)) (off : ∀ p ∈ news, p.1 ≠ B) :
    ∃ e1 h', h' = ((s.heap.update B (Obj.mapSeq fun _ => #[])).push (seqObj "tuple" vs.toArray 0)).push (seqObj "list" #[] 0) ∧ (s.heap.update B (Obj.mapSeq fun _ => #[])).get? B = some (seqObj "list" #[] e1) ∧ Fr h₀ L h' m ∧ News h₀ L h' ((B, W.listOf #[] e1) :: news) := by
  have z := N _ (.head _)
  have hu := get?_update_seq (n := n) (xs := vs.toArray) (c := "list") z.1 (fun _ => #[])
  obtain ⟨F1, N1⟩ := news_head N F off (Heap.SameBut.update s.heap B (Obj.mapSeq fun _ => #[])) hu
  exact ⟨_, _, rfl, hu, (F1.push _).push _, (N1.grown fun _ _ e => Heap.get?_push_of_some _ (Heap.get?_push_of_some _ e))⟩
set_option maxHeartbeats 4000000 in
theorem sort_small {Q : Value → Shared → Prop} (F : Fr h₀ L s.heap m) (N : News h₀ L s.heap ((B, W.listOf vs.toArray n) :: news)) (off : ∀ p ∈ news, p.1 ≠ B) (hv : vs.length < 2)
    (h : ∀ h' n', Fr h₀ L h' m → News h₀ L h' ((B, W.listOf vs.toArray n') :: news) → Q .none { s with heap := h' }) : wpAny (model prog w) A (call (.builtin "list.sort") [.ref B]) Q E s := by
  have z := N _ (.head _)
  refine wpAny_call_entry slot_list_sort ⟨_, z.1, rfl⟩ entry_list_sort ?_ (args_list_sort _)
  rw [list_sort_plain]
  refine wpAny_bind (listItems_at z.1 rfl (wpAny_bind (listUpdate_at z.1 rfl ?_ (by rw [List.size_toArray, sizeLine_eq]; omega))))
  obtain ⟨e1, h1, rfl, hu, F1, N1⟩ := sort_world F N off
  refine wpAny_bind (seqEpoch_at hu rfl (wpAny_bind (wpAny_newTuple (wpAny_bind (wpAny_newList (wpAny_holding ?_))))))
  show wpAny (model prog w) A.in1 _ _ E { s with heap := ((s.heap.update B (Obj.mapSeq fun _ => #[])).push (seqObj "tuple" vs.toArray 0)).push (seqObj "list" #[] 0) }
  clear hu
  generalize ((s.heap.update B (Obj.mapSeq fun _ => #[])).push (seqObj "tuple" vs.toArray 0)).push (seqObj "list" #[] 0) = h1 at F1 N1
  have z1 := N1 _ (.head _)
  dsimp only
  rw [if_pos (show vs.toArray.size < 2 by rw [List.size_toArray]; exact hv), if_pos (show vs.toArray.size < 2 by rw [List.size_toArray]; exact hv)]
  refine wpAny_bind (wpAny_pure ?_)
  rw [StateT.run_pure]
  refine wpAny_bind (wpAny_pure ?_)
  dsimp only
  refine wpAny_bind (seqEpoch_at z1.1 rfl ?_)
  have e2 : ((vs.toArray.zip vs.toArray).map (·.2)) = vs.toArray := by
    apply Array.toList_inj.mp
    rw [Array.toList_map, Array.toList_zip, List.toList_toArray]
    exact List.map_snd_zip (Nat.le_refl _)
  refine wpAny_bind (listUpdate_at z1.1 rfl ?_ (by rw [sizeLine_eq]; simp) (by rw [e2, List.size_toArray, sizeLine_eq]; omega))
  simp only [bne_self_eq_false, Bool.false_eq_true, if_false]
  refine wpAny_pure ⟨_, rfl, ?_⟩
  have hu2 := get?_update_seq (n := e1) (xs := #[]) (c := "list") z1.1 (fun _ => ((vs.toArray.zip vs.toArray).map (·.2)))
  have e3 : ∀ k, seqObj "list" ((vs.toArray.zip vs.toArray).map (·.2)) k = W.listOf vs.toArray k := fun k => by rw [e2]
  obtain ⟨F2, N2⟩ := news_head N1 F1 off (Heap.SameBut.update _ B (Obj.mapSeq fun _ => ((vs.toArray.zip vs.toArray).map (·.2)))) (hu2.trans (congrArg some (e3 _)))
  exact h _ _ F2 N2
end
end Mine
end
section
open PySem PySem.W PyProof.Rows PySem.Spec PySem.Calls
set_option maxRecDepth 100000
namespace Mine
theorem funFrames_upd {Bh h h' : Heap} {B : Addr} (hs : Heap.SameBut B h h') : ∀ {l : List Env}, (∀ b ∈ l.filterMap (·.frame), b ≠ B) → h.FunFrames Bh l → h'.FunFrames (hideAll Bh [B]) l
  | [], _, _ => trivial
  | env :: r, hl, x => by
    obtain ⟨x1, ⟨L, o, hf, hn, ho, hd⟩, x3⟩ := x
    have hL : L ≠ B := hl L (List.mem_filterMap.mpr ⟨env, .head _, hf⟩)
    refine ⟨x1, ⟨L, o, hf, ?_, (hs.2 _ hL).trans ho, hd⟩, funFrames_upd hs (fun b hb => hl b (by
      obtain ⟨e, he, hfe⟩ := List.mem_filterMap.mp hb
      exact List.mem_filterMap.mpr ⟨e, .tail _ he, hfe⟩)) x3⟩
    cases q : (hideAll Bh [B]).get? L with
    | none => rfl
    | some o' => have := of_hideAll [B] q; rw [hn] at this; cases this
theorem raised_upd {base G h h' : Heap} {l : List Env} {e B : Addr} {cls : Value} {oB : Obj} {news : List (Addr × Obj)} (R : RaisedSN base G l e cls ((B, oB) :: news) h)
    (hl : ∀ b ∈ l.filterMap (·.frame), ∃ o, G.get? b = some o) (hs : Heap.SameBut B h h') (hd : ∀ vs, oB.data ≠ .fields vs) (off : ∀ p ∈ news, p.1 ≠ B) (hu : G.UpToSlots h) : RaisedSN base G l e cls news h' ∧ G.UpToSlots h' := by
  obtain ⟨Bh, a0, hB, hBG, hln, ⟨f1, f2, f3, f4⟩⟩ := R
  obtain ⟨b1, b2, b3⟩ := hln (B, oB) (.head _)
  have hn1 : ∀ b, b ≠ B → b ∉ [B] := fun b hb hm => hb (List.mem_singleton.mp hm)
  have none' : ∀ {x : Addr}, Bh.get? x = none → (hideAll Bh [B]).get? x = none := fun {x} hx => by
    cases q : (hideAll Bh [B]).get? x with
    | none => rfl
    | some o' => have := of_hideAll [B] q; rw [hx] at this; cases this
  have hb : h.get? B = some oB := f1 _ _ b1
  have hlB : ∀ b ∈ l.filterMap (·.frame), b ≠ B := fun b hm q => by
    obtain ⟨o, ho⟩ := hl b hm
    rw [q, b2] at ho; cases ho
  refine ⟨⟨hideAll Bh [B], a0, fun b o q => hideAll_get _ (hB b o q) (hn1 b fun z => by rw [z, b3] at q; cases q), fun b o q nm => hideAll_get _ (hBG b o q nm) (hn1 b fun z => by rw [z, b2] at q; cases q),
    fun q hq => ⟨hideAll_get _ (hln q (.tail _ hq)).1 (hn1 _ (off q hq)), (hln q (.tail _ hq)).2⟩, ⟨fun b o q => ?_, none' f2, funFrames_upd hs hlB f3, ?_⟩⟩, fun b o q hnf => ?_⟩
  · have hbB : b ≠ B := fun z => by
      subst z
      have := hideAll_none [b] (h := Bh) (List.mem_singleton.mpr rfl)
      rw [this] at q; cases q
    exact (hs.2 _ hbB).trans (f1 _ _ (of_hideAll [B] q))
  · obtain ⟨oe, vs, T, oT, ts, he, hc, hde, h1, hnT, hTe, hT, hdT, h3⟩ := f4
    have heB : e ≠ B := fun z => by rw [z, hb] at he; cases he; exact hd _ hde
    have hTB : T ≠ B := fun z => by rw [z, hb] at hT; cases hT; exact hd _ hdT
    exact ⟨oe, vs, T, oT, ts, (hs.2 _ heB).trans he, hc, hde, h1, none' hnT, hTe, (hs.2 _ hTB).trans hT, hdT, h3⟩
  · have hbB : b ≠ B := fun z => by rw [z, b2] at q; cases q
    obtain ⟨sl, hsl⟩ := hu b o q hnf
    exact ⟨sl, (hs.2 _ hbB).trans hsl⟩
def RaisedAt (base h₀ : Heap) (L : Addr) (m : Str → Option Value) (l : List Env) (e : Addr) (cls : Value) (news : List (Addr × Obj)) (h : Heap) : Prop :=
  ∃ G, Fr h₀ L G m ∧ RaisedSN base G l e cls news h ∧ G.UpToSlots h ∧ ∀ b ∈ l.filterMap (·.frame), ∃ o, G.get? b = some o
section
variable {prog : Program} {w : World} {A : Around} {E : Value → Shared → Prop} {s : Shared} {C L B flt : Addr} {base h₀ : Heap} {m : Str → Option Value} {news : List (Addr × Obj)} {vs : List Value} {n : Nat} {l : List Env} {cls x y : Value}
def LtRaises (prog : Program) (w : World) (A : Around) (base h₀ : Heap) (L : Addr) (m : Str → Option Value) (l : List Env) (cls : Value) (news : List (Addr × Obj)) (flt : Addr) (x y : Value) : Prop :=
  ∀ (s : Shared) (E : Value → Shared → Prop), Fr h₀ L s.heap m → News h₀ L s.heap news → (∀ e h' tk', RaisedAt base h₀ L m l e cls news h' → E (.ref e) { s with heap := h', toks := tk' }) → wpAny (model prog w) A (call (.ref flt) [x, y]) (fun _ _ => False) E s
set_option maxHeartbeats 4000000 in
theorem sort_raise {K : Frag} {a : Addr} {oa : Obj} {od : Option Obj} {Q : Value → Shared → Prop} (hu : A.in1.units < cLine) (F : Fr h₀ L s.heap m) (N : News h₀ L s.heap ((B, W.listOf (y :: .ref a :: vs).toArray n) :: news)) (off : ∀ p ∈ news, p.1 ≠ B) (hz : vs.length ≤ 1000)
    (X₀ : K.In h₀) (hc : ∀ v ∈ y :: .ref a :: vs, ∃ b o, v = .ref b ∧ (b, o) ∈ news ∧ o.cls = .ref C) (I : ∀ h, (∀ p ∈ news, h.get? p.1 = some p.2) → InstAt h a oa C od) (hs : findIn K (.ref C) "__lt__" = some (some (.ref flt))) (hf : isFn K (.ref flt) = true)
    (hlt : ∀ e1, LtRaises prog w A.in1 base h₀ L m l cls ((B, W.listOf #[] e1) :: news) flt (.ref a) y)
    (h : ∀ e h' tk', RaisedAt base h₀ L m l e cls news h' → E (.ref e) { s with heap := h', toks := tk' }) : wpAny (model prog w) A (call (.builtin "list.sort") [.ref B]) Q E s := by
  have z := N _ (.head _)
  refine wpAny_call_entry slot_list_sort ⟨_, z.1, rfl⟩ entry_list_sort ?_ (args_list_sort _)
  rw [list_sort_plain]
  refine wpAny_bind (listItems_at z.1 rfl (wpAny_bind (listUpdate_at z.1 rfl ?_ (by rw [List.size_toArray, sizeLine_eq]; simp only [List.length_cons]; omega))))
  obtain ⟨e1, h1, rfl, hu1, F1, N1⟩ := sort_world F N off
  refine wpAny_bind (seqEpoch_at hu1 rfl (wpAny_bind (wpAny_newTuple (wpAny_bind (wpAny_newList (wpAny_holding ?_))))))
  show wpAny (model prog w) A.in1 _ _ E { s with heap := ((s.heap.update B (Obj.mapSeq fun _ => #[])).push (seqObj "tuple" (y :: .ref a :: vs).toArray 0)).push (seqObj "list" #[] 0) }
  clear hu1
  generalize ((s.heap.update B (Obj.mapSeq fun _ => #[])).push (seqObj "tuple" (y :: .ref a :: vs).toArray 0)).push (seqObj "list" #[] 0) = h1 at F1 N1
  have z1 := N1 _ (.head _)
  dsimp only
  rw [if_neg (show ¬ (y :: Value.ref a :: vs).toArray.size < 2 by rw [List.size_toArray]; simp only [List.length_cons]; omega), if_neg (show ¬ (y :: Value.ref a :: vs).toArray.size < 2 by rw [List.size_toArray]; simp only [List.length_cons]; omega)]
  refine wpAny_bind (kind_refs (C := C) (s := { s with heap := h1 }) (fun v hv => ?_) ?_)
  · obtain ⟨b, o, e, hm, ho⟩ := hc v hv
    exact ⟨b, o, e, (N1 _ (.tail _ hm)).1, ho⟩
  have run := runs_raise (prog := prog) (w := w) (A := A.in1) (E := E) (s := { s with heap := h1 }) (st := SortSt.mk' oneType' ((y :: Value.ref a :: vs).toArray.zip (y :: Value.ref a :: vs).toArray) #[] 7 none) (x := .ref a) (y := y) (p := .ref a) (q := y)
    (Q := fun _ st s' => ∃ e h' tk', st = SortSt.mk' oneType' ((y :: Value.ref a :: vs).toArray.zip (y :: Value.ref a :: vs).toArray) #[] 7 (some (.ref e)) ∧ s' = { s with heap := h', toks := tk' } ∧ RaisedAt base h₀ L m l e cls ((B, W.listOf #[] e1) :: news) h') rfl (by show ((y :: Value.ref a :: vs).toArray.zip (y :: Value.ref a :: vs).toArray)[0]? = _; simp) (by show ((y :: Value.ref a :: vs).toArray.zip (y :: Value.ref a :: vs).toArray)[1]? = _; simp) ?_
  · refine wpAny_bind (wpAny_mono run ?_ fun _ _ e => e)
    rintro ⟨⟨⟩, st⟩ s' ⟨e, h', tk', rfl, rfl, G, FG, R, hsm, hl⟩
    dsimp only
    obtain ⟨Bh, _, _, _, hln, ⟨f1, _⟩⟩ := id R
    have hbB : h'.get? B = some (W.listOf #[] e1) := f1 _ _ (hln _ (.head _)).1
    refine wpAny_bind (seqEpoch_at (s := { s with heap := h', toks := tk' }) hbB rfl ?_)
    refine wpAny_bind (listUpdate_at (s := { s with heap := h', toks := tk' }) hbB rfl ?_ (by rw [sizeLine_eq]; simp) (by show (((y :: Value.ref a :: vs).toArray.zip (y :: Value.ref a :: vs).toArray).map (·.2)).size ≤ _; rw [sizeLine_eq]; simp only [Array.size_map, Array.size_zip, List.size_toArray, List.length_cons]; omega))
    refine wpAny_bind (wpAny_rule (wpAny_bind (wpAny_throw ?_)))
    obtain ⟨R2, U2⟩ := raised_upd R hl (Heap.SameBut.update h' B (Obj.mapSeq fun _ => _)) (fun _ q => by cases q) off hsm
    exact h e _ tk' ⟨G, FG, R2, U2, hl⟩
  · rw [oneLt'_eq]
    simp only [if_true]
    refine wpAny_bind (wpAny_cRoomFor hu (wpAny_bind (ifBound_K (X₀.keeps F1.keep) (I _ fun p hp => (N1 p (.tail _ hp)).1) hs hf ?_)))
    refine wpAny_mono (hlt e1 _ _ F1 N1 fun e h' tk' R => ?_) (fun _ _ h' => h'.elim) fun _ _ e => e
    exact ⟨e, h', tk', rfl, rfl, R⟩
end
end Mine
end
section
open PySem PySem.W PyProof.Rows PySem.Spec PySem.Calls
set_option maxRecDepth 100000
namespace Mine
def hp (a b : Int) : Int := reduceHash (Builtin.Tuple.tupleHashOf [hashInt a, hashInt b])
theorem kind_hash' : builtinKind "hash" = none := by decide +kernel
theorem plain_hash' : plainId "hash" = true := by decide +kernel
theorem entry_hash' : entryFor table "hash" = some Builtin.«hash» := entryFor_of_fast (by kernel_rfl)
theorem args_hash1' (a : Value) : argsOk "hash" ⟨[a], []⟩ := by unfold argsOk; kernel_rfl
section
variable {prog : Program} {w : World} {A : Around} {E : Value → Shared → Prop} {s : Shared} {D : Addr} {a b : Int} {t u : Tok}
theorem hash_pair {Q : Value → Shared → Prop} (hu : A.in1.units < cLine) (hD : s.heap.get? D = some { cls := .type "tuple", data := .seq #[.int a t, .int b u] }) (h : ∀ t' tk', Q (.int (hp a b) t') { s with toks := tk' }) :
    wpAny (model prog w) A (call (.builtin "hash") [.ref D]) Q E s := by
  refine call_function_entry kind_hash' plain_hash' entry_hash' (args_hash1' _) ?_
  show wpAny _ _ (pure (Value.ref D) >>= fun x => pyHash x >>= fun i => retInt i) _ _ s
  refine wpAny_bind (wpAny_pure ?_)
  have hi : ItemsAre (PySem.intKind prog w) [a, b] [Value.int a t, .int b u] := .cons (intKind_is _ _ _ _) (.cons (intKind_is _ _ _ _) .nil)
  refine wpAny_bind (wpAny_pyHash_tuple (knd := PySem.intKind prog w) (ks := [a, b]) hu ⟨_, _, _, hD, rfl, rfl, hi⟩ ?_)
  exact wpAny_ret_mkInt (h _ _)
end
end Mine
end
section
open PySem PySem.W PyProof.Rows
local macro_rules | `(tactic| k_all) => `(tactic| assumption)
local macro_rules | `(tactic| k_room) => `(tactic| ktr_room)
local macro_rules | `(tactic| ke_room) => `(tactic| ktr_units)
local macro_rules | `(tactic| k_units) => `(tactic| ktr_units)
local macro_rules | `(tactic| walk_at "call builtin:hash") => `(tactic| (k_here; k_dflt (refine' Mine.hash_pair ?u ?D ?_; (case u => ktr_units); (case D => exact (News.get (by k_asm) (by k_mem)))); intro t' tk'))
namespace Mine
abbrev P9 : Program := PySem.Challenge.rw_km0038_09.row.prog
abbrev atN (dp un : Nat) (gd : Option (List Code)) (env : Env) (outer : List Env) : Around := { handled := none, depth := dp, frames := some (env :: outer), guards := gd, units := un }
abbrev ent (P : Params) (k : String) (t : Tok) (v : Value) : DictEntry := { hash := PyData.keyHash P (Str.ofString k), key := Value.str (Str.ofString k) t, val := v }
abbrev netD (P : Params) (n : Int) (u1 u2 u3 u4 k1 k2 k3 k4 k5 : Tok) (f : Addr) : Obj :=
  dictOf [ent P "_version" k1 (.int n u1), ent P "network_address" k2 (.int n u2), ent P "netmask" k3 (.int 0 u3), ent P "_prefixlen" k4 (.int 0 u4), ent P "supernet" k5 (.ref f)] 5
set_option maxRecDepth 100000 in
set_option maxHeartbeats 8000000 in
theorem hash_spec (w : World) {mean : ExcName → Option Value} {mg mb : Str → Option Value} {n : Int} {x d f : Addr} {u1 u2 u3 u4 k1 k2 k3 k4 k5 : Tok} {dp un : Nat} {gd : Option (List Code)} {env : Env} {outer : List Env} {A₀ : Around} {base h₀ : Heap} {L : Addr} {m : Str → Option Value}
    {rest : List (Addr × Obj)} {s : Shared} {Q E : Value → Shared → Prop} {loose : List Str} {pgm : Program}
    (B : Below A₀ base outer h₀) (F : Fr h₀ L s.heap m) (X : (hd.heap_39 w.params).In h₀) (N : News h₀ L s.heap ((x, instObj 556 d) :: (d, netD w.params n u1 u2 u3 u4 k1 k2 k3 k4 k5 f) :: rest))
    (T : Top pgm loose mean mg mb h₀) (hfX : env.frame = some L) (hk : env.scope.kind = .function) (h0 : 0 ≤ n) (h1 : n < 12)
    (hdp : dp + 10 < recursionLimit) (hu : un + 400 < cLine)
    (rS : ∀ h' tk' t', Fr h₀ L h' m → News h₀ L h' ((x, instObj 556 d) :: (d, netD w.params n u1 u2 u3 u4 k1 k2 k3 k4 k5 f) :: rest) → Q (.int (hp n 0) t') { s with heap := h', toks := tk' }) :
    wpAny (model P9 w) (atN dp un gd env outer) (call (.ref 354) [.ref x]) Q E s := by
  have hq : PySem.Challenge.rw_km0038_09 = PySem.Challenge.rw_km0038_09 ∧ hd.heap_39 = hd.heap_39 := ⟨rfl, rfl⟩
  revert hq
  k_fill
  intro hq
  w_on
  refine wpAny_call ?_
  k_dflt (refine' PySem.W.code_def ?k1 ?k2 ?k3 ?k4 ?k5 ?kA ?kF ?kK ?k6 ?k7 ?k8 ?k9 ?kB ?_ ?c2 ?c3 ?c4 ?c5; (case kA => exact rfl); (case kF => exact hfX); (case kK => exact hk); (case k1 => k_asm); (case k2 => k_asm); (case k3 => k_asm); (case k4 => k_asm); (case k5 => k_asm); (case k6 => k_is); (case k7 => k_is); (case k8 => k_room); (case k9 => first | exact BindsTo.of_eq rfl | exact binds_K (by k_in) rfl (by k_is) rfl rfl rfl); (case c5 => decide); (case kB => exact locs rfl); (case c2 => exact rfl); (case c3 => exact rfl); (case c4 => exact rfl); k_whole; intro g' L' h' FG' F' N' B' X' T'; (try dsimp only); (try k_lift B'); (try k_fold))
  w_strict k_steps
  rename Fr h₀ L _ _ => F9
  rename News h₀ L _ _ => N9
  exact rS _ _ _ F9 (News.tail' N9)
end Mine
namespace Mine
set_option maxRecDepth 100000 in
set_option maxHeartbeats 8000000 in
theorem eq_spec (w : World) {mean : ExcName → Option Value} {mg mb : Str → Option Value} {n n' : Int} {x d f y e g : Addr} {u1 u2 u3 u4 k1 k2 k3 k4 k5 v1 v2 v3 v4 l1 l2 l3 l4 l5 : Tok} {dp un : Nat} {gd : Option (List Code)} {env : Env} {outer : List Env} {A₀ : Around} {base h₀ : Heap} {L : Addr} {m : Str → Option Value}
    {rest : List (Addr × Obj)} {s : Shared} {Q E : Value → Shared → Prop} {loose : List Str} {pgm : Program}
    (B : Below A₀ base outer h₀) (F : Fr h₀ L s.heap m) (X : (hd.heap_39 w.params).In h₀) (N : News h₀ L s.heap ((x, instObj 556 d) :: (d, netD w.params n u1 u2 u3 u4 k1 k2 k3 k4 k5 f) :: (y, instObj 556 e) :: (e, netD w.params n' v1 v2 v3 v4 l1 l2 l3 l4 l5 g) :: rest))
    (T : Top pgm loose mean mg mb h₀) (hfX : env.frame = some L) (hk : env.scope.kind = .function) 
    (hdp : dp + 10 < recursionLimit) (hu : un + 400 < cLine)
    (rS : ∀ h' tk', Fr h₀ L h' m → News h₀ L h' ((x, instObj 556 d) :: (d, netD w.params n u1 u2 u3 u4 k1 k2 k3 k4 k5 f) :: (y, instObj 556 e) :: (e, netD w.params n' v1 v2 v3 v4 l1 l2 l3 l4 l5 g) :: rest) → Q (.bool (decide (n = n'))) { s with heap := h', toks := tk' }) :
    wpAny (model P9 w) (atN dp un gd env outer) (call (.ref 347) [.ref x, .ref y]) Q E s := by
  have hq : PySem.Challenge.rw_km0038_09 = PySem.Challenge.rw_km0038_09 ∧ hd.heap_39 = hd.heap_39 := ⟨rfl, rfl⟩
  revert hq
  k_fill
  intro hq
  w_on
  refine wpAny_call ?_
  k_dflt (refine' PySem.W.code_def ?k1 ?k2 ?k3 ?k4 ?k5 ?kA ?kF ?kK ?k6 ?k7 ?k8 ?k9 ?kB ?_ ?c2 ?c3 ?c4 ?c5; (case kA => exact rfl); (case kF => exact hfX); (case kK => exact hk); (case k1 => k_asm); (case k2 => k_asm); (case k3 => k_asm); (case k4 => k_asm); (case k5 => k_asm); (case k6 => k_is); (case k7 => k_is); (case k8 => k_room); (case k9 => first | exact BindsTo.of_eq rfl | exact binds_K (by k_in) rfl (by k_is) rfl rfl rfl); (case c5 => decide); (case kB => exact locs rfl); (case c2 => exact rfl); (case c3 => exact rfl); (case c4 => exact rfl); k_whole; intro g' L' h' FG' F' N' B' X' T'; (try dsimp only); (try k_lift B'); (try k_fold))
  w_strict k_steps
  all_goals (
    rename Fr h₀ L _ _ => F9
    rename News h₀ L _ _ => N9
    have r := fun tk' => rS _ tk' F9 N9)
  · rw [decide_eq_true (by assumption)] at r
    exact r _
  · exact r _
  · exact r _
theorem dec_len {f : Int} (h0 : 0 ≤ f) (h1 : f < 256) : (Str.ofString (toString f)).length ≤ 3 := by
  obtain ⟨m, rfl⟩ := Int.eq_ofNat_of_zero_le h0
  have k : ∀ m : Fin 256, (Str.ofString (toString ((m.val : Nat) : Int))).length ≤ 3 := by decide +kernel
  exact k ⟨m, by omega⟩
set_option maxRecDepth 100000 in
set_option maxHeartbeats 8000000 in
theorem str_spec (w : World) {mean : ExcName → Option Value} {mg mb : Str → Option Value} {n : Int} {x d f : Addr} {u1 u2 u3 u4 k1 k2 k3 k4 k5 : Tok} {dp un : Nat} {gd : Option (List Code)} {env : Env} {outer : List Env} {A₀ : Around} {base h₀ : Heap} {L : Addr} {m : Str → Option Value}
    {rest : List (Addr × Obj)} {s : Shared} {Q E : Value → Shared → Prop} {loose : List Str} {pgm : Program}
    (B : Below A₀ base outer h₀) (F : Fr h₀ L s.heap m) (X : (hd.heap_39 w.params).In h₀) (N : News h₀ L s.heap ((x, instObj 556 d) :: (d, netD w.params n u1 u2 u3 u4 k1 k2 k3 k4 k5 f) :: rest))
    (T : Top pgm loose mean mg mb h₀) (hfX : env.frame = some L) (hk : env.scope.kind = .function) (h0 : 0 ≤ n) (h1 : n < 12)
    (hdp : dp + 20 < recursionLimit) (hu : un + 800 < cLine)
    (rS : ∀ h' tk' y t', Fr h₀ L h' m → News h₀ L h' ((x, instObj 556 d) :: (d, netD w.params n u1 u2 u3 u4 k1 k2 k3 k4 k5 f) :: rest) → y.length ≤ 100 → Q (.str y t') { s with heap := h', toks := tk' }) :
    wpAny (model P9 w) (atN dp un gd env outer) (call (.ref 312) [.ref x]) Q E s := by
  have hq : PySem.Challenge.rw_km0038_09 = PySem.Challenge.rw_km0038_09 ∧ hd.heap_39 = hd.heap_39 := ⟨rfl, rfl⟩
  revert hq
  k_fill
  intro hq
  w_on
  refine wpAny_call ?_
  k_dflt (refine' PySem.W.code_def ?k1 ?k2 ?k3 ?k4 ?k5 ?kA ?kF ?kK ?k6 ?k7 ?k8 ?k9 ?kB ?_ ?c2 ?c3 ?c4 ?c5; (case kA => exact rfl); (case kF => exact hfX); (case kK => exact hk); (case k1 => k_asm); (case k2 => k_asm); (case k3 => k_asm); (case k4 => k_asm); (case k5 => k_asm); (case k6 => k_is); (case k7 => k_is); (case k8 => k_room); (case k9 => first | exact BindsTo.of_eq rfl | exact binds_K (by k_in) rfl (by k_is) rfl rfl rfl); (case c5 => decide); (case kB => exact locs rfl); (case c2 => exact rfl); (case c3 => exact rfl); (case c4 => exact rfl); k_whole; intro g' L' h' FG' F' N' B' X' T'; (try dsimp only); (try k_lift B'); (try k_fold))
  w_strict k_steps
  rename Fr h₀ L _ _ => F9
  rename News h₀ L _ _ => N9
  refine rS _ _ _ _ F9 (by first | exact N9 | exact News.tail' N9) ?_
  have := dec_len h0 (by omega)
  rw [Str.length_append, Str.length_append, show (Str.ofString "/").length = 1 by decide +kernel, show (Str.ofString "0").length = 1 by decide +kernel]
  omega
end Mine
end
section
open PySem PySem.W PyProof.Rows
local macro_rules | `(tactic| walk_at "mine pad") => `(tactic| skip)
local macro_rules | `(tactic| k_all) => `(tactic| assumption)
local macro_rules | `(tactic| k_room) => `(tactic| ktr_room)
local macro_rules | `(tactic| ke_room) => `(tactic| ktr_units)
local macro_rules | `(tactic| k_units) => `(tactic| ktr_units)
local macro_rules | `(tactic| walk_at "eval Lambda") => `(tactic| refine Mine.stop_here ?_)
namespace Mine
abbrev lamParams : Arguments := { posonlyargs := [], args := [], vararg := none, kwonlyargs := [], kw_defaults := [], kwarg := none, defaults := [] }
abbrev lamPos (c e : Nat) : Pos := { line := 395, col := c, endLine := 395, endCol := e }
abbrev lamBody : Expr := (Expr.Name (Str.ofString "_law_asked") (lamPos 27 37)).Call
  [Expr.Name (Str.ofString "nets") (lamPos 38 42), Expr.Name (Str.ofString "heads") (lamPos 44 49), Expr.Name (Str.ofString "v") (lamPos 51 52), Expr.Name (Str.ofString "asked") (lamPos 54 59)] [] (lamPos 27 60)
abbrev lamScope : Scope := { kind := ScopeKind.function, names := [(Str.ofString "asked", NameKind.free), (Str.ofString "heads", NameKind.free), (Str.ofString "nets", NameKind.free), (Str.ofString "v", NameKind.free), (Str.ofString "_law_asked", NameKind.globalImplicit)], isGenerator := false, isCoroutine := false }
abbrev lawNetScope : Scope := { kind := ScopeKind.function, names := [(Str.ofString "nets", NameKind.cell), (Str.ofString "heads", NameKind.cell), (Str.ofString "v", NameKind.cell), (Str.ofString "asked", NameKind.cell), (Str.ofString "net", NameKind.local), (Str.ofString "_BaseNetwork", NameKind.globalImplicit)], isGenerator := false, isCoroutine := false }
abbrev lamQual : Str := (envOfC (Str.ofString "_law_net") lawNetScope 0 592 (Value.ref 591)).qual ++ Str.ofString "<lambda>"
abbrev lamO (pm : Value) (c' : Addr) (ctv : Value) (a1 a2 a3 a4 : Addr) : Obj :=
  kla_obj (Str.ofString "<lambda>") lamQual lamParams lamBody lamScope [(Str.ofString "v", a3), (Str.ofString "nets", a1), (Str.ofString "heads", a2), (Str.ofString "asked", a4)] pm c' ctv
def LamCode (c' : Addr) (news : List (Addr × Obj)) : Prop := ∃ oc vs t, (c', oc) ∈ news ∧ oc.data = .fields vs ∧ vs[1]? = some (.str lamQual t)
def NetAt (P : Params) (LN LH LA c' : Addr) (n : Int) (x : Addr) (news : List (Addr × Obj)) : Prop :=
  ∃ d f u1 u2 u3 u4 k1 k2 k3 k4 k5 pm ctv a1 a2 a3 a4 o1 o2 o3 o4 t,
    (x, instObj 556 d) ∈ news ∧ (d, netD P n u1 u2 u3 u4 k1 k2 k3 k4 k5 f) ∈ news ∧ (f, lamO pm c' ctv a1 a2 a3 a4) ∈ news ∧
    ((a1, o1) ∈ news ∧ o1.data = .cell (some (.ref LN))) ∧ ((a2, o2) ∈ news ∧ o2.data = .cell (some (.ref LH))) ∧ ((a3, o3) ∈ news ∧ o3.data = .cell (some (.int n t))) ∧ ((a4, o4) ∈ news ∧ o4.data = .cell (some (.ref LA)))
theorem NetAt.of {P : Params} {LN LH LA c' x : Addr} {n : Int} {news : List (Addr × Obj)} {d f : Addr} {u1 u2 u3 u4 k1 k2 k3 k4 k5 : Tok} {pm ctv : Value} {a1 a2 a3 a4 : Addr} {o1 o2 o3 o4 : Obj} {t : Tok}
    (h1 : (x, instObj 556 d) ∈ news) (h2 : (d, netD P n u1 u2 u3 u4 k1 k2 k3 k4 k5 f) ∈ news) (h3 : (f, lamO pm c' ctv a1 a2 a3 a4) ∈ news) (h4 : (a1, o1) ∈ news) (h5 : (a2, o2) ∈ news) (h6 : (a3, o3) ∈ news) (h7 : (a4, o4) ∈ news)
    (g4 : o1.data = .cell (some (.ref LN))) (g5 : o2.data = .cell (some (.ref LH))) (g6 : o3.data = .cell (some (.int n t))) (g7 : o4.data = .cell (some (.ref LA))) : NetAt P LN LH LA c' n x news :=
  ⟨d, f, u1, u2, u3, u4, k1, k2, k3, k4, k5, pm, ctv, a1, a2, a3, a4, o1, o2, o3, o4, t, h1, h2, h3, ⟨h4, g4⟩, ⟨h5, g5⟩, ⟨h6, g6⟩, h7, g7⟩
theorem LamCode.of {c' : Addr} {news : List (Addr × Obj)} {oc : Obj} {vs : Array Value} {t : Tok} (h1 : (c', oc) ∈ news) (h2 : oc.data = .fields vs) (h3 : vs[1]? = some (.str lamQual t)) : LamCode c' news := ⟨oc, vs, t, h1, h2, h3⟩
theorem allLt_get {d : Nat} {l : List (Addr × Obj)} (h : AllLt d l) (p : Addr × Obj) (hp : p ∈ l) : @LT.lt Nat _ p.1 d := by
  induction l with
  | nil => nomatch hp
  | cons a r ih =>
    have h1 : @LT.lt Nat _ a.1 d := h.1
    have h2 : AllLt d r := h.2
    cases hp with
    | head => exact h1
    | tail _ hp => exact ih h2 hp
abbrev tab1 (c' : Addr) : Obj := tabObj (#[] ++ #[rawInt ((395 : Nat) : Int), rawInt ((19 : Nat) : Int), .ref c'])
theorem NetAt.mono {P : Params} {LN LH LA c' x : Addr} {n : Int} {a b : List (Addr × Obj)} (h : NetAt P LN LH LA c' n x a) (i : ∀ p ∈ a, p ∈ b) : NetAt P LN LH LA c' n x b := by
  obtain ⟨d, f, u1, u2, u3, u4, k1, k2, k3, k4, k5, pm, ctv, a1, a2, a3, a4, o1, o2, o3, o4, t, h1, h2, h3, ⟨h4, g4⟩, ⟨h5, g5⟩, ⟨h6, g6⟩, h7, g7⟩ := h
  exact ⟨d, f, u1, u2, u3, u4, k1, k2, k3, k4, k5, pm, ctv, a1, a2, a3, a4, o1, o2, o3, o4, t, i _ h1, i _ h2, i _ h3, ⟨i _ h4, g4⟩, ⟨i _ h5, g5⟩, ⟨i _ h6, g6⟩, i _ h7, g7⟩
theorem LamCode.mono {c' : Addr} {a b : List (Addr × Obj)} (h : LamCode c' a) (i : ∀ p ∈ a, p ∈ b) : LamCode c' b := by
  obtain ⟨oc, vs, t, h1, h2⟩ := h
  exact ⟨oc, vs, t, i _ h1, h2⟩
set_option maxRecDepth 100000 in
set_option maxHeartbeats 8000000 in
theorem net_spec (w : World) {mean : ExcName → Option Value} {mg mb : Str → Option Value} {n : Int} {LN LH LA : Addr} {t : Tok} {dp un : Nat} {gd : Option (List Code)} {env : Env} {outer : List Env} {A₀ : Around} {base h₀ : Heap} {L : Addr} {m : Str → Option Value}
    {oN oH oA : Obj} {rest : List (Addr × Obj)} {s : Shared} {Q E : Value → Shared → Prop} {loose : List Str} {pgm : Program}
    (B : Below A₀ base outer h₀) (F : Fr h₀ L s.heap m) (X : (hd.heap_39 w.params).In h₀) (N : News h₀ L s.heap ((LN, oN) :: (LH, oH) :: (LA, oA) :: (587, tabObj #[]) :: rest))
    (T : Top pgm loose mean mg mb h₀) (hfX : env.frame = some L) (hk : env.scope.kind = .function) (C : CodeHd h₀ 591 587) (hoff : ∀ p ∈ rest, p.1 ≠ 587) (hlt : @Ne Nat 587 LH ∧ @LT.lt Nat _ 587 LN ∧ @LT.lt Nat _ LH LN ∧ @LT.lt Nat _ LN LA)
    (hdp : dp + 10 < recursionLimit) (hu : un + 400 < cLine)
    (rS : ∀ h' tk' x c' G, Fr h₀ L h' m → News h₀ L h' (G ++ (LN, oN) :: (LH, oH) :: (LA, oA) :: (587, tab1 c') :: rest) → NetAt w.params LN LH LA c' n x G → LamCode c' G → (∀ p ∈ G, @LT.lt Nat _ LA p.1 ∧ ∀ q ∈ rest, @LT.lt Nat _ q.1 p.1) → Q (.ref x) { s with heap := h', toks := tk' }) :
    wpAny (model P9 w) (atN dp un gd env outer) (call (.ref 592) [.ref LN, .ref LH, .int n t, .ref LA]) Q E s := by
  have hq : PySem.Challenge.rw_km0038_09 = PySem.Challenge.rw_km0038_09 ∧ hd.heap_39 = hd.heap_39 := ⟨rfl, rfl⟩
  revert hq
  k_fill
  intro hq
  w_on
  refine wpAny_call ?_
  k_dflt (refine' code_defC ?k1 ?k2 ?k3 ?k4 ?k5 ?kA ?kF ?kK ?k6 ?k7 ?k8 ?k9 ?kB ?kD ?_ ?c2 ?c3 ?c4; (case kA => exact rfl); (case kF => exact hfX); (case kK => exact hk); (case k1 => k_asm); (case k2 => k_asm); (case k3 => k_asm); (case k4 => k_asm); (case k5 => k_asm); (case k6 => k_is); (case k7 => k_is); (case k8 => k_room); (case k9 => first | exact BindsTo.of_eq rfl | exact binds_K (by k_in) rfl (by k_is) rfl rfl rfl); (case kB => exact rfl); (case kD => decide +kernel); (case c2 => exact rfl); (case c3 => exact rfl); (case c4 => exact rfl); k_whole; intro g' L' h' tk' cells' FG' F' N' Y' B' X' T' l1; (try k_lt l1); k_cells Y'; (try simp only [List.cons_append, List.nil_append] at N'); (try dsimp only); (try k_lift B'); (try k_fold))
  have lz := l1
  w_strict k_steps
  refine kla_eval rfl ?_
  k_dflt (refine' kla_nest (ps := #[]) ?F ?N ?T ?C ?cd ?U ?t ?n ?cl ?_; (case F => k_asm); (case N => k_asm); (case T => k_asm); (case cd => exact rfl); (case C => exact CodeHd.keeps C (Fr.keep FG')); k_whole)
  case t => kn_triples
  case n => kn_among
  case cl => exact rfl
  case U =>
    refine UpdF.tail (by k_ne) (UpdF.tail (by k_ne) (UpdF.tail (by k_ne) (UpdF.tail (by k_ne) (UpdF.tail (by k_ne) (UpdF.tail (by k_ne) (UpdF.tail (by k_ne) (UpdF.tail (by k_ne) (UpdF.tail (by k_ne) (UpdF.head hoff)))))))))
  intro f' c' oc' vs' t' ct' h' tk' F' N' d1' d2' l1 l2; (try dsimp only at N'); (try k_lt l1); (try k_lt2 l2)
  w_strict k_steps
  rename News h₀ L _ _ => N9
  rename Fr h₀ L _ _ => F9
  refine rS _ _ _ _ [_, _, _, _, _, _, _, _] F9 N9 ?_ ?_ ?_
  · refine' NetAt.of ?h1 ?h2 ?h3 ?h4 ?h5 ?h6 ?h7 ?g4 ?g5 ?g6 ?g7
    case h1 => k_mem
    case h2 => k_mem
    case h3 => k_mem
    case h4 => k_mem
    case h5 => k_mem
    case h6 => k_mem
    case h7 => k_mem
    case g4 => assumption
    case g5 => assumption
    case g6 => assumption
    case g7 => assumption
  · refine' LamCode.of ?h1 ?h2 ?h3
    case h1 => k_mem
    case h2 => assumption
    case h3 => assumption
  · have kq := allLt_get lz.2.2.2.2
    simp only [List.forall_mem_cons]
    refine ⟨⟨by omega, fun q hq => ?_⟩, ⟨by omega, fun q hq => ?_⟩, ⟨by omega, fun q hq => ?_⟩, ⟨by omega, fun q hq => ?_⟩, ⟨by omega, fun q hq => ?_⟩, ⟨by omega, fun q hq => ?_⟩, ⟨by omega, fun q hq => ?_⟩, ⟨by omega, fun q hq => ?_⟩, fun _ h => (nomatch h)⟩
    all_goals (have := kq q hq; omega)
set_option maxRecDepth 100000 in
set_option maxHeartbeats 8000000 in
theorem net_hit (w : World) {mean : ExcName → Option Value} {mg mb : Str → Option Value} {n : Int} {LN LH LA c' : Addr} {t : Tok} {dp un : Nat} {gd : Option (List Code)} {env : Env} {outer : List Env} {A₀ : Around} {base h₀ : Heap} {L : Addr} {m : Str → Option Value}
    {oN oH oA : Obj} {rest : List (Addr × Obj)} {s : Shared} {Q E : Value → Shared → Prop} {loose : List Str} {pgm : Program}
    (B : Below A₀ base outer h₀) (F : Fr h₀ L s.heap m) (X : (hd.heap_39 w.params).In h₀) (N : News h₀ L s.heap ((LN, oN) :: (LH, oH) :: (LA, oA) :: (587, tab1 c') :: rest))
    (T : Top pgm loose mean mg mb h₀) (hfX : env.frame = some L) (hk : env.scope.kind = .function) (C : CodeHd h₀ 591 587) (hoff : ∀ p ∈ rest, p.1 ≠ 587) (hlt : @Ne Nat 587 LH ∧ @LT.lt Nat _ 587 LN ∧ @LT.lt Nat _ LH LN ∧ @LT.lt Nat _ LN LA)
    (hdp : dp + 10 < recursionLimit) (hu : un + 400 < cLine)
    (rS : ∀ h' tk' x G, Fr h₀ L h' m → News h₀ L h' (G ++ (LN, oN) :: (LH, oH) :: (LA, oA) :: (587, tab1 c') :: rest) → NetAt w.params LN LH LA c' n x G → (∀ p ∈ G, @LT.lt Nat _ LA p.1 ∧ ∀ q ∈ rest, @LT.lt Nat _ q.1 p.1) → Q (.ref x) { s with heap := h', toks := tk' }) :
    wpAny (model P9 w) (atN dp un gd env outer) (call (.ref 592) [.ref LN, .ref LH, .int n t, .ref LA]) Q E s := by
  have hq : PySem.Challenge.rw_km0038_09 = PySem.Challenge.rw_km0038_09 ∧ hd.heap_39 = hd.heap_39 := ⟨rfl, rfl⟩
  revert hq
  k_fill
  intro hq
  w_on
  refine wpAny_call ?_
  k_dflt (refine' code_defC ?k1 ?k2 ?k3 ?k4 ?k5 ?kA ?kF ?kK ?k6 ?k7 ?k8 ?k9 ?kB ?kD ?_ ?c2 ?c3 ?c4; (case kA => exact rfl); (case kF => exact hfX); (case kK => exact hk); (case k1 => k_asm); (case k2 => k_asm); (case k3 => k_asm); (case k4 => k_asm); (case k5 => k_asm); (case k6 => k_is); (case k7 => k_is); (case k8 => k_room); (case k9 => first | exact BindsTo.of_eq rfl | exact binds_K (by k_in) rfl (by k_is) rfl rfl rfl); (case kB => exact rfl); (case kD => decide +kernel); (case c2 => exact rfl); (case c3 => exact rfl); (case c4 => exact rfl); k_whole; intro g' L' h' tk' cells' FG' F' N' Y' B' X' T' l1; (try k_lt l1); k_cells Y'; (try simp only [List.cons_append, List.nil_append] at N'); (try dsimp only); (try k_lift B'); (try k_fold))
  have lz := l1
  w_strict k_steps
  refine kla_eval rfl ?_
  k_dflt (refine' kla_hit ?F ?N ?T ?C ?cd ?mem ?t ?n ?cl ?_; (case F => k_asm); (case N => k_asm); (case T => k_asm); (case cd => exact rfl); (case C => exact CodeHd.keeps C (Fr.keep FG')); (case mem => k_mem); k_whole)
  case t => kn_triples
  case n => kn_hit
  case cl => exact rfl
  intro f' ct' h' tk' F' N' l1; (try dsimp only at N'); (try k_lt l1)
  w_strict k_steps
  rename News h₀ L _ _ => N9
  rename Fr h₀ L _ _ => F9
  refine rS _ _ _ [_, _, _, _, _, _, _] F9 N9 ?_ ?_
  · refine' NetAt.of ?h1 ?h2 ?h3 ?h4 ?h5 ?h6 ?h7 ?g4 ?g5 ?g6 ?g7
    case h1 => k_mem
    case h2 => k_mem
    case h3 => k_mem
    case h4 => k_mem
    case h5 => k_mem
    case h6 => k_mem
    case h7 => k_mem
    case g4 => assumption
    case g5 => assumption
    case g6 => assumption
    case g7 => assumption
  · have kq := allLt_get lz.2.2.2.2
    simp only [List.forall_mem_cons]
    refine ⟨⟨by omega, fun q hq => ?_⟩, ⟨by omega, fun q hq => ?_⟩, ⟨by omega, fun q hq => ?_⟩, ⟨by omega, fun q hq => ?_⟩, ⟨by omega, fun q hq => ?_⟩, ⟨by omega, fun q hq => ?_⟩, ⟨by omega, fun q hq => ?_⟩, fun _ h => (nomatch h)⟩
    all_goals (have := kq q hq; omega)
end Mine
end
section
open PySem PySem.W PyProof.Rows
local macro_rules | `(tactic| walk_at "mine pad") => `(tactic| skip)
local macro_rules | `(tactic| k_all) => `(tactic| assumption)
local macro_rules | `(tactic| k_room) => `(tactic| ktr_room)
local macro_rules | `(tactic| ke_room) => `(tactic| ktr_units)
local macro_rules | `(tactic| k_units) => `(tactic| ktr_units)
local macro_rules | `(tactic| walk_at "eval Name") => `(tactic| (k_here; k_dflt (refine' nameX_F ?N ?c ?m ?d ?_ ?a ?b; (case a => rfl); (case b => rfl); (case N => k_asm); (case c => rfl); (case m => k_mem); (case d => k_asm); k_whole)))
local macro_rules | `(tactic| walk_at "call builtin:list.append") => `(tactic| (k_here; (try dsimp only [List.cons_append, List.nil_append]); k_dflt (refine' append_K ?k1 ?k2 ?k3 ?_ ?z; (case k1 => k_asm); (case k2 => k_asm); (case k3 => k_upd); (case z => assumption); k_whole); intro h' F' N'; (try k_sweep)))
namespace Mine
theorem sub_at {prog : Program} {w : World} {A : Around} {E : Value → Shared → Prop} {s : Shared} {k : Int} {t : Tok} {v : Value} {D : Addr} {its : Array Value} {n : Nat} {Q : Value → Shared → Prop} {h₀ : Heap} {L : Addr} {news : List (Addr × Obj)} {value slice : PySem.Expr}
    (N : News h₀ L s.heap news) (hm : (D, W.listOf its n) ∈ news) (h0 : 0 ≤ k) (hhi : k < 2 ^ 63) (hx : its[k.toNat]? = some v) (h : Q v s)
    (hs : subscripted slice false (.ref D) (.int k t) = operate [.ref D, .int k t] (getItem (.ref D) (.int k t))) :
    wpAny (model prog w) A (subscriptTail value slice (.ref D) (.int k t)) Q E s :=
  tail_any (News.isList N hm).typeIs PySem.F.slot_list_getitem.lookup (wpAny_getItem_list (News.isList N hm) h0 hhi hx h) hs
set_option maxRecDepth 100000 in
set_option maxHeartbeats 400000 in
theorem sup_spec (w : World) {mean : ExcName → Option Value} {mg mb : Str → Option Value} {n : Int} {hv : Nat} {y c' f LN LH LA a1 a2 a3 a4 : Addr} {o1 o2 o3 o4 : Obj} {t th : Tok} {pm ctv : Value} {dp un : Nat} {gd : Option (List Code)} {env : Env} {outer : List Env} {A₀ : Around} {base h₀ : Heap} {L : Addr} {m : Str → Option Value}
    {xs hs as : Array Value} {zn zh za : Nat} {rest : List (Addr × Obj)} {s : Shared} {Q E : Value → Shared → Prop} {loose : List Str} {pgm : Program}
    (B : Below A₀ base outer h₀) (F : Fr h₀ L s.heap m) (X : (hd.heap_39 w.params).In h₀) (N : News h₀ L s.heap ((LN, W.listOf xs zn) :: (LH, W.listOf hs zh) :: (LA, W.listOf as za) :: rest))
    (T : Top pgm loose mean mg mb h₀) (hfX : env.frame = some L) (hk : env.scope.kind = .function) (h0 : 0 ≤ n) (h1 : n < 12)
    (CK : LamCode c' rest) (m3 : (f, lamO pm c' ctv a1 a2 a3 a4) ∈ rest) (m4 : (a1, o1) ∈ rest) (m5 : (a2, o2) ∈ rest) (m6 : (a3, o3) ∈ rest) (m7 : (a4, o4) ∈ rest)
    (g4 : o1.data = .cell (some (.ref LN))) (g5 : o2.data = .cell (some (.ref LH))) (g6 : o3.data = .cell (some (.int n t))) (g7 : o4.data = .cell (some (.ref LA)))
    (hh : hs[n.toNat]? = some (.int (hv : Int) th)) (hv12 : hv < 12) (hy : xs[hv]? = some (.ref y)) (hsz : as.size ≤ sizeLine)
    (hoff : ∀ p ∈ rest, p.1 ≠ LA) (hNA : @Ne Nat LN LA) (hHA : @Ne Nat LH LA)
    (hdp : dp + 10 < recursionLimit) (hu : un + 400 < cLine)
    (rS : ∀ h' tk' za', Fr h₀ L h' m → News h₀ L h' ((LN, W.listOf xs zn) :: (LH, W.listOf hs zh) :: (LA, W.listOf (as.push (.int n t)) za') :: rest) → Q (.ref y) { s with heap := h', toks := tk' }) :
    wpAny (model P9 w) (atN dp un gd env outer) (call (.ref f) []) Q E s := by
  obtain ⟨oc', vs', t', cK, cD, cV⟩ := CK
  have nf : @Ne Nat f LA := hoff _ m3
  have n1 : @Ne Nat a1 LA := hoff _ m4
  have n2 : @Ne Nat a2 LA := hoff _ m5
  have n3 : @Ne Nat a3 LA := hoff _ m6
  have n4 : @Ne Nat a4 LA := hoff _ m7
  have nc : @Ne Nat c' LA := hoff _ cK
  have N2 : News h₀ L s.heap ((f, lamO pm c' ctv a1 a2 a3 a4) :: (c', oc') :: (a1, o1) :: (a2, o2) :: (a3, o3) :: (a4, o4) :: (LN, W.listOf xs zn) :: (LH, W.listOf hs zh) :: (LA, W.listOf as za) :: rest) := by
    have k : ∀ p ∈ rest, p ∈ (LN, W.listOf xs zn) :: (LH, W.listOf hs zh) :: (LA, W.listOf as za) :: rest := fun p hp => .tail _ (.tail _ (.tail _ hp))
    refine N.perm fun p hp => ?_
    rcases List.mem_cons.mp hp with rfl | hp
    · exact k _ m3
    rcases List.mem_cons.mp hp with rfl | hp
    · exact k _ cK
    rcases List.mem_cons.mp hp with rfl | hp
    · exact k _ m4
    rcases List.mem_cons.mp hp with rfl | hp
    · exact k _ m5
    rcases List.mem_cons.mp hp with rfl | hp
    · exact k _ m6
    rcases List.mem_cons.mp hp with rfl | hp
    · exact k _ m7
    exact hp
  clear N
  have hq : PySem.Challenge.rw_km0038_09 = PySem.Challenge.rw_km0038_09 ∧ hd.heap_39 = hd.heap_39 := ⟨rfl, rfl⟩
  revert hq
  k_fill
  intro hq
  w_on
  refine wpAny_call ?_
  k_dflt (refine' kla_code ?k1 ?k2 ?k3 ?k4 ?k5 ?kA ?kF ?kK ?k6 ?k7 ?k8 ?k9 ?kB ?_ ?c2 ?c3 ?c4 ?c5; (case kA => exact rfl); (case kF => exact hfX); (case kK => exact hk); (case k1 => k_asm); (case k2 => k_asm); (case k3 => k_asm); (case k4 => k_asm); (case k5 => k_asm); (case k6 => k_mem); (case k7 => exact codeRec_news (by k_asm) (by k_mem) (by assumption) (by assumption)); (case k8 => k_room); (case k9 => exact rfl); (case c5 => decide); (case kB => exact locs rfl); (case c2 => exact rfl); (case c3 => exact rfl); (case c4 => exact rfl); k_whole; intro g' L' h' FG' F' N' B' X' T'; (try dsimp only); (try k_lift B'); (try k_fold))

  w_strict k_steps
  k_dflt (refine' Mine.sub_at ?N ?m ?a ?b ?x ?_ ?hs; (case N => k_asm); (case m => k_mem); (case a => omega); (case b => omega); (case x => assumption); (case hs => with_unfolding_all rfl); k_whole)
  w_strict k_steps
  k_dflt (refine' Mine.sub_at ?N ?m ?a ?b ?x ?_ ?hs; (case N => k_asm); (case m => k_mem); (case a => omega); (case b => omega); (case x => (rw [Int.toNat_natCast]; assumption)); (case hs => with_unfolding_all rfl); k_whole)
  w_strict k_steps
  rename News h₀ L _ _ => N9
  rename Fr h₀ L _ _ => F9
  exact rS _ _ _ F9 (N9.perm fun p hp => .tail _ (.tail _ (.tail _ (.tail _ (.tail _ (.tail _ hp))))))
end Mine
end
section
open PySem PySem.W PyProof.Rows
local macro_rules | `(tactic| walk_at "mine pad") => `(tactic| skip)
local macro_rules | `(tactic| k_all) => `(tactic| assumption)
local macro_rules | `(tactic| k_room) => `(tactic| ktr_room)
local macro_rules | `(tactic| ke_room) => `(tactic| ktr_units)
local macro_rules | `(tactic| k_units) => `(tactic| ktr_units)
local macro_rules | `(tactic| walk_at "leaving ref") => `(tactic| (refine Mine.stop_here ?_))
local macro_rules | `(tactic| walk_at "convS ref") => `(tactic| (k_here; (with_reducible show wpAny _ _ (PySem.convS (Value.ref _)) _ _ _); (show wpAny _ _ (PySem.pyStrObj (Value.ref _)) _ _ _); k_dflt (refine' PySem.W.kfo_str ?u ?X ?I ?s ?f ?_; (case u => ktr_units); (case X => k_in); (case I => k_inst); (case s => k_is); (case f => k_is); k_whole)))
local macro_rules | `(tactic| walk_at "call ref") => `(tactic| ((with_reducible show wpAny _ _ (call (Value.ref 312) _) _ _ _); refine Mine.stop_here ?_))
namespace Mine
theorem fin_msg {prog : Program} {w : World} {A : Around} {E : Value → Shared → Prop} {s : Shared} {x : Str} {n : Nat} {Q : Value → Shared → Prop} (hx : x.length ≤ n) (h : ∀ msg t k, msg.length ≤ n → Q (.str msg t) { s with toks := k }) (hn : n ≤ 10000 := by decide) :
    wpAny (model prog w) A (joinParts x []) Q E s := by
  show wpAny _ _ (mkStr x) _ _ _
  exact wpAny_mkStr (h _ _ _ hx) (by rw [sizeLine_eq]; omega)
set_option maxRecDepth 100000 in
set_option maxHeartbeats 8000000 in
theorem lt_spec (w : World) {mean : ExcName → Option Value} {mg mb : Str → Option Value} {n n' : Int} {x d f y e g : Addr} {u1 u2 u3 u4 k1 k2 k3 k4 k5 v1 v2 v3 v4 l1 l2 l3 l4 l5 : Tok} {dp un : Nat} {gd : Option (List Code)} {env : Env} {outer : List Env} {A₀ : Around} {base h₀ : Heap} {L : Addr} {m : Str → Option Value}
    {rest : List (Addr × Obj)} {s : Shared} {E : Value → Shared → Prop} {loose : List Str} {pgm : Program}
    (B : Below A₀ base outer h₀) (F : Fr h₀ L s.heap m) (X : (hd.heap_39 w.params).In h₀) (N : News h₀ L s.heap ((x, instObj 556 d) :: (d, netD w.params n u1 u2 u3 u4 k1 k2 k3 k4 k5 f) :: (y, instObj 556 e) :: (e, netD w.params n' v1 v2 v3 v4 l1 l2 l3 l4 l5 g) :: rest))
    (T : Top pgm loose mean mg mb h₀) (hfX : env.frame = some L) (hk : env.scope.kind = .function) (h0 : 0 ≤ n) (h1 : n < 12) (h2 : 0 ≤ n') (h3 : n' < 12) (hne : n ≠ n')
    (hdp : dp + 40 < recursionLimit) (hu : un + 2000 < cLine)
    (rE : ∀ ex h' tk', RaisedAt base h₀ L m (env :: outer) ex (.type "TypeError") ((x, instObj 556 d) :: (d, netD w.params n u1 u2 u3 u4 k1 k2 k3 k4 k5 f) :: (y, instObj 556 e) :: (e, netD w.params n' v1 v2 v3 v4 l1 l2 l3 l4 l5 g) :: rest) h' → E (.ref ex) { s with heap := h', toks := tk' }) :
    wpAny (model P9 w) (atN dp un gd env outer) (call (.ref 340) [.ref x, .ref y]) (fun _ _ => False) E s := by
  have hq : PySem.Challenge.rw_km0038_09 = PySem.Challenge.rw_km0038_09 ∧ hd.heap_39 = hd.heap_39 := ⟨rfl, rfl⟩
  revert hq
  k_fill
  intro hq
  w_on
  refine wpAny_call ?_
  k_dflt (refine' PySem.W.code_def ?k1 ?k2 ?k3 ?k4 ?k5 ?kA ?kF ?kK ?k6 ?k7 ?k8 ?k9 ?kB ?_ ?c2 ?c3 ?c4 ?c5; (case kA => exact rfl); (case kF => exact hfX); (case kK => exact hk); (case k1 => k_asm); (case k2 => k_asm); (case k3 => k_asm); (case k4 => k_asm); (case k5 => k_asm); (case k6 => k_is); (case k7 => k_is); (case k8 => k_room); (case k9 => first | exact BindsTo.of_eq rfl | exact binds_K (by k_in) rfl (by k_is) rfl rfl rfl); (case c5 => decide); (case kB => exact locs rfl); (case c2 => exact rfl); (case c3 => exact rfl); (case c4 => exact rfl); k_whole; intro g' L' h' FG' F' N' B' X' T'; (try dsimp only); (try k_lift B'); (try k_fold))
  w_strict k_steps
  unfold Stop
  rename Fr _ _ _ _ => F2
  rename News _ _ _ _ => N2
  rename Below _ _ _ _ => B2
  rename PySem.W.Frag.In _ _ => X2
  rename Top _ _ _ _ _ _ => T2
  refine str_spec w B2 F2 X2 N2 T2 (by rfl) (by rfl) h0 h1 ?dp ?un ?rS
  (case dp => ktr_room)
  (case un => ktr_units)
  intro h6 tk6 y6 t6 F6 N6 hl6
  clear F2 N2
  dsimp only [StrBack]
  w_strict k_steps
  unfold Stop
  have N7 : News _ _ h6 ((y, instObj 556 e) :: (e, netD w.params n' v1 v2 v3 v4 l1 l2 l3 l4 l5 g) :: (x, instObj 556 d) :: (d, netD w.params n u1 u2 u3 u4 k1 k2 k3 k4 k5 f) :: rest) := fun p hp => N6 p (by simp only [List.mem_cons] at hp ⊢; grind)
  refine str_spec w B2 F6 X2 N7 T2 (by rfl) (by rfl) h2 h3 ?dp2 ?un2 ?rS2
  (case dp2 => ktr_room)
  (case un2 => ktr_units)
  intro h8 tk8 y8 t8 F8 N8 hl8
  have N9 : News _ _ h8 ((x, instObj 556 d) :: (d, netD w.params n u1 u2 u3 u4 k1 k2 k3 k4 k5 f) :: (y, instObj 556 e) :: (e, netD w.params n' v1 v2 v3 v4 l1 l2 l3 l4 l5 g) :: rest) := fun p hp => N8 p (by simp only [List.mem_cons] at hp ⊢; grind)
  clear F6 N6 N7 N8
  dsimp only [StrBack]
  iterate 5 walk1
  refine fin_msg (n := 300) ?_ ?_
  · rw [Str.length_append, Str.length_append, Str.length_append, Str.length_append]
    have a1 : Str.empty.length = 0 := by decide +kernel
    have a2 : (Str.ofString " and ").length = 5 := by decide +kernel
    have a3 : (Str.ofString " are not of the same version").length = 28 := by decide +kernel
    omega
  intro msg tm km hmsg
  dsimp only
  w_strict k_steps
  unfold Stop
  rename PySem.Heap.NewExc _ _ _ _ => hx
  refine leave_newS (h := h8) B2 hx F8 N9 fun h9 R9 _ U9 => ?_
  refine rE _ _ _ ⟨_, FG', R9, U9, fun b hb => ?_⟩
  obtain ⟨_, o, ho, _⟩ := B2.frames.mem hb
  exact ⟨o, ho⟩
end Mine
end
section
open PySem PySem.W PyProof.Rows PySem.Spec PySem.Calls
set_option maxRecDepth 100000
namespace Mine
def DictHas (h : Heap) (d : Addr) (es : Array DictEntry) (ep : Nat) : Prop := ∃ o, h.get? d = some o ∧ o.cls = .type "dict" ∧ o.data = .dict es ep
theorem DictHas.at {h h' : Heap} {d : Addr} {es : Array DictEntry} {ep : Nat} (x : DictHas h d es ep) (k : ∀ o, h.get? d = some o → h'.get? d = some o) : DictHas h' d es ep := let ⟨o, a, r⟩ := x; ⟨o, k o a, r⟩
theorem DictHas.lt {h : Heap} {d : Addr} {es : Array DictEntry} {ep : Nat} (x : DictHas h d es ep) : d < h.objs.size := let ⟨_, a, _⟩ := x; Heap.lt_size a
theorem DictHas.typeIs {s : Shared} {d : Addr} {es : Array DictEntry} {ep : Nat} (x : DictHas s.heap d es ep) : s.TypeIs (.ref d) "dict" := let ⟨o, a, b, _⟩ := x; ⟨o, a, b⟩
section
variable {prog : Program} {w : World} {A : Around} {E : Value → Shared → Prop} {s : Shared} {it d v : Addr} {es : Array DictEntry} {ep i : Nat}
theorem values_view {Q : Value → Shared → Prop} (hm : DictHas s.heap d es ep) (hsm : (d == sysModules) = false) (hq : Q (.ref s.heap.objs.size) { s with heap := s.heap.push { cls := .type "dict_values", data := .fields #[.ref d] } }) :
    wpAny (model prog w) A (call (.builtin "dict.values") [.ref d]) Q E s := by
  refine wpAny_call_entry PySem.F.slot_dict_values hm.typeIs PySem.F.entry_dict_values ?_ (PySem.F.args_dict_values_1 _)
  refine wpAny_bind ?_
  unfold Builtin.Dict.noArgs
  refine wpAny_bind (wpAny_notOrdered_dict hm.typeIs ?_)
  show wpAny _ _ (pure d) _ _ s
  refine wpAny_pure ?_
  show wpAny _ _ (Builtin.Dict.showsAll d >>= _) _ _ s
  unfold Builtin.Dict.showsAll
  rw [if_neg (by rw [hsm]; exact Bool.false_ne_true)]
  refine wpAny_bind (wpAny_pure ?_)
  exact wpAny_bind (wpAny_newObj_type (wpAny_pure ⟨_, rfl, hq⟩))
theorem values_iter {Q : Value → Shared → Prop} (hv : s.heap.IsValuesView v d) (hm : DictHas s.heap d es ep)
    (hQ : Q (.ref s.heap.objs.size) { s with heap := s.heap.push { cls := .type "dict_valueiterator", data := .fields #[.ref d, .int 0 0, .int es.size 0, .int ep 0] } }) :
    wpAny (model prog w) A (pyIter (.ref v)) Q E s := by
  obtain ⟨ov, hov, hcv, hdv⟩ := id hv
  obtain ⟨o, ho, hc, hdat⟩ := id hm
  refine wpAny_pyIter_slot hv.typeIs PySem.F.slot_dict_values_iter (wpAny_call_entry PySem.F.slot_dict_values_iter hv.typeIs PySem.F.entry_dict_values_iter ?_ (PySem.F.args_dict_values_iter_1 _))
  unfold Builtin.«dict_values.__iter__»
  refine wpAny_bind (wpAny_pure (wpAny_bind ?_))
  unfold Builtin.Dict_items.dictOf
  refine wpAny_bind (wpAny_field hov hdv (x := .ref d) rfl (wpAny_pure (wpAny_bind ?_)))
  unfold Builtin.Dict_items.newIterator
  refine wpAny_bind (wpAny_dictEntries ho hdat (wpAny_bind (wpAny_dictEpoch ho hdat ?_)))
  simp only [show Builtin.Dict_items.ownsTuple "dict_valueiterator" = false by decide, Bool.false_eq_true, if_false]
  refine wpAny_newObj_type (wpAny_pure ⟨_, rfl, "dict_valueiterator", _, ⟨_, Heap.get?_push_size _ rfl, rfl⟩, PySem.F.slot_dict_valueiterator_next.lookup, ?_⟩)
  simpa [rawInt] using hQ
theorem values_next {Q : Option Value → Shared → Prop} (hit : s.heap.IsValIter it d i es.size ep) (hm : DictHas s.heap d es ep)
    (h1 : ∀ hi : i < es.size, ∀ h', h'.IsValIter it d (i + 1) es.size ep → Heap.SameBut it s.heap h' → Q (some es[i].val) { s with heap := h' })
    (hh : A.handled = none) (h2 : es.size ≤ i → ∀ h', Heap.ExtBut it s.heap h' → Q none { s with heap := h' }) : wpAny (model prog w) A (pyNext (.ref it)) Q E s := by
  obtain ⟨o, ho, hc, hd⟩ := id hit
  obtain ⟨od, hod, hcd, hdd⟩ := id hm
  unfold pyNext
  refine wpAny_bind (wpAny_attempt (wpAny_callSpecial?_slot (name := Str.ofString "__next__") hit.typeIs PySem.F.slot_dict_valueiterator_next
    (wpAny_call_entry PySem.F.slot_dict_valueiterator_next hit.typeIs PySem.F.entry_dict_valueiterator_next ?_ (PySem.F.args_dict_valueiterator_next_1 _))))
  refine wpAny_bind (wpAny_pure (wpAny_bind (wpAny_bind ?_)))
  first | refine wpAny_bind (wpAny_typeNameOfWhole_valiter hit.typeIs (wpAny_pure ?_)) | refine wpAny_bind (wpAny_typeNameOf_valiter hit.typeIs (wpAny_pure ?_))
  refine wpAny_bind (wpAny_fieldsOf ho hd ?_)
  simp only [show Builtin.Dict_items.ownsTuple "dict_valueiterator" = false by decide, Bool.false_eq_true, if_false]
  show wpAny _ _ (if (Value.ref d == Value.none) = true then _ else _) _ _ s
  rw [if_neg (show ¬ ((Value.ref d == Value.none) = true) from Bool.false_ne_true)]
  refine wpAny_bind (wpAny_pure (wpAny_bind (wpAny_dictEntries hod hdd ?_)))
  rw [if_neg (by simp)]
  refine wpAny_bind (wpAny_pure (wpAny_bind (wpAny_dictEpoch hod hdd ?_)))
  rw [if_neg (by simp)]
  refine wpAny_pure ?_
  by_cases hi : i < es.size
  · simp only [show ¬ ((i : Int) < 0) from by omega, if_false, Int.toNat_natCast, Array.getElem?_eq_getElem hi]
    refine wpAny_bind ?_
    first | refine wpAny_bind (wpAny_typeNameOfWhole_valiter hit.typeIs (wpAny_pure ?_)) | refine wpAny_bind (wpAny_typeNameOf_valiter hit.typeIs (wpAny_pure ?_))
    refine wpAny_bind (wpAny_isOneOf_valiter hit.typeIs ?_)
    show wpAny _ _ (setField (.ref it) 1 (rawInt ((i : Int) + 1)) >>= _) _ _ s
    refine wpAny_bind (wpAny_setField ho hd (by simp) ?_)
    have hit' : (s.heap.update it (Obj.mapFields (·.setIfInBounds 1 (rawInt ((i : Int) + 1))))).IsValIter it d (i + 1) es.size ep :=
      ⟨_, Heap.get?_update_self _ ho (Obj.isFreed_of_fields (Obj.data_mapFields hd _)), (Obj.cls_mapFields ..).trans hc, by rw [Obj.data_mapFields hd]; simp [rawInt]⟩
    refine wpAny_bind (wpAny_holding ?_)
    refine wpAny_bind (wpAny_isOneOf_valiter (s := { s with heap := s.heap.update it (Obj.mapFields (·.setIfInBounds 1 (rawInt ((i : Int) + 1)))) }) hit'.typeIs ?_)
    refine wpAny_bind (wpAny_isOneOf_valiter (s := { s with heap := s.heap.update it (Obj.mapFields (·.setIfInBounds 1 (rawInt ((i : Int) + 1)))) }) hit'.typeIs ?_)
    show wpAny _ _ (pure es[i].val) _ _ _
    exact wpAny_pure (wpAny_pure ⟨_, rfl, wpAny_pure (h1 hi _ hit' (Heap.SameBut.update ..))⟩)
  · have hge : es.size ≤ i := by omega
    simp only [show ¬ ((i : Int) < 0) from by omega, if_false, Int.toNat_natCast, Array.getElem?_eq_none hge]
    refine wpAny_bind ?_
    first | refine wpAny_bind (wpAny_typeNameOfWhole_valiter hit.typeIs (wpAny_pure ?_)) | refine wpAny_bind (wpAny_typeNameOf_valiter hit.typeIs (wpAny_pure ?_))
    show wpAny _ _ (setField (.ref it) 0 .none >>= _) _ _ s
    refine wpAny_bind (wpAny_setField ho hd (by simp) ?_)
    show wpAny _ _ (newExc (.type "StopIteration") [] >>= _) _ _ _
    refine wpAny_bind ?_
    simp only [newExc, newTuple]
    refine wpAny_bind (wpAny_newObj_type ?_ (by size_fits))
    refine wpAny_bind (m := firstArgMember _ _) (wpAny_of_eq (a := Value.none) (by first | rfl | (simp only [firstArgMember]; rfl)) ?_)
    refine wpAny_newObj_type ?_ (by size_fits)
    simp only [raiseNew]
    refine wpAny_bind (wpAny_handled ?_)
    rw [show A.in1.handled = none from hh]
    refine wpAny_bind (wpAny_pure (wpAny_throw ?_))
    refine wpAny_bind (wpAny_isInstance (T := "StopIteration") (b := true) ⟨_, Heap.get?_push_size _ rfl, rfl⟩ isSubtype_stop ?_)
    exact wpAny_pure (h2 hge _ (((Heap.SameBut.update ..).extBut.push _).push _))
theorem walks_values (hh : A.handled = none) (I d : Addr) (hne : d ≠ I) (es : Array DictEntry) (ep : Nat) :
    Walks prog w A I [I, d] [I] es.size (fun i v => ∃ e, es[i]? = some e ∧ v = e.val) (fun i h => h.IsValIter I d i es.size ep ∧ DictHas h d es ep) where
  sub := fun b hb => by simp at hb; simp [hb]
  frame := fun _ _ _ st hk => ⟨st.1.at fun o e => hk I (by simp) o e, st.2.at fun o e => hk d (by simp) o e⟩
  item := fun i s Q E hi st hQ => values_next st.1 st.2 (fun hi' h' hit' hs' => hQ es[i].val h' s.toks ⟨es[i], Array.getElem?_eq_getElem hi', rfl⟩ ⟨hit', st.2.at fun o e => (hs'.2 _ hne).trans e⟩ fun b o hb e => hs'.extBut b o (fun h => hb (by simp [h])) e) hh fun h _ _ => absurd hi (by omega)
  done := fun s Q E st hQ => values_next st.1 st.2 (fun hi' _ _ _ => absurd hi' (Nat.lt_irrefl _)) hh fun _ h' he' => hQ h' s.toks fun b o hb e => he' b o (fun h => hb (by simp [h])) e
  self := fun _ _ _ _ st hQ => wpAny_pyIter_valiter st.1 hQ
theorem src_values : KdlSrc prog w "dict_values" v d es.size (fun i u => ∃ e, es[i]? = some e ∧ u = e.val) (fun h => h.IsValuesView v d ∧ DictHas h d es ep) where
  type := fun _ hm => hm.1.typeIs
  there := fun _ hm => ⟨let ⟨_, ho, _⟩ := hm.1; Heap.lt_size ho, hm.2.lt⟩
  keep := fun _ _ hm hk => ⟨let ⟨o, ho, x⟩ := hm.1; ⟨o, hk v (.inl rfl) o ho, x⟩, hm.2.at fun o e => hk d (.inr rfl) o e⟩
  notList := by decide
  notTuple := by decide
  hint := fun _ _ _ _ hm hq => kdl_hint_values hm.1.typeIs hq
  iter := fun _ _ hh hm => ⟨_, _, (fun _ _ hq => values_iter hm.1 hm.2 hq), walks_values hh _ d (Nat.ne_of_lt hm.2.lt) es ep, ⟨⟨_, Heap.get?_push_size _ rfl, rfl, rfl⟩, hm.2.at fun o e => Heap.get?_push_of_some _ e⟩⟩
end
end Mine
end
section
open PySem PySem.W PyProof.Rows PySem.Spec PySem.Calls
set_option maxRecDepth 100000
namespace Mine
section
variable {prog : Program} {w : World} {A₀ A : Around} {s : Shared} {base h₀ : Heap} {outer : List Env} {env : Env} {L a : Addr} {m : Str → Option Value} {news : List (Addr × Obj)} {K : Frag} {p : Program} {loose : List Str} {mean : ExcName → Option Value} {mg mb : Str → Option Value}
  {R : Result → Shared → Prop} {name qual : Str} {params : Arguments} {body : List Stmt} {scope : Scope} {dV kV doc pm cdv ct oc : Value} {an od : Option Addr} {osl : Array (Option Value)} {f : Addr} {args : Args} {binds : List (Str × Value)}
abbrev genO (gi : Nat) (name qual : Str) (t1 t2 : Tok) : Obj := { cls := .type "generator", data := .fields #[.int gi 0, .str name t1, .str qual t2] }
theorem gen_def (B : Below A₀ base outer h₀) (F : Fr h₀ L s.heap m) (X₀ : K.In h₀) (N : News h₀ L s.heap news) (T : Top p loose mean mg mb h₀) (hA : A.frames = some (env :: outer)) (hf : env.frame = some L) (hke : env.scope.kind = .function)
    (ho : K.lookup f = some ⟨oc, od, .func (fnOf name qual params body scope dV kV doc pm an cdv ct), osl⟩) (hcd : codeIn K cdv qual = true) (hroom : A.depth < recursionLimit)
    (hbind : BindsTo s (fnOf name qual params body scope dV kV doc pm an cdv ct) args binds) (hloc : ∀ y ∈ binds, scope.names.lookup y.1 = some .local)
    (h : ∀ g L' h₁ t1 t2 tk, Fr h₀ L g m → Fr g L' h₁ (fun y => binds.reverse.lookup y) → News g L' h₁ news → Below A base (env :: outer) g → K.In g → Top p loose mean mg mb g → (∀ b o, s.heap.get? b = some o → h₁.get? b = some o) → s.heap.objs.size = L' →
      R (.ok (.ret (.ref h₁.objs.size))) { s with gens := s.gens.push (.fresh (.func body (envOf qual scope L' f cdv))), heap := h₁.push (genO s.gens.size name qual t1 t2), toks := tk })
    (hco : scope.isCoroutine = false) (hgen : scope.isGenerator = true) (hk : scope.kind = .function)
    (hcell : ∀ x ∈ scope.names, x.2 ≠ .cell) : codeAny (model prog w) A (.call (.ref f) args) R s := by
  have X := X₀.keeps F.keep
  obtain ⟨FG, BG, st, lv⟩ := groundX (R := R) B F N hA hf hke
  refine codeAny_call_generator (fd := fnOf name qual params body scope dV kV doc pm an cdv ct) (body := body) hroom (X _ _ ho) rfl hco hgen rfl (codeRec_of X hcd) (hbind _ _ _ _ ?_)
  refine wpAny_newFunctionEnv hcell hloc (fun h₁ hns hsb => ⟨((T.nolimit).keeps F.keep).fresh _ hsb, ?_⟩) hk
  have hk₁ : ∀ b o, s.heap.get? b = some o → h₁.get? b = some o := fun b o e => hsb.extBut b o (Nat.ne_of_lt (Heap.lt_size e)) (Heap.get?_push_of_some _ e)
  exact h _ s.heap.objs.size h₁ _ _ _ FG ⟨hns, fun b o e => hk₁ b o (of_hideAll _ e), Nat.le_of_eq (hideAll_size _ _)⟩
    (fun p hp => ⟨hk₁ _ _ (N p hp).1, Nat.ne_of_lt (Heap.lt_size (N p hp).1), hideAll_none _ (List.mem_map_of_mem hp)⟩) BG (X₀.keeps st) (T.keeps st) hk₁ rfl
end
section
variable {prog : Program} {w : World} {A : Around} {E : Value → Shared → Prop} {s : Shared} {R : Result → Shared → Prop} {S I : Addr} {res : Value} {gi : Nat}
theorem loop_turn (h : wpAny (model prog w) A.in1 (pyNext (.ref I)) (fun ov s' => match ov with
      | none => R (.ok (.ret res)) s'
      | some v => ∃ acc c, s'.heap.get? S = some (W.listOf acc c) ∧ acc.size ≤ 1000 ∧
          (∀ h', h'.get? S = some (W.listOf (acc.push v) (c + 1)) → (∀ b o, b ≠ S → s'.heap.get? b = some o → h'.get? b = some o) → h'.objs.size = s'.heap.objs.size → codeAny (model prog w) A (.builtin "list.extend.loop" ⟨[.ref S, .ref I, res], []⟩) R { s' with heap := h' })) (fun e s' => R (.error e) s') s) :
    codeAny (model prog w) A (.builtin "list.extend.loop" ⟨[.ref S, .ref I, res], []⟩) R s := by
  refine codeAny_builtin F.entry_extend_loop ?_
  rw [Around.under_plainId F.plain_extend_loop _]
  show wpAny _ A.in1 (pyNext (.ref I) >>= _) _ _ s
  refine wpAny_bind (wpAny_mono h (fun ov s' hv => ?_) fun _ _ x => x)
  cases ov with
  | none => exact wpAny_pure hv
  | some v =>
    obtain ⟨acc, c, hS, hz, hk⟩ := hv
    show wpAny _ A.in1 (updateSeq S (·.push v) >>= _) _ _ _
    refine wpAny_bind ?_
    refine wpAny_updateSeq hS rfl (wpAny_pure ⟨plainId_quiet F.plain_extend_loop _, hk _ (by rw [Heap.get?_update_self _ hS (by rw [mapSeq_push]; rfl), mapSeq_push]) (fun b o hb e => (Heap.get?_update_other _ _ (Ne.symm hb)).trans e) ?_⟩) ?_ ?_
    · simp
    · rw [sizeLine_eq]; omega
    · show (acc.push v).size ≤ sizeLine + 1; rw [Array.size_push, sizeLine_eq]; omega
theorem list_gen {Q : Value → Shared → Prop} (hg : s.heap.IsGen I gi)
    (h : ∀ h' c, (∀ b o, s.heap.get? b = some o → h'.get? b = some o) → h'.get? s.heap.objs.size = some (W.listOf #[] c) → h'.objs.size = s.heap.objs.size + 1 →
      codeAny (model prog w) A.in1 (.builtin "list.extend.loop" ⟨[.ref s.heap.objs.size, .ref I, .none], []⟩) (wants (fun r s₂ => r = .none ∧ Q (.ref s.heap.objs.size) s₂) E) { s with heap := h' }) :
    wpAny (model prog w) A (call (.type "list") [.ref I]) Q E s := by
  have hIs : I < s.heap.objs.size := let ⟨o, _, _, ho, _⟩ := hg; Heap.lt_size ho
  refine callType_codes (Q₁ := fun obj s₁ => obj = .ref s.heap.objs.size ∧ s₁ = { s with heap := s.heap.push { cls := .type "list", data := .seq #[] } }) F.called_list (F.typeCall_list_1 _) F.entry_list_init
    (code_list_new _ ⟨rfl, rfl⟩) fun obj s₁ h₁ => ?_
  obtain ⟨rfl, rfl⟩ := h₁
  have hS : (s.heap.push { cls := .type "list", data := .seq #[] }).get? s.heap.objs.size = some { cls := .type "list", data := .seq #[] } := Heap.get?_push_size _ rfl
  refine ⟨⟨_, hS, rfl⟩, F.args_list_init_2 _ _, ?_⟩
  have hk0 : ∀ b o, s.heap.get? b = some o → (s.heap.push { cls := .type "list", data := .seq #[] }).get? b = some o := fun b o e => Heap.get?_push_of_some _ e
  have hz0 : (s.heap.push { cls := .type "list", data := .seq #[] }).objs.size = s.heap.objs.size + 1 := by simp [Heap.push]
  revert h hS hk0 hz0
  generalize (s.heap.push { cls := .type "list", data := .seq #[] }) = h1
  have hIS : s.heap.objs.size ≠ I := fun e => Nat.lt_irrefl _ (e ▸ hIs)
  have hlt : ∀ b o, s.heap.get? b = some o → b ≠ s.heap.objs.size := fun b o e => Nat.ne_of_lt (Heap.lt_size e)
  revert hIS hlt
  generalize s.heap.objs.size = S
  intro hIS hlt h hS hk0 hz0
  show wpAny _ A.in1.in1 (do let old ← Builtin.List.listItems (.ref S); Builtin.List.listUpdate (.ref S) (fun _ => #[]); letGo old.toList.reverse; Builtin.List.listExtendWith (.ref S) (.ref I) .none) _ _ _
  refine wpAny_bind ?_
  unfold Builtin.List.listItems
  refine wpAny_bind (wpAny_seqItems hS rfl (wpAny_pure ?_))
  show wpAny _ A.in1.in1 (updateSeq S (fun _ => #[]) >>= fun _ => letGo (#[] : Array Value).toList.reverse >>= fun _ => Builtin.List.listExtendWith (.ref S) (.ref I) .none) _ _ _
  refine wpAny_bind (wpAny_updateSeq hS rfl ?_)
  have hS₂ := Heap.get?_update_self (Obj.mapSeq (fun _ => (#[] : Array Value))) hS rfl
  have oth : ∀ b o, b ≠ S → h1.get? b = some o → (h1.update S (Obj.mapSeq (fun _ => (#[] : Array Value)))).get? b = some o :=
    fun b o hb e => (Heap.get?_update_other _ _ (Ne.symm hb)).trans e
  have hz2 : (h1.update S (Obj.mapSeq (fun _ => (#[] : Array Value)))).objs.size = S + 1 := by simp [hz0]
  refine wpAny_bind (wpAny_letGo ?_)
  revert hS₂ oth hz2
  show _ → _ → _ → wpAny _ _ _ _ _ { s with heap := h1.update S (Obj.mapSeq (fun _ => (#[] : Array Value))) }
  generalize (h1.update S (Obj.mapSeq (fun _ => (#[] : Array Value)))) = h2
  intro hS₂ oth hz2
  have hg2 : h2.IsGen I gi := hg.keeps fun b o e => oth b o (hlt b o e) (hk0 b o e)
  unfold Builtin.List.listExtendWith
  refine wpAny_bind (wpAny_typeOf (Heap.IsGen.typeIs (s := { s with heap := h2 }) hg2) ?_)
  have e1 : Builtin.List.listSameRef (.ref S) (.ref I) = false := by simp [Builtin.List.listSameRef, hIS]
  have e2 : (Value.type "generator" == Value.type "list") = false := by decide
  have e3 : (Value.type "generator" == Value.type "tuple") = false := by decide
  simp only [e1, e2, e3, Bool.or_false, Bool.false_eq_true, if_false]
  refine wpAny_bind (wpAny_pyIter_gen hg2 ?_)
  refine wpAny_bind (wpAny_holding ?_)
  unfold Builtin.List.listLengthHint
  refine wpAny_bind (wpAny_specialOf (Heap.IsGen.typeIs (s := { s with heap := h2 }) hg2) F.gen_no_len ?_)
  show wpAny _ A.in1.in1 (specialOf (Value.ref I) (Str.ofString "__length_hint__") >>= _) _ _ _
  refine wpAny_bind (wpAny_specialOf (Heap.IsGen.typeIs (s := { s with heap := h2 }) hg2) F.gen_no_hint ?_)
  refine wpAny_pure ?_
  show wpAny _ A.in1.in1 (rule "list.extend.makes-room" >>= fun _ => Builtin.List.listTouch (.ref S) >>= fun _ =>
    again (.builtin "list.extend.loop" ⟨[.ref S, .ref I, .none], []⟩)) _ _ _
  refine wpAny_bind (wpAny_rule ?_)
  refine wpAny_bind ?_
  show wpAny _ A.in1.in1 (updateSeq S (·.push .none) >>= fun _ => updateSeq S (·.pop)) _ _ _
  refine wpAny_bind (wpAny_updateSeq hS₂ rfl ?_)
  have hS₃ := Heap.get?_update_self (Obj.mapSeq (·.push Value.none)) hS₂ rfl
  refine wpAny_updateSeq (hz := by seq_fits) hS₃ rfl ?_
  have hS₄ := Heap.get?_update_self (Obj.mapSeq (·.pop)) hS₃ rfl
  refine wpAny_pure ⟨plainId_quiet F.plain_extend_loop _, h _ _ (fun b o e => (Heap.get?_update_other _ _ (Ne.symm (hlt b o e))).trans ((Heap.get?_update_other _ _ (Ne.symm (hlt b o e))).trans (oth b o (hlt b o e) (hk0 b o e)))) (hS₄.trans rfl) ?_⟩
  simp [hz2]
end
end Mine
end
section
open PySem PySem.W PyProof.Rows PySem.Spec PySem.Calls
set_option maxRecDepth 100000
namespace Mine
section
variable {prog : Program} {w : World} {A : Around} {E : Value → Shared → Prop} {s : Shared}
theorem next_gen {a : Addr} {g n : Nat} {gs : GenState} {R : GenEnd} {Y : Protocol} {Q : Option Value → Shared → Prop} (hh : A.handled = none)
    (hl : s.heap.NoLimit) (hroom : A.depth < recursionLimit)
    (hg : s.heap.IsGen a g) (hgs : s.gens[g]? = some gs)
    (hgo : gs.Goes (model prog w) A.in1 R Y n (.send .none) (s.setGen g .running))
    (hY : ∀ v s₁ gs', Y (n - 1) (s.setGen g .running) v s₁ (fun r' s'' => match n with
        | 0 => False
        | m + 1 => gs'.Goes (model prog w) A.in1 R Y m r' s'') → Q (some v) (s₁.setGen g gs'))
    (hR : ∀ r s₁, R n (s.setGen g .running) r s₁ → match r with
        | .ok (.ret .none) => ∀ h', (∀ b o, s₁.heap.get? b = some o → h'.get? b = some o) → Q none { s₁.setGen g .finished with heap := h' }
        | .error e => s₁.heap.IsGen a g ∧ (∃ T, s₁.TypeIs e T ∧ isSubtype (.type T) (.type "StopIteration") = pure false) ∧ E e (s₁.setGen g .finished)
        | _ => False) :
    wpAny (model prog w) A (pyNext (.ref a)) Q E s := by
  unfold pyNext
  refine wpAny_bind (wpAny_attempt (wpAny_callSpecial?_slot (name := Str.ofString "__next__") hg.typeIs slot_gen_next
    (wpAny_call_entry slot_gen_next hg.typeIs entry_gen_next ?_ (args_gen_next _))))
  show wpAny _ _ (Builtin.Generator.genWake (.ref a) (.send .none)) _ _ s
  unfold Builtin.Generator.genWake
  refine wpAny_bind (wpAny_holding (wpAny_genNumber hg (wpAny_bind (wpAny_genState hgs ?_))))
  cases gs with
  | running => exact hgo.elim
  | finished => exact hgo.elim
  | _ =>
    refine wpAny_bind (wpAny_roomToWake hl hroom ?_)
    show wpAny _ _ (.resume g (.send .none) [] _) _ _ s
    refine wpAny_resume hgs hgo (fun x s₁ hx => ?_) (fun v s₁ gs' hv => ?_)
    · have hx := hR x s₁ hx
      match x, hx with
      | .ok (.ret .none), hp =>
        show wpAny _ _ (newExc (.type "StopIteration") [] >>= _) _ _ _
        refine wpAny_bind ?_
        simp only [newExc, newTuple]
        refine wpAny_bind (wpAny_newObj_type ?_ (by size_fits))
        refine wpAny_bind (m := firstArgMember _ _) (wpAny_of_eq (a := Value.none) (by first | rfl | (simp only [firstArgMember]; rfl)) ?_)
        refine wpAny_newObj_type ?_ (by size_fits)
        simp only [raiseNew]
        refine wpAny_bind (wpAny_bind (wpAny_handled ?_))
        rw [show A.in1.handled = none from hh]
        refine wpAny_throw ?_
        refine wpAny_bind (wpAny_isInstance (T := "StopIteration") (b := true) ⟨_, Heap.get?_push_size _ rfl, rfl⟩ isSubtype_stop ?_)
        exact wpAny_pure (hp _ fun b o hb => Heap.get?_push_of_some _ (Heap.get?_push_of_some _ hb))
      | .error e, hp =>
        obtain ⟨hgen, ⟨T, hT, hs⟩, hE⟩ := hp
        obtain ⟨o, nm, qn, hog, hcg, hdg, _⟩ := hgen
        have hT' : (s₁.setGen g .finished).TypeIs e T := hT
        show wpAny _ _ (Builtin.Generator.genLeft (.ref a) e) _ _ _
        unfold Builtin.Generator.genLeft Builtin.Generator.madeByALambda
        refine wpAny_bind (wpAny_bind (wpAny_load hog (wpAny_pure ?_)))
        refine wpAny_bind (wpAny_isInstance hT' hs ?_)
        simp only [Bool.and_false, Bool.false_eq_true, if_false]
        unfold Builtin.Generator.genEscaped
        refine wpAny_bind (wpAny_isInstance hT' hs ?_)
        simp only [Bool.not_false, if_true]
        refine wpAny_throw ?_
        refine wpAny_bind (wpAny_isInstance hT' hs ?_)
        simp only [Bool.false_eq_true, if_false]
        exact wpAny_throw hE
    · exact wpAny_pure ⟨v, rfl, wpAny_pure (hY v s₁ gs' hv)⟩
end
end Mine
end
section
open PySem PySem.W PyProof.Rows PySem.Spec PySem.Calls
set_option maxRecDepth 100000
namespace Mine
section
variable {prog : Program} {w : World} {A : Around} {R : GenEnd} {Y : Protocol} {n : Nat} {s₀ : Shared} {c : Code} {fs : List Frame} {s : Shared} {env : Env}
  {K : Flow → Sem Fin} {H : Value → Sem Fin} {gd : Bool → Bool} {lv : List Value → List Value} {M : Model}
abbrev backF (env : Env) (K : Flow → Sem Fin) (H : Value → Sem Fin) (gd : Bool → Bool) (lv : List Value → List Value) (r : Result) : Sem Fin :=
  ((match r with | .ok f => (.pure f : Sem Flow) | .error e => .raise e).onRaise fun (x : Value) => do
        if (← field x 1) == Value.none then unsupported "frame.own-activation:exception-without-traceback"
        setFlight x env.frame).wrap K H gd lv
theorem seg_For {target iter : Expr} {body orelse : List Stmt} {pos : Pos}
    (h : wpAny M (A.over c fs) (eval iter env) (fun x s₁ => wpAny M (A.over c fs) (pyIter x) (fun it s₂ =>
      ∀ p, Seg M A R Y n s₀ (.forLoop target it body orelse env) (M.den (.forLoop target it body orelse env)) (.ret (backF env K H gd lv) none (gd false) (lv []) c p [] :: fs) s₂)
      (fun x s' => Seg M A R Y n s₀ c (H x) fs s') s₁) (fun x s' => Seg M A R Y n s₀ c (H x) fs s') s)
    (hs : ∀ x, foldedSetIterable iter env x = pure x := by intro _; rfl) :
    Seg M A R Y n s₀ c ((exec (.For target iter body orelse pos) env).wrap K H gd lv) fs s := by
  rw [exec_For]
  refine seg_at ?_
  show Seg M A R Y n s₀ c (((eval iter env) >>= fun x => (foldedSetIterable iter env x >>= fun x => (standAt iter.pos >>= fun _ => (holding [x] (pyIter x) >>= fun it => runOwn (.forLoop target it body orelse env) env)))).wrap K H gd lv) fs s
  rw [Sem.bind_eq_wrap', Sem.wrap_wrap]
  refine seg_wrap (wpAny_mono h (fun x s₁ h₁ => ?_) fun _ _ x => x)
  rw [hs x]
  show Seg M A R Y n s₀ c ((standAt iter.pos >>= fun _ => (holding [x] (pyIter x) >>= fun it => runOwn (.forLoop target it body orelse env) env)).wrap K H gd lv) fs s₁
  refine seg_at ?_
  show Seg M A R Y n s₀ c ((holding [x] (pyIter x) >>= fun it => runOwn (.forLoop target it body orelse env) env).wrap K H gd lv) fs s₁
  rw [Sem.bind_eq_wrap', Sem.wrap_wrap]
  refine seg_wrap (wpAny_holding (wpAny_mono h₁ (fun it s₂ h₂ => ?_) fun _ _ x => x))
  exact seg_call h₂
end
section
variable {prog : Program} {w : World} {A : Around} {R : GenEnd} {Y : Protocol} {n : Nat} {s₀ : Shared} {fs : List Frame} {s : Shared} {env : Env}
abbrev noteF (env : Env) (e : Value) : Sem Fin := (do noteFrame e env; theTreesLotGoes e : Sem Unit).wrap (fun _ => .raise e) .raise id id
theorem seg_turn {target : Expr} {it : Value} {body orelse : List Stmt}
    (h : wpAny (model prog w) (A.over (.forLoop target it body orelse env) fs) (pyNext it) (fun ov s₁ => match ov with
      | none => Seg (model prog w) A R Y n s₀ (.block orelse env) ((model prog w).den (.block orelse env)) fs s₁
      | some v => wpAny (model prog w) (A.over (.forLoop target it body orelse env) fs) (assign target env v) (fun _ s₂ =>
          Seg (model prog w) A R Y n s₀ (.forLoop target it body orelse env) ((execs body env).wrap (fun f => match f with
            | .next | .cont => .pure (.again (.forLoop target it body orelse env))
            | .brk => .pure (.done .next)
            | .ret v => .pure (.done (.ret v))) (noteF env) id id) fs s₂) (fun _ _ => False) s₁) (fun _ _ => False) s)
    (ht : ∀ v, letOwnedTupleGo target it v = pure () := by intro _; rfl) :
    Seg (model prog w) A R Y n s₀ (.forLoop target it body orelse env) ((model prog w).den (.forLoop target it body orelse env)) fs s := by
  show Seg _ A R Y n s₀ _ ((forTurn target it body orelse env).onRaise (fun x => do noteFrame x env; theTreesLotGoes x)) fs s
  rw [Sem.onRaise_eq_wrap]
  unfold forTurn
  show Seg _ A R Y n s₀ _ ((standAt target.pos >>= fun _ => (((pyNext it).onRaise fun _ => standAt { target.pos with line := 0 }) >>= fun ov => match ov with
    | none => again (.block orelse env)
    | some v => letOwnedTupleGo target it v >>= fun _ => assign target env v >>= fun _ => execs body env >>= fun f => match f with
      | .next | .cont => again (.forLoop target it body orelse env)
      | .brk => pure (.done .next)
      | .ret v => pure (.done (.ret v)))).wrap _ _ _ _) fs s
  refine seg_at ?_
  show Seg _ A R Y n s₀ _ ((((pyNext it).onRaise fun _ => standAt { target.pos with line := 0 }) >>= fun ov => match ov with
    | none => again (.block orelse env)
    | some v => letOwnedTupleGo target it v >>= fun _ => assign target env v >>= fun _ => execs body env >>= fun f => match f with
      | .next | .cont => again (.forLoop target it body orelse env)
      | .brk => pure (.done .next)
      | .ret v => pure (.done (.ret v))).wrap _ _ _ _) fs s
  rw [Sem.onRaise_eq_wrap, Sem.bind_eq_wrap', Sem.wrap_wrap, Sem.wrap_wrap]
  refine seg_wrap (wpAny_mono h (fun ov s₁ h₁ => ?_) fun _ _ x => x.elim)
  cases ov with
  | none => exact seg_again (by rfl) h₁
  | some v =>
    show Seg _ A R Y n s₀ _ ((letOwnedTupleGo target it v >>= fun _ => assign target env v >>= fun _ => execs body env >>= fun f => match f with
      | .next | .cont => again (.forLoop target it body orelse env)
      | .brk => pure (.done .next)
      | .ret v => pure (.done (.ret v))).wrap _ _ _ _) fs s₁
    rw [ht v]
    show Seg _ A R Y n s₀ _ ((assign target env v >>= fun _ => execs body env >>= fun f => match f with
      | .next | .cont => again (.forLoop target it body orelse env)
      | .brk => pure (.done .next)
      | .ret v => pure (.done (.ret v))).wrap _ _ _ _) fs s₁
    rw [Sem.bind_eq_wrap', Sem.wrap_wrap]
    refine seg_wrap (wpAny_mono h₁ (fun _ s₂ h₂ => ?_) fun _ _ x => x.elim)
    rw [Sem.bind_eq_wrap', Sem.wrap_wrap]
    rw [Sem.wrap_congr (execs body env) _ _ (K' := fun f => match f with
            | .next | .cont => .pure (.again (.forLoop target it body orelse env))
            | .brk => .pure (.done .next)
            | .ret v => .pure (.done (.ret v))) (H' := noteF env)
        (fun f => by cases f <;> rfl)
        (fun e => by first | exact Sem.bind_eq_wrap _ _ | (show (do noteFrame e env; theTreesLotGoes e : Sem Unit).bind (fun _ => .raise e) = _; rw [Sem.bind_eq_wrap]))]
    exact h₂
end
end Mine
end
section
open PySem PySem.W PyProof.Rows PySem.Spec PySem.Calls
set_option maxRecDepth 100000
namespace Mine
section
variable {prog : Program} {w : World} {A : Around} {R : GenEnd} {Y : Protocol} {n : Nat} {s₀ : Shared} {c : Code} {fs : List Frame} {s : Shared} {env : Env}
  {K : Flow → Sem Fin} {H : Value → Sem Fin} {gd : Bool → Bool} {lv : List Value → List Value}
theorem seg_block_end {g : Bool} {l : List Value} {p : Pos} (h : Seg (model prog w) A R Y n s₀ c (K .next) fs s) :
    Seg (model prog w) A R Y n s₀ (.block [] env) ((model prog w).den (.block [] env)) (.ret (backF env K H gd lv) none g l c p [] :: fs) s := by
  show Seg _ A R Y n s₀ _ _ _ s
  exact seg_leaf (.ok .next) h
abbrev funcK (f : Flow) : Sem Fin := .pure (.done (.ret (match f with | .ret v => v | _ => .none)))
abbrev funcH (env : Env) (e : Value) : Sem Fin := (leaving env e).wrap (fun _ => .raise e) .raise id id
theorem seg_func' {body : List Stmt} (h : Seg (model prog w) A R Y n s₀ (.func body env) ((execs body env).wrap funcK (funcH env) id id) fs s) :
    Seg (model prog w) A R Y n s₀ (.func body env) ((model prog w).den (.func body env)) fs s := seg_func h
theorem seg_returns (h : R n s₀ (.ok (.ret .none)) s) : Seg (model prog w) A R Y n s₀ c (funcK .next) [] s := seg_end (.ok (.ret .none)) h
theorem seg_raises {e : Value} (h : wpAny (model prog w) (A.over c []) (leaving env e) (fun _ s' => R n s₀ (.error e) s') (fun e' s' => R n s₀ (.error e') s') s) : Seg (model prog w) A R Y n s₀ c (funcH env e) [] s :=
  seg_wrap (wpAny_mono h (fun _ _ hr => seg_end (.error e) hr) fun _ _ hr => seg_end (.error _) hr)
theorem seg_stmt {st : Stmt} {rest : List Stmt}
    (h : wpAny (model prog w) (A.over c fs) (exec st env) (fun f s' => f = .next ∧ Seg (model prog w) A R Y n s₀ c ((execs rest env).wrap K H gd lv) fs s') (fun e s' => Seg (model prog w) A R Y n s₀ c (H e) fs s') s) :
    Seg (model prog w) A R Y n s₀ c ((execs (st :: rest) env).wrap K H gd lv) fs s := by
  refine seg_execs_cons (seg_wrap (wpAny_mono h (fun f s' hf => ?_) fun _ _ x => x))
  obtain ⟨rfl, hf⟩ := hf
  exact hf
end
end Mine
end
section
open PySem PySem.W PyProof.Rows PySem.Spec PySem.Calls
set_option maxRecDepth 100000
namespace Mine
theorem ne_bind (self : Value) : bindSpecial (.builtin "object.__ne__") self = pure (.builtin "object.__ne__", [self]) := F.cmp_object.ne.bind self
section
variable {prog : Program} {w : World} {A : Around} {E : Value → Shared → Prop} {s : Shared} {K : Frag} {x C L f : Addr} {h₀ : Heap} {m : Str → Option Value} {ox : Obj} {od : Option Obj} {b : Value}
theorem ne_ref {Q : Value → Shared → Prop} (hu : A.in1.units < cLine) (F : Fr h₀ L s.heap m) (X₀ : K.In h₀) (I : InstAt s.heap x ox C od) (hb : Looks (model prog w) s.heap (typeOf b) (.ref C))
    (hn : findIn K (.ref C) "__ne__" = some (some (.builtin "object.__ne__"))) (hsub : subIn K (.ref C) (.type "object") = some true)
    (hs : findIn K (.ref C) "__eq__" = some (some (.ref f))) (hf : isFn K (.ref f) = true)
    (h : wpAny (model prog w) A.in1 (call (.ref f) [.ref x, b]) (fun v s' => ∃ r, v = .bool r ∧ Q (.bool (!r)) s') E s) : wpAny (model prog w) A (richCompare .NotEq (.ref x) b) Q E s := by
  have X := X₀.keeps F.keep
  have hu0 : A.units < cLine := Nat.lt_of_le_of_lt (Nat.le_succ _) hu
  have entry : wpAny (model prog w) A.in1 (Builtin.«object.__ne__» ⟨[.ref x, b], []⟩) (fun fin s' => ∃ v, fin = .done (.ret v) ∧ ∃ r, v = .bool r ∧ Q (.bool r) s') E s := by
    show wpAny _ _ (cRoomFor "comparison" [.ref x, b] >>= fun _ => callSpecialIfBound? (.ref x) "__eq__" [b] >>= fun r => _) _ _ _
    refine wpAny_bind (wpAny_cRoomFor hu (wpAny_bind (ifBound_K X I hs hf (wpAny_mono h (fun v s' hv => ?_) fun _ _ e => e))))
    obtain ⟨r, rfl, hq⟩ := hv
    cases r
    · exact wpAny_bind (wpAny_pure (wpAny_pure ⟨_, rfl, _, rfl, hq⟩))
    · exact wpAny_bind (wpAny_pure (wpAny_pure ⟨_, rfl, _, rfl, hq⟩))
  have called : wpAny (model prog w) A (call (.builtin "object.__ne__") [.ref x, b]) (fun v s' => ∃ r, v = .bool r ∧ Q (.bool r) s') E s := by
    refine wpAny_call (codeAny_call_builtin PySem.F.cmp_object.ne.plain PySem.F.cmpEntry_ne (@check_slot (model prog w) _ _ _ "object.__ne__" "object" "__ne__" (.ref x) [b] [] _ PySem.F.cmpKind_ne PySem.F.cmpSplit_ne (I.type.andThen (looks_subIn X hsub)) (PySem.F.cmpArgs_ne _ _) ?_))
    refine wpAny_mono entry (fun fin s' hv => ?_) fun _ _ e => e
    obtain ⟨v, rfl, hq⟩ := hv
    exact hq
  have one : wpAny (model prog w) A (tryCompare (.ref x) "__ne__" b) (fun r s' => ∃ v, r = some v ∧ Q v s') E s := by
    unfold tryCompare
    refine wpAny_bind ?_
    simp only [callSpecialIfBound?, bindSpecialIfBound?]
    refine wpAny_holding (wpAny_bind (wpAny_bind (wpAny_bind (I.type.here ((looks_findIn X hn).here ?_)))))
    refine wpAny_bind (wpAny_askSetting (wpAny_ite ?_))
    have fin : wpAny (model prog w) A (call (.builtin "object.__ne__") ([.ref x] ++ [b]) >>= fun v => pure (some v)) (fun r s' => wpAny (model prog w) A (match r with | some .notImplemented | none => pure none | some v => pure (some v)) (fun r s' => ∃ v, r = some v ∧ Q v s') E s') E s := by
      refine wpAny_bind (wpAny_mono called (fun v s' hv => ?_) fun _ _ e => e)
      obtain ⟨r, rfl, hq⟩ := hv
      exact wpAny_pure (wpAny_pure ⟨_, rfl, hq⟩)
    simp only [ne_bind]
    split
    · exact wpAny_bind (wpAny_pure (wpAny_pure fin))
    · exact wpAny_tryCatch (wpAny_bind (wpAny_pure (wpAny_pure fin)))
  unfold richCompare
  simp only [oneThing_ref]
  refine wpAny_holding (wpAny_bind (wpAny_cRoomFor hu0 ?_))
  refine wpAny_bind (I.type.here (wpAny_bind (hb.here ?_)))
  simp only [bne_self_eq_false, Bool.false_eq_true, if_false]
  refine wpAny_bind (wpAny_pure ?_)
  simp only [Bool.false_eq_true, if_false]
  refine wpAny_bind (wpAny_mono one (fun r s' z => ?_) fun _ _ e => e)
  obtain ⟨v, rfl, hq⟩ := z
  exact wpAny_pure hq
end
end Mine
end
section
open PySem PySem.W PyProof.Rows PySem.Spec PySem.Calls
set_option maxRecDepth 100000
namespace Mine
section
variable {prog : Program} {w : World} {A : Around} {E : Value → Shared → Prop} {s : Shared} {h₀ : Heap} {L D : Addr} {m : Str → Option Value} {news rest : List (Addr × Obj)} {n : Nat} {p : Program} {loose : List Str} {mean : ExcName → Option Value} {mg mb : Str → Option Value}
theorem dict_new {env : Env} {pos : Pos} {Q : Value → Shared → Prop} (F : Fr h₀ L s.heap m) (N : News h₀ L s.heap news) (T : Top p loose mean mg mb h₀)
    (h : ∀ d h', Fr h₀ L h' m → News h₀ L h' ((d, dictOf [] 0) :: news) → (∀ q ∈ news, q.1 < d) → (d == sysModules) = false → Q (.ref d) { s with heap := h' }) :
    wpAny (model prog w) A (eval (.Dict [] [] pos) env) Q E s :=
  wpAny_Dict_empty (h _ _ (F.push _) (News.push F N _) (fun q hq => Heap.lt_size (N q hq).1) (F.notModules (modules_low T.nolimit)))
theorem pop_at {p : List Value} {y : Value} {Q : Value → Shared → Prop} (F : Fr h₀ L s.heap m) (N : News h₀ L s.heap news) (U : Upd D (listOf (p ++ [y]).toArray n) (listOf p.toArray (n + 1)) news rest) (hz : p.length ≤ 1000)
    (h : ∀ h', Fr h₀ L h' m → News h₀ L h' rest → Q y { s with heap := h' }) : wpAny (model prog w) A (call (.builtin "list.pop") [.ref D]) Q E s :=
  kl_pop F N (p := p) (y := y) (by simpa using kpa_last y p) U (by rw [sizeLine_eq]; simp; omega) h
theorem truthy_at {l : Addr} {items : Array Value} {Q : Bool → Shared → Prop} (N : News h₀ L s.heap news) (hm : (l, listOf items n) ∈ news) (hz : items.size ≤ 1000)
    (h : ∀ tk, Q (!items.isEmpty) { s with toks := tk }) : wpAny (model prog w) A (truthy (.ref l)) Q E s :=
  wpAny_truthy_list (News.isList N hm) (by omega) (h _)
end
end Mine
end
section
open PySem PySem.W PyProof.Rows PySem.Spec PySem.Calls
set_option maxRecDepth 100000
namespace Mine
section
variable {prog : Program} {w : World} {A : Around} {E : Value → Shared → Prop} {s : Shared} {K : Frag} {x C L f : Addr} {h₀ : Heap} {m : Str → Option Value} {ox : Obj} {od : Option Obj} {name : Str} {es : List DictEntry} {n : Nat} {v : Value}
theorem findObj_shadow {a g : Value} {o : Obj} (hh : hasDictIn K C = true) (ha : findIn K (.ref C) name = some (some a)) (hg : specialIn K a "__get__" = some (some g)) (ht : takesIn K a = some false) (hl : lookIn name o = some (some v)) :
    findObj K C (some o) name = some (.value v) := by
  obtain ⟨cd, hc, hd⟩ := any_some hh
  unfold findObj
  have ho : PySem.W.ownOf cd (some o) name = some (some v) := by unfold PySem.W.ownOf; rw [if_pos hd]; exact hl
  rw [hc, Option.bind_some, ha, Option.bind_some]
  simp [hg, ht, ho]
theorem method_shadow {pl : Sem Bool} {Q : Value × List Value → Shared → Prop} {f : Addr} {g : Value} (F : Fr h₀ L s.heap m) (X₀ : K.In h₀) (I : InstAt s.heap x ox C (some (dictOf es n))) (hg : plainGet K C name = true) (hh : hasDictIn K C = true)
    (hf : findIn K (.ref C) name = some (some (.ref f))) (ht : isFn K (.ref f) = true) (hgt : specialIn K (.ref f) "__get__" = some (some g)) (htk : takesIn K (.ref f) = some false) (hl : getL name es = some (some v)) (hv : handedIn v = true) (h : Q (v, []) { s with toks := s.toks + 1 }) :
    wpAny (model prog w) A (getMethod (.ref x) name pl) Q E s := by
  have X := X₀.keeps F.keep
  have hlk : lookIn name (dictOf es n) = some (some v) := by rw [lookIn_dict, hl]
  have hcan := PySem.F.canon_object_ga
  have u : wpAny (model prog w) A (do return (← getAttr (.ref x) name, ([] : List Value))) Q E s :=
    wpAny_bind (get_value X I (plainGet_of hg).1 (findObj_shadow hh hf hgt htk hlk) hv (wpAny_pure h))
  unfold getMethod specialOf
  refine wpAny_bind (wpAny_bind (I.type.here ((looks_findIn X (plainGet_of hg).1).here ?_)))
  dsimp only
  rw [hcan, if_neg (by decide)]
  refine wpAny_bind (wpAny_bind (I.type.here ((looks_findIn X (plainGet_of hg).2).here ?_)))
  refine wpAny_bind (wpAny_bind (I.type.here ((looks_findIn X hf).here (wpAny_bind ((looks_typeIn X (beq_iff_eq.mp ht)).here ?_)))))
  rw [if_neg (by decide +kernel)]
  refine wpAny_bind (wpAny_loadPart I.at_ ?_)
  have hd := I.dict
  cases e : ox.dict with
  | none => rw [e] at hd; exact hd.elim
  | some dx =>
    rw [e] at hd
    refine wpAny_bind (wpAny_bind (wpAny_loadPart hd ?_))
    rw [nsLook_of hlk]
    refine wpAny_pure ?_
    exact u
end
end Mine
end
section
namespace Mine
structure CSt where
  todo : List Nat
  sub : List (Nat × Nat)
  asked : List Nat
def csize (c : CSt) : Nat := 2 * c.todo.length + c.sub.length
def cstep (hs : Nat → Nat) (c : CSt) : CSt :=
  match c.todo.getLast? with
  | none => c
  | some n =>
    match c.sub.lookup (hs n) with
    | none => ⟨c.todo.dropLast, c.sub ++ [(hs n, n)], c.asked ++ [n]⟩
    | some e => if e = n then ⟨c.todo.dropLast, c.sub, c.asked ++ [n]⟩ else ⟨c.todo.dropLast ++ [hs n], c.sub.filter (fun p => p.1 != hs n), c.asked ++ [n]⟩
def cruns (hs : Nat → Nat) : Nat → CSt → CSt
  | 0, c => c
  | n + 1, c => cruns hs n (cstep hs c)
def cfin (hs : Nat → Nat) (c : CSt) : CSt := cruns hs (csize c) c
theorem cstep_nil {hs : Nat → Nat} {c : CSt} (h : c.todo = []) : cstep hs c = c := by simp [cstep, h]
theorem cruns_nil {hs : Nat → Nat} {c : CSt} (h : c.todo = []) : ∀ n, cruns hs n c = c
  | 0 => rfl
  | n + 1 => by rw [cruns, cstep_nil h, cruns_nil h n]
theorem lookup_len {k e : Nat} : ∀ {l : List (Nat × Nat)}, l.lookup k = some e → (l.filter (fun p => p.1 != k)).length < l.length
  | [], h => by simp at h
  | p :: r, h => by
    rw [List.lookup_cons] at h
    cases q : k == p.1 with
    | true =>
      have : p.1 = k := (beq_iff_eq.mp q).symm
      simp [this, Nat.lt_succ_of_le (List.length_filter_le _ r)]
    | false =>
      rw [q] at h
      have ih := lookup_len (l := r) h
      have : (p.1 != k) = true := by
        rw [bne_iff_ne]; intro z; rw [z] at q; simp at q
      simp [List.filter_cons, this, ih]
theorem cstep_less {hs : Nat → Nat} {c : CSt} (h : c.todo ≠ []) : csize (cstep hs c) < csize c := by
  have hl : 0 < c.todo.length := List.length_pos_iff.mpr h
  unfold cstep csize
  rw [List.getLast?_eq_some_getLast h]
  dsimp only
  split
  · simp; omega
  · rename_i e he
    split
    · simp; omega
    · have := lookup_len he
      simp; omega
theorem cruns_enough {hs : Nat → Nat} : ∀ (n : Nat) (c : CSt), csize c ≤ n → cruns hs n c = cfin hs c := by
  have key : ∀ (k n : Nat) (c : CSt), csize c ≤ k → csize c ≤ n → cruns hs n c = cruns hs k c := by
    intro k
    induction k with
    | zero =>
      intro n c hk hn
      have : c.todo = [] := by
        cases q : c.todo with
        | nil => rfl
        | cons a r => simp [csize, q] at hk
      rw [cruns_nil this, cruns_nil this]
    | succ k ih =>
      intro n c hk hn
      by_cases h : c.todo = []
      · rw [cruns_nil h, cruns_nil h]
      · cases n with
        | zero =>
          have := cstep_less (hs := hs) h
          omega
        | succ n =>
          have := cstep_less (hs := hs) h
          exact ih n _ (by omega) (by omega)
  intro n c h
  exact key _ n c (Nat.le_refl _) h
theorem cfin_step {hs : Nat → Nat} {c : CSt} (h : c.todo ≠ []) : cfin hs (cstep hs c) = cfin hs c := by
  have l := cstep_less (hs := hs) h
  rw [← cruns_enough (csize c - 1) (cstep hs c) (by omega)]
  show _ = cruns hs (csize c) c
  obtain ⟨k, hk⟩ : ∃ k, csize c = k + 1 := ⟨csize c - 1, by omega⟩
  rw [hk]
  rfl
theorem cfin_done {hs : Nat → Nat} {c : CSt} (h : c.todo = []) : cfin hs c = c := cruns_nil h _
end Mine
end
section
open PySem
namespace Mine
theorem hp_ok : ∀ u : Nat, u < 12 → -2 ^ 63 ≤ hp (u : Int) 0 ∧ hp (u : Int) 0 < 2 ^ 63 ∧ hp (u : Int) 0 ≠ -1 := by
  have k : ∀ u : Fin 12, -2 ^ 63 ≤ hp ((u.val : Nat) : Int) 0 ∧ hp ((u.val : Nat) : Int) 0 < 2 ^ 63 ∧ hp ((u.val : Nat) : Int) 0 ≠ -1 := by decide +kernel
  exact fun u h => k ⟨u, h⟩
theorem hp_inj : ∀ u v : Nat, u < 12 → v < 12 → hp (u : Int) 0 = hp (v : Int) 0 → u = v := by
  have k : ∀ u v : Fin 12, hp ((u.val : Nat) : Int) 0 = hp ((v.val : Nat) : Int) 0 → u.val = v.val := by decide +kernel
  exact fun u v h1 h2 => k ⟨u, h1⟩ ⟨v, h2⟩
section
variable {X : Nat → Addr} {sub : List (Nat × Nat)} {u : Nat}
abbrev pairs (X : Nat → Addr) (sub : List (Nat × Nat)) : List (Addr × Value) := sub.map fun p => (X p.1, Value.ref (X p.2))
theorem pairs_lookup (inj : ∀ a b, a < 12 → b < 12 → X a = X b → a = b) (hu : u < 12) : ∀ {sub : List (Nat × Nat)}, (∀ p ∈ sub, p.1 < 12 ∧ p.2 < 12) → (pairs X sub).lookup (X u) = (sub.lookup u).map fun e => Value.ref (X e)
  | [], _ => rfl
  | p :: r, h => by
    have h1 := (h p (.head _)).1
    have ih := pairs_lookup inj hu (sub := r) fun q hq => h q (.tail _ hq)
    show List.lookup (X u) ((X p.1, Value.ref (X p.2)) :: pairs X r) = _
    rw [List.lookup_cons, List.lookup_cons]
    by_cases q : u = p.1
    · rw [show (X u == X p.1) = true by rw [q]; exact beq_self_eq_true _, show (u == p.1) = true by rw [q]; exact beq_self_eq_true _]; rfl
    · have e1 : (u == p.1) = false := by rw [beq_eq_false_iff_ne]; exact q
      have e2 : (X u == X p.1) = false := by rw [beq_eq_false_iff_ne]; exact fun z => q (inj _ _ hu h1 z)
      rw [e1, e2]
      exact ih
theorem pairs_nodup (inj : ∀ a b, a < 12 → b < 12 → X a = X b → a = b) : ∀ {sub : List (Nat × Nat)}, (∀ p ∈ sub, p.1 < 12 ∧ p.2 < 12) → (sub.map (·.1)).Nodup → ((pairs X sub).map (·.1)).Nodup
  | [], _, _ => .nil
  | p :: r, h, hn => by
    have hn' := List.nodup_cons.mp (show (p.1 :: r.map (·.1)).Nodup from hn)
    refine List.nodup_cons.mpr ⟨fun z => ?_, pairs_nodup inj (fun q hq => h q (.tail _ hq)) hn'.2⟩
    obtain ⟨y, hy, e⟩ := List.mem_map.mp z
    obtain ⟨q, hq, rfl⟩ := List.mem_map.mp hy
    exact hn'.1 (List.mem_map.mpr ⟨q, hq, inj _ _ (h q (.tail _ hq)).1 (h p (.head _)).1 e⟩)
theorem pairs_notin (inj : ∀ a b, a < 12 → b < 12 → X a = X b → a = b) (hu : u < 12) (h : ∀ p ∈ sub, p.1 < 12 ∧ p.2 < 12) (hl : sub.lookup u = none) : X u ∉ (pairs X sub).map (·.1) := fun z => by
  obtain ⟨y, hy, e⟩ := List.mem_map.mp z
  obtain ⟨q, hq, rfl⟩ := List.mem_map.mp hy
  have : q.1 = u := inj _ _ (h q hq).1 hu e
  have := List.lookup_eq_none_iff.mp hl q hq
  simp_all
theorem pairs_filter (inj : ∀ a b, a < 12 → b < 12 → X a = X b → a = b) (hu : u < 12) : ∀ {sub : List (Nat × Nat)}, (∀ p ∈ sub, p.1 < 12 ∧ p.2 < 12) → (pairs X sub).filter (fun p => p.1 != X u) = pairs X (sub.filter fun p => p.1 != u)
  | [], _ => rfl
  | p :: r, h => by
    have h1 := (h p (.head _)).1
    have ih := pairs_filter inj hu (sub := r) fun q hq => h q (.tail _ hq)
    show List.filter _ ((X p.1, Value.ref (X p.2)) :: pairs X r) = _
    rw [List.filter_cons, List.filter_cons, ih]
    by_cases q : p.1 = u
    · have e1 : (X p.1 != X u) = false := by rw [q]; exact bne_self_eq_false _
      have e2 : (p.1 != u) = false := by rw [q]; exact bne_self_eq_false _
      simp [e1, e2]
    · have e2 : (p.1 != u) = true := bne_iff_ne.mpr q
      have e1 : (X p.1 != X u) = true := bne_iff_ne.mpr fun z => q (inj _ _ h1 hu z)
      simp [e1, e2]
theorem lookup_mem {e : Nat} (h : sub.lookup u = some e) : (u, e) ∈ sub := by
  induction sub with
  | nil => simp at h
  | cons p r ih =>
    rw [List.lookup_cons] at h
    cases q : u == p.1 with
    | true => rw [q] at h; rw [beq_iff_eq.mp q]; simp at h; rw [← h]; exact .head _
    | false => rw [q] at h; exact .tail _ (ih h)
end
end Mine
namespace Mine
section
variable {hs : Nat → Nat} {p : List Nat} {v u e : Nat} {sub : List (Nat × Nat)} {a : List Nat}
theorem cstep_none (hu : hs v = u) (h : sub.lookup u = none) : cstep hs ⟨p ++ [v], sub, a⟩ = ⟨p, sub ++ [(u, v)], a ++ [v]⟩ := by
  subst hu
  simp [cstep, h]
theorem cstep_same (hu : hs v = u) (h : sub.lookup u = some v) : cstep hs ⟨p ++ [v], sub, a⟩ = ⟨p, sub, a ++ [v]⟩ := by
  subst hu
  simp [cstep, h]
theorem cstep_other (hu : hs v = u) (h : sub.lookup u = some e) (hne : e ≠ v) : cstep hs ⟨p ++ [v], sub, a⟩ = ⟨p ++ [u], sub.filter (fun q => q.1 != u), a ++ [v]⟩ := by
  subst hu
  simp [cstep, h, hne]
end
end Mine
end
section
open PySem PySem.W PyProof.Rows
local macro_rules | `(tactic| k_all) => `(tactic| assumption)
local macro_rules | `(tactic| k_room) => `(tactic| ktr_room)
local macro_rules | `(tactic| ke_room) => `(tactic| ktr_units)
local macro_rules | `(tactic| k_units) => `(tactic| ktr_units)
local macro_rules | `(tactic| walk_at "exec While Name cons nil") => `(tactic| (refine Mine.stop_here ?_))
local macro_rules | `(tactic| walk_at "exec While") => `(tactic| (refine Mine.stop_here ?_))
local macro_rules | `(tactic| walk_at "getMethod ref") => `(tactic| (k_here; (with_reducible show wpAny _ _ (getMethod (Value.ref _) (PySem.Str.ofString "supernet") _) _ _ _); k_dflt (refine' Mine.method_shadow ?k1 ?k2 ?k3 ?k4 ?k5 ?k6 ?k7 ?k8 ?k9 ?ka ?kb ?_; (case k1 => k_asm); (case k2 => k_asm); (case k3 => k_inst); (case k4 => k_is); (case k5 => k_is); (case k6 => k_is); (case k7 => k_is); (case k8 => k_is); (case k9 => k_is); (case ka => k_get); (case kb => k_handed); k_whole)))
local macro_rules | `(tactic| walk_at "getMethod ref") => `(tactic| (k_here; (with_reducible show wpAny _ _ (getMethod (Value.ref _) (PySem.Str.ofString "get") _) _ _ _); refine Mine.stop_here ?_))
local macro_rules | `(tactic| walk_at "callWith") => `(tactic| ((with_reducible show wpAny _ _ (callWith _ (Value.ref _, []).fst _ _ _) _ _ _); refine Mine.stop_here ?_))
local macro_rules | `(tactic| walk_at "call builtin:list.append") => `(tactic| (refine Mine.stop_here ?_))
local macro_rules | `(tactic| walk_at "getMethod ref") => `(tactic| (k_here; (with_reducible show wpAny _ _ (getMethod (Value.ref _) (PySem.Str.ofString "values") _) _ _ _); refine Mine.stop_here ?_))
local macro_rules | `(tactic| walk_at "call builtin:dict.values") => `(tactic| (refine Mine.stop_here ?_))
local macro_rules | `(tactic| walk_at "call builtin:sorted") => `(tactic| (refine Mine.stop_here ?_))
local macro_rules | `(tactic| walk_at "truthy ref") => `(tactic| (refine Mine.stop_here ?_))
local macro_rules | `(tactic| walk_at "call builtin:list.pop") => `(tactic| (refine Mine.stop_here ?_))
local macro_rules | `(tactic| walk_at "call builtin:dict.get") => `(tactic| (refine Mine.stop_here ?_))
local macro_rules | `(tactic| walk_at "call ref") => `(tactic| (refine Mine.stop_here ?_))
local macro_rules | `(tactic| walk_at "setItem ref ref") => `(tactic| (refine Mine.stop_here ?_))
local macro_rules | `(tactic| walk_at "delItem ref ref") => `(tactic| (refine Mine.stop_here ?_))
local macro_rules | `(tactic| walk_at "compareOp NotEq ref ref") => `(tactic| (refine Mine.stop_here ?_))
local macro_rules | `(tactic| walk_at "WPost") => `(tactic| (refine Mine.stop_here ?_))
local macro_rules | `(tactic| walk_at "eval Dict nil nil") => `(tactic| (k_here; k_dflt (refine' Mine.dict_new ?F ?N ?T ?_; (case F => k_asm); (case N => k_asm); (case T => k_asm); k_whole); intro d' h' F' N' l1 e1; (try k_lt l1); (try k_sweep)))
namespace Mine
theorem two_names {h₀ h : Heap} {L a b : Addr} {o1 o2 : Obj} {LED : List (Addr × Obj)} (_ : News h₀ L h ((a, o1) :: (b, o2) :: LED)) : ∃ a' b', a' = a ∧ b' = b := ⟨_, _, rfl, rfl⟩
theorem led_in {a b c d e f g h i : Addr × Obj} {r : List (Addr × Obj)} : ∀ q ∈ (g :: h :: i :: d :: e :: f :: r), q ∈ (a :: b :: c :: d :: e :: f :: g :: h :: i :: r) := by
  intro q hq; simp only [List.mem_cons] at hq ⊢; grind
theorem led_out {d e f g h i : Addr × Obj} {r : List (Addr × Obj)} : ∀ q ∈ (d :: e :: f :: g :: h :: i :: r), q ∈ (g :: h :: i :: d :: e :: f :: r) := by
  intro q hq; simp only [List.mem_cons] at hq ⊢; grind
theorem add_two {h₀ h : Heap} {L : Addr} {a b : Addr × Obj} {LED : List (Addr × Obj)} (N : News h₀ L h LED) (ha : a ∈ LED) (hb : b ∈ LED) : News h₀ L h (a :: b :: LED) := fun p hp => by
  rcases List.mem_cons.mp hp with rfl | hp
  · exact N _ ha
  rcases List.mem_cons.mp hp with rfl | hp
  · exact N _ hb
  exact N _ hp
theorem drop_two {h₀ h : Heap} {L : Addr} {a b : Addr × Obj} {LED : List (Addr × Obj)} (N : News h₀ L h (a :: b :: LED)) : News h₀ L h LED := fun p hp => N p (.tail _ (.tail _ hp))
theorem raised_mono {base h₀ h : Heap} {L : Addr} {m : Str → Option Value} {l : List Env} {e : Addr} {cls : Value} {a b : List (Addr × Obj)} (R : RaisedAt base h₀ L m l e cls a h) (i : ∀ p ∈ b, p ∈ a) : RaisedAt base h₀ L m l e cls b h := by
  obtain ⟨G, FG, ⟨B, a0, hB, hBG, hl, hfl⟩, hu, hf⟩ := R
  exact ⟨G, FG, ⟨B, a0, hB, hBG, fun q hq => hl q (i q hq), hfl⟩, hu, hf⟩
theorem vals_eq {C : Addr → Int} {X : Nat → Addr} {sub : List (Nat × Nat)} {vs : List Value} (hl : vs.length = (ents C (pairs X sub)).toArray.size) (hv : ∀ (j : Nat) (v : Value), vs[j]? = some v → ∃ e, (ents C (pairs X sub)).toArray[j]? = some e ∧ v = e.val) :
    vs = sub.map fun p => Value.ref (X p.2) := by
  apply List.ext_getElem?
  intro j
  rw [List.getElem?_map]
  have hl' : vs.length = sub.length := by rw [hl, ents_size, List.length_map]
  cases q : vs[j]? with
  | none =>
    have : sub.length ≤ j := by rw [← hl']; exact List.getElem?_eq_none_iff.mp q
    rw [List.getElem?_eq_none this]; rfl
  | some v =>
    obtain ⟨e, he, rfl⟩ := hv j v q
    rw [ents_at, List.getElem?_map] at he
    cases z : sub[j]? with
    | none => rw [z] at he; simp at he
    | some p => rw [z] at he; simp at he; rw [← he]; rfl
theorem tail_name {h₀ h : Heap} {L : Addr} {a : Addr × Obj} {LED : List (Addr × Obj)} (N : News h₀ L h (a :: LED)) : ∃ LED', LED' = LED ∧ News h₀ L h (a :: LED') := ⟨_, rfl, N⟩
theorem fr_but {g h h' : Heap} {L S : Addr} {m : Str → Option Value} (F : Fr g L h m) (h1 : S ≠ L) (h2 : g.get? S = none) (he : ∀ b o, b ≠ S → h.get? b = some o → h'.get? b = some o) : Fr g L h' m :=
  ⟨F.ns.at' fun o e => he _ _ (fun z => h1 z.symm) e, fun b o e => he _ _ (fun z => by rw [z, h2] at e; cases e) (F.keep b o e), F.above⟩
theorem news_but {g h h' : Heap} {L S : Addr} {oS oS2 : Obj} {LED : List (Addr × Obj)} (N : News g L h ((S, oS) :: LED)) (off : ∀ p ∈ LED, p.1 ≠ S) (hS : h'.get? S = some oS2) (he : ∀ b o, b ≠ S → h.get? b = some o → h'.get? b = some o) : News g L h' ((S, oS2) :: LED) := fun p hp => by
  rcases List.mem_cons.mp hp with rfl | hp
  · exact ⟨hS, (N _ (.head _)).2⟩
  · exact ⟨he _ _ (off p hp) (N p (.tail _ hp)).1, (N p (.tail _ hp)).2⟩
structure Cfg where
  X : Nat → Addr
  hsF : Nat → Nat
  LN : Addr
  LH : Addr
  LA : Addr
  c' : Addr
  xs : Array Value
  hs : Array Value
  zn : Nat
  zh : Nat
  G : List (Addr × Obj)
  ha : Addr → Int
abbrev Cfg.led (C : Cfg) (as : Array Value) (za : Nat) (rest : List (Addr × Obj)) : List (Addr × Obj) := (C.LN, W.listOf C.xs C.zn) :: (C.LH, W.listOf C.hs C.zh) :: (C.LA, W.listOf as za) :: rest
structure Cfg.Ok (C : Cfg) (P : Params) : Prop where
  net : ∀ v : Nat, v < 12 → NetAt P C.LN C.LH C.LA C.c' (v : Int) (C.X v) C.G
  code : LamCode C.c' C.G
  lt : ∀ v : Nat, v < 12 → C.hsF v < 12
  hs : ∀ v : Nat, v < 12 → ∃ th, C.hs[v]? = some (.int (C.hsF v : Int) th)
  xs : ∀ v : Nat, v < 12 → C.xs[v]? = some (.ref (C.X v))
  inj : ∀ u v, u < 12 → v < 12 → C.X u = C.X v → u = v
  hash : ∀ v : Nat, v < 12 → C.ha (C.X v) = hp v 0
  na : @Ne Nat C.LN C.LA
  nha : @Ne Nat C.LH C.LA
abbrev refs (X : Nat → Addr) (l : List Nat) : List Value := l.map fun v => .ref (X v)
abbrev mf (m1 : Str → Option Value) (TM SN : Addr) (on os oe : Option Value) : Str → Option Value := fun y =>
  if y = Str.ofString "existing" then oe else if y = Str.ofString "supernet" then os else if y = Str.ofString "net" then on else if y = Str.ofString "subnets" then some (.ref SN) else if y = Str.ofString "to_merge" then some (.ref TM) else m1 y
theorem mf_start {m1 : Str → Option Value} {TM SN : Addr} (e1 : m1 (Str.ofString "existing") = none) (e2 : m1 (Str.ofString "supernet") = none) (e3 : m1 (Str.ofString "net") = none) :
    (fun y => if y = Str.ofString "subnets" then some (Value.ref SN) else if y = Str.ofString "to_merge" then some (Value.ref TM) else m1 y) = mf m1 TM SN none none none := by
  have d1 : Str.ofString "existing" ≠ Str.ofString "subnets" := by decide +kernel
  have d2 : Str.ofString "existing" ≠ Str.ofString "to_merge" := by decide +kernel
  have d3 : Str.ofString "supernet" ≠ Str.ofString "subnets" := by decide +kernel
  have d4 : Str.ofString "supernet" ≠ Str.ofString "to_merge" := by decide +kernel
  have d5 : Str.ofString "net" ≠ Str.ofString "subnets" := by decide +kernel
  have d6 : Str.ofString "net" ≠ Str.ofString "to_merge" := by decide +kernel
  funext y
  show _ = if y = Str.ofString "existing" then none else _
  by_cases q1 : y = Str.ofString "existing"
  · subst q1; simp only [d1, d2, if_false, if_true, e1]
  by_cases q2 : y = Str.ofString "supernet"
  · subst q2; simp only [d3, d4, q1, if_false, if_true, e2]
  by_cases q3 : y = Str.ofString "net"
  · subst q3; simp only [d5, d6, q1, q2, if_false, if_true, e3]
  simp only [q1, q2, q3, if_false]
theorem mf_turn {m1 : Str → Option Value} {TM SN : Addr} {on os oe : Option Value} {vn vs ve : Value} :
    (fun y => if y = Str.ofString "existing" then some ve else if y = Str.ofString "supernet" then some vs else if y = Str.ofString "net" then some vn else mf m1 TM SN on os oe y) = mf m1 TM SN (some vn) (some vs) (some ve) := by
  funext y
  show (if y = Str.ofString "existing" then some ve else if y = Str.ofString "supernet" then some vs else if y = Str.ofString "net" then some vn else
    if y = Str.ofString "existing" then oe else if y = Str.ofString "supernet" then os else if y = Str.ofString "net" then on else if y = Str.ofString "subnets" then some (.ref SN) else if y = Str.ofString "to_merge" then some (.ref TM) else m1 y) =
    (if y = Str.ofString "existing" then some ve else if y = Str.ofString "supernet" then some vs else if y = Str.ofString "net" then some vn else if y = Str.ofString "subnets" then some (.ref SN) else if y = Str.ofString "to_merge" then some (.ref TM) else m1 y)
  by_cases q1 : y = Str.ofString "existing"
  · rw [if_pos q1, if_pos q1]
  by_cases q2 : y = Str.ofString "supernet"
  · simp only [if_neg q1, if_pos q2]
  by_cases q3 : y = Str.ofString "net"
  · simp only [if_neg q1, if_neg q2, if_pos q3]
  simp only [if_neg q1, if_neg q2, if_neg q3]
def Loop (C : Cfg) (w : World) (g : Heap) (L' : Addr) (m1 : Str → Option Value) (TM SN D : Addr) (row : List Nat) (zr : Nat) (rest : List (Addr × Obj)) (st0 : CSt) (s : Shared) (n : Nat) (s' : Shared) : Prop :=
  ∃ (st : CSt) (h : Heap) (tk : Tok) (on os oe : Option Value) (as : Array Value) (za zt zs : Nat),
    n = csize st ∧ s' = { s with heap := h, toks := tk } ∧ cfin C.hsF st = cfin C.hsF st0 ∧ Fr g L' h (mf m1 TM SN on os oe) ∧
    News g L' h ((SN, dictOf (ents C.ha (pairs C.X st.sub)) zs) :: (TM, W.listOf (refs C.X st.todo).toArray zt) :: (D, W.listOf (refs C.X row).toArray zr) :: C.led as za rest) ∧
    IntsAre as.toList (st.asked.map Int.ofNat) ∧ (∀ v ∈ st.todo, v < 12) ∧ (∀ p ∈ st.sub, p.1 < 12 ∧ p.2 < 12) ∧ (st.sub.map (·.1)).Nodup ∧ st.asked.length + csize st ≤ 300 ∧ ∀ p ∈ st.sub, C.hsF p.2 = p.1
def RG (C : Cfg) (base h₀ g : Heap) (L L' : Addr) (m : Str → Option Value) (l : List Env) (st : CSt) (S : Addr) (oS : Obj) (rest : List (Addr × Obj)) : GenEnd := fun n s₀ r s₁ =>
  s₁ = { s₀ with heap := s₁.heap, toks := s₁.toks } ∧ match r with
    | .error e => n = 1 ∧ 2 ≤ st.sub.length ∧ ∃ ex as za, e = .ref ex ∧ IntsAre as.toList (st.asked.map Int.ofNat) ∧ RaisedAt base h₀ L m l ex (.type "TypeError") (C.led as za ((S, oS) :: rest)) s₁.heap
    | .ok (.ret .none) => (n = 1 ∧ st.sub = [] ∧ ∃ as za m', IntsAre as.toList (st.asked.map Int.ofNat) ∧ Fr g L' s₁.heap m' ∧ News g L' s₁.heap (C.led as za ((S, oS) :: rest))) ∨
        (n = 0 ∧ ∃ as za m' oS2, s₀.heap.get? S = some oS2 ∧ IntsAre as.toList (st.asked.map Int.ofNat) ∧ Fr g L' s₁.heap m' ∧ News g L' s₁.heap (C.led as za ((S, oS2) :: rest)))
    | _ => False
def YG (C : Cfg) (g : Heap) (L' : Addr) (st : CSt) (S : Addr) (oS : Obj) (rest : List (Addr × Obj)) : Protocol := fun n s₀ v s₁ kap =>
  n = 0 ∧ s₁ = { s₀ with heap := s₁.heap, toks := s₁.toks } ∧ ∃ k y as za m', st.sub = [(k, y)] ∧ v = .ref (C.X y) ∧ IntsAre as.toList (st.asked.map Int.ofNat) ∧ Fr g L' s₁.heap m' ∧ News g L' s₁.heap (C.led as za ((S, oS) :: rest)) ∧
    ∀ s₂ oS2, s₂.heap.get? S = some oS2 → (∀ b o, b ≠ S → s₁.heap.get? b = some o → s₂.heap.get? b = some o) → kap (.send .none) s₂
def GenSeg (C : Cfg) (w : World) (base h₀ g : Heap) (L L' : Addr) (m m0 : Str → Option Value) (env : Env) (outer : List Env) (D : Addr) (row : List Nat) (zr : Nat) (code : Code) : Prop :=
  ∀ (dp un : Nat) (gd : Option (List PySem.Code)) (s₀ : Shared) (S : Addr) (oS : Obj) (rest : List (Addr × Obj)) (as : Array Value) (za : Nat) (asked : List Nat),
    un + 3000 < cLine → dp + 80 < recursionLimit → Fr g L' s₀.heap m0 → News g L' s₀.heap ((D, W.listOf (refs C.X row).toArray zr) :: C.led as za ((S, oS) :: rest)) → (∀ p ∈ C.G, p ∈ rest) → (∀ p ∈ (S, oS) :: rest, p.1 ≠ C.LA) → @Ne Nat D C.LA → (∀ as za, ∀ p ∈ C.led as za rest, p.1 ≠ S) →
    IntsAre as.toList (asked.map Int.ofNat) → asked.length ≤ 100 →
    Seg (model P9 w) (atN dp un gd env outer) (RG C base h₀ g L L' m (env :: outer) (cfin C.hsF ⟨row, [], asked⟩) S oS rest) (YG C g L' (cfin C.hsF ⟨row, [], asked⟩) S oS rest) 1 s₀ code ((model P9 w).den code) [] s₀
set_option maxRecDepth 100000 in
set_option maxHeartbeats 8000000 in
theorem gen_spec (w : World) (C : Cfg) (CO : C.Ok w.params) {mean : ExcName → Option Value} {mg mb : Str → Option Value} {D : Addr} {dp un : Nat} {gd : Option (List Code)} {env : Env} {outer : List Env} {A₀ : Around} {base h₀ : Heap} {L : Addr} {m : Str → Option Value}
    {row : List Nat} {zr : Nat} {rest : List (Addr × Obj)} {s : Shared} {Q E : Value → Shared → Prop} {loose : List Str} {pgm : Program}
    (B : Below A₀ base outer h₀) (F : Fr h₀ L s.heap m) (XK : (hd.heap_39 w.params).In h₀) (N : News h₀ L s.heap ((D, W.listOf (refs C.X row).toArray zr) :: rest))
    (T : Top pgm loose mean mg mb h₀) (hfX : env.frame = some L) (hk : env.scope.kind = .function) (hrow : ∀ v ∈ row, v < 12) (hlen : row.length ≤ 60)
    (hdp : dp + 100 < recursionLimit) (hu : un + 4000 < cLine)
    (rS : ∀ g L' h1 t1 t2 tk1 m0 code, Fr h₀ L g m → Fr g L' h1 m0 → News g L' h1 ((D, W.listOf (refs C.X row).toArray zr) :: rest) → (∀ b o, s.heap.get? b = some o → h1.get? b = some o) → GenSeg C w base h₀ g L L' m m0 env outer D row zr code →
      Q (.ref h1.objs.size) { s with gens := s.gens.push (.fresh code), heap := h1.push (genO s.gens.size (Str.ofString "_collapse_addresses_internal") (Str.ofString "_collapse_addresses_internal") t1 t2), toks := tk1 }) :
    wpAny (model P9 w) (atN dp un gd env outer) (call (.ref 28) [.ref D]) Q E s := by
  have hq : PySem.Challenge.rw_km0038_09 = PySem.Challenge.rw_km0038_09 ∧ hd.heap_39 = hd.heap_39 := ⟨rfl, rfl⟩
  revert hq
  k_fill
  intro hq
  w_on
  refine wpAny_call ?_
  k_dflt (refine' Mine.gen_def ?k1 ?k2 ?k3 ?k4 ?k5 ?kA ?kF ?kK ?k6 ?k7 ?k8 ?k9 ?kB ?_ ?c2 ?c3 ?c4 ?c5; (case kA => exact rfl); (case kF => exact hfX); (case kK => exact hk); (case k1 => k_asm); (case k2 => k_asm); (case k3 => k_asm); (case k4 => k_asm); (case k5 => k_asm); (case k6 => k_is); (case k7 => k_is); (case k8 => k_room); (case k9 => first | exact BindsTo.of_eq rfl | exact binds_K (by k_in) rfl (by k_is) rfl rfl rfl); (case c5 => decide); (case kB => exact locs rfl); (case c2 => exact rfl); (case c3 => exact rfl); (case c4 => exact rfl); k_whole; intro g' L' h1 t1 t2 tk1 FG' F1 N1 B' X' T' hkp hL'; (try dsimp only); (try k_lift B'); (try k_fold))
  refine rS g' L' h1 t1 t2 tk1 _ _ FG' F1 N1 hkp ?_
  clear hkp F1 N1 rS F N
  intro dp un gd s₀ S oS rest3 as za asked hun hdp2 F0 N0 hG hoff hDA hoffS hints hal
  replace hG : ∀ p ∈ C.G, p ∈ (S, oS) :: rest3 := fun p hp => .tail _ (hG p hp)
  have hrest : ∃ rest2, rest2 = (S, oS) :: rest3 := ⟨_, rfl⟩
  obtain ⟨rest2, hR2⟩ := hrest
  rw [← hR2] at N0 hG hoff
  refine seg_func' ?_
  refine seg_stmt (wpAny_mono (E := fun _ _ => False) (?_ : wpAny _ (atN (dp + 1) (un + 3) gd (envOf (Str.ofString "_collapse_addresses_internal") _ L' 28 (Value.ref 27)) (env :: outer)) _ (fun f s' => _) _ _) (fun f s' h' => h') fun _ _ h' => h'.elim)
  w_strict k_steps
  rename And _ _ => lT
  refine seg_stmt (wpAny_mono (E := fun _ _ => False) (?_ : wpAny _ (atN (dp + 1) (un + 3) gd (envOf (Str.ofString "_collapse_addresses_internal") _ L' 28 (Value.ref 27)) (env :: outer)) _ (fun f s' => _) _ _) (fun f s' h' => h') fun _ _ h' => h'.elim)
  w_strict k_steps
  refine seg_stmt (wpAny_mono (E := fun _ _ => False) (?_ : wpAny _ (atN (dp + 1) (un + 3) gd (envOf (Str.ofString "_collapse_addresses_internal") _ L' 28 (Value.ref 27)) (env :: outer)) _ (fun f s' => _) _ _) (fun f s' h' => h') fun _ _ h' => h'.elim)
  rename Fr g' L' _ _ => F2
  rename News g' L' _ _ => N2
  rw [mf_start (by rfl) (by rfl) (by rfl)] at F2
  have F3 : ∃ m1, Fr g' L' _ (mf m1 _ _ none none none) := ⟨_, F2⟩
  clear F2
  obtain ⟨m1, F2⟩ := F3
  rename And _ _ => l1
  obtain ⟨SN, TM, eS, eT⟩ := two_names N2
  subst eS
  subst eT
  have off1 : ∀ (oT : Obj) (as : Array Value) (za : Nat), ∀ p ∈ (TM, oT) :: (D, W.listOf (refs C.X row).toArray zr) :: C.led as za rest2, p.1 ≠ SN := by
    intro oT as za
    have k := allLt_get l1.2.2.2.2.2
    have z : ∀ p ∈ (TM, oT) :: (D, W.listOf (refs C.X row).toArray zr) :: C.led as za rest2, @LT.lt Nat _ p.1 SN := by
      simp only [List.forall_mem_cons]
      exact ⟨l1.1, l1.2.1, l1.2.2.1, l1.2.2.2.1, l1.2.2.2.2.1, k⟩
    exact fun p hp => Nat.ne_of_lt (z p hp)
  have off2 : ∀ (as : Array Value) (za : Nat), ∀ p ∈ (D, W.listOf (refs C.X row).toArray zr) :: C.led as za rest2, p.1 ≠ TM := by
    intro as za
    have k := allLt_get lT.2.2.2.2
    have z : ∀ p ∈ (D, W.listOf (refs C.X row).toArray zr) :: C.led as za rest2, @LT.lt Nat _ p.1 TM := by
      simp only [List.forall_mem_cons]
      exact ⟨lT.1, lT.2.1, lT.2.2.1, lT.2.2.2.1, k⟩
    exact fun p hp => Nat.ne_of_lt (z p hp)
  have hSA : @Ne Nat SN C.LA := Nat.ne_of_gt l1.2.2.2.2.1
  have hTA : @Ne Nat TM C.LA := Nat.ne_of_gt lT.2.2.2.1
  have hTS : @LT.lt Nat _ TM SN := l1.1
  clear l1 lT
  refine while_ind PassesOwn.never (Loop C w g' L' m1 TM SN D row zr rest2 ⟨row, [], asked⟩ s₀) ?turn (csize ⟨row, [], asked⟩) ?start
  case start =>
    exact ⟨_, _, _, _, _, _, _, _, _, _, rfl, rfl, rfl, F2, N2, hints, hrow, fun p hp => (nomatch hp), .nil, by simp only [csize, List.length_nil]; omega, fun p hp => (nomatch hp)⟩
  case turn =>
    clear F2 N2 hints
    intro n s' hI
    obtain ⟨st, h4, tk4, on, os, oe, as4, za4, zt4, zs4, rfl, rfl, hfin, F4, N4, hI4, htd, hsb, hnd, hl4, hkv⟩ := hI
    obtain ⟨todo, sub, asked4⟩ := st
    dsimp only at hfin N4 hI4 htd hsb hnd hl4 hkv
    have hz1 : 2 * todo.length + sub.length + asked4.length ≤ 300 := by simp only [csize] at hl4; omega
    w_strict k_steps
    unfold Stop
    refine truthy_at N4 (.tail _ (.head _)) (by rw [List.size_toArray, List.length_map]; omega) fun tk5 => ?_
    rcases List.eq_nil_or_concat todo with rfl | ⟨p, v, rfl⟩
    · have hb : (!(refs C.X ([] : List Nat)).toArray.isEmpty) = false := by simp
      rw [hb]
      dsimp only [WhlIf]
      w_strict k_steps
      rw [← hfin, cfin_done (by rfl)]
      refine seg_stmt (wpAny_mono (E := fun _ _ => False) (?_ : wpAny _ (atN (dp + 1) (un + 3) gd (envOf (Str.ofString "_collapse_addresses_internal") _ L' 28 (Value.ref 27)) (env :: outer)) _ (fun f s' => _) _ _) (fun f s' h' => h') fun _ _ h' => h'.elim)
      w_strict k_steps
      refine seg_execs_cons (seg_For ?_)
      show wpAny _ (atN (dp + 1) (un + 3) gd (envOf (Str.ofString "_collapse_addresses_internal") _ L' 28 (Value.ref 27)) (env :: outer)) _ _ _ _
      w_strict k_steps
      unfold Stop
      rename Fr g' L' _ _ => F30
      rename News g' L' _ _ => N30
      refine getMethod_builtin ⟨_, (N30 _ (.head _)).1, rfl⟩ PySem.F.plainAttrs_dict PySem.F.slot_dict_values PySem.F.type_dict_values (fun a e => by cases e; exact ⟨_, (N30 _ (.head _)).1, rfl⟩) ?_
      w_strict k_steps
      unfold Stop
      have hD30 : DictHas _ SN (ents C.ha (pairs C.X sub)).toArray zs4 := ⟨_, (N30 _ (.head _)).1, rfl, rfl⟩
      refine values_view hD30 (by assumption) ?_
      have N31 := News.push F30 N30 { cls := .type "dict_values", data := .fields #[.ref SN] } rfl
      have F31 := F30.push { cls := .type "dict_values", data := .fields #[.ref SN] }
      have hlt31 : ∀ q ∈ (SN, dictOf (ents C.ha (pairs C.X sub)) zs4) :: (TM, W.listOf (refs C.X []).toArray zt4) :: (D, W.listOf (refs C.X row).toArray zr) :: C.led as4 za4 rest2, @LT.lt Nat _ q.1 _ := fun q hq => Heap.lt_size (N30 q hq).1
      clear F30 hD30
      dsimp only at F31 N31 hlt31 ⊢
      w_strict k_steps
      unfold Stop
      refine kdu_sorted (src_values (es := (ents C.ha (pairs C.X sub)).toArray) (ep := zs4) (d := SN)) (by rfl) F31 N31 ⟨⟨_, (N31 _ (.head _)).1, rfl, rfl⟩, ⟨_, (N31 _ (.tail _ (.head _))).1, rfl, rfl⟩⟩ (by rw [ents_size, List.length_map, sizeLine_eq]; omega) fun B h32 tk32 vs F32 N32 l32 hl32 hv32 => ?_
      have evs := vals_eq hl32 hv32
      subst evs
      clear hl32 hv32 F31 N31 N30
      have off32 := fun p hp => Nat.ne_of_lt (l32 p hp)
      obtain ⟨LED, hLED, N33⟩ := tail_name N32
      rw [← hLED] at off32
      have k7 : ∀ q ∈ rest2, q ∈ LED := by rw [hLED]; exact fun q hq => .tail _ (.tail _ (.tail _ (.tail _ (.tail _ (.tail _ (.tail _ hq))))))
      have k8 : ∀ q ∈ C.led as4 za4 rest2, q ∈ LED := by rw [hLED]; exact fun q hq => .tail _ (.tail _ (.tail _ (.tail _ hq)))
      clear N32
      rcases sub with _ | ⟨p1, _ | ⟨p2, more⟩⟩
      · simp only [List.map_nil] at N33
        refine sort_small F32 N33 off32 (by simp) fun h34 n34 F34 N34 => ?_
        refine wpAny_pyIter_list (News.isList N34 (.head _)) ?_
        obtain ⟨N35, off35⟩ := iter_new (l := B) F34 N34
        have F35 := F34.push { cls := .type "list_iterator", data := .fields #[.ref B, .int 0 0] }
        intro pz
        refine seg_turn ?_
        refine wpAny_pyNext_list_end rfl (iter_at N35 rfl rfl) (News.isList N35 (.tail _ (.head _))) (by simp) fun h44 he44 => ?_
        obtain ⟨F45, N45⟩ := iter_end F35 N35 off35 he44
        dsimp only
        refine seg_block_end ?_
        dsimp only
        refine seg_execs_nil ?_
        refine seg_returns ?_
        exact ⟨rfl, .inl ⟨rfl, rfl, as4, za4, _, hI4, F45, fun q hq => N45 q (.tail _ (k8 q (by rw [hR2]; exact hq)))⟩⟩
      · simp only [List.map_cons, List.map_nil] at N33
        refine sort_small F32 N33 off32 (by simp) fun h34 n34 F34 N34 => ?_
        refine wpAny_pyIter_list (News.isList N34 (.head _)) ?_
        obtain ⟨N35, off35⟩ := iter_new (l := B) F34 N34
        have F35 := F34.push { cls := .type "list_iterator", data := .fields #[.ref B, .int 0 0] }
        intro pz
        refine seg_turn ?_
        refine wpAny_pyNext_list_item (iter_at N35 rfl rfl) (News.isList N35 (.tail _ (.head _))) (x := .ref (C.X p1.2)) (by simp) fun h36 hit36 hs36 => ?_
        obtain ⟨oI, oI1, oI2, F36, N36⟩ := iter_step F35 N35 off35 hit36 hs36
        clear F34 N34 F35 N35 hit36 hs36
        dsimp only
        show wpAny _ (atN (dp + 1) (un + 3) gd (envOf (Str.ofString "_collapse_addresses_internal") _ L' 28 (Value.ref 27)) (env :: outer)) _ _ _ _
        w_strict k_steps
        refine seg_stmt (wpAny_mono (E := fun _ _ => False) (?_ : wpAny _ (atN (dp + 1) (un + 3) gd (envOf (Str.ofString "_collapse_addresses_internal") _ L' 28 (Value.ref 27)) (env :: outer)) _ (fun f s' => _) _ _) (fun f s' h' => h') fun _ _ h' => h'.elim)
        w_strict k_steps
        refine seg_execs_cons (seg_Expr_Yield (by rfl) (by rfl) (by rfl) ?_)
        show wpAny _ (atN (dp + 1) (un + 3) gd (envOf (Str.ofString "_collapse_addresses_internal") _ L' 28 (Value.ref 27)) (env :: outer)) _ _ _ _
        w_strict k_steps
        rename_i kap hkap
        rename Fr g' L' _ _ => F38
        rename News g' L' _ _ => N38
        have k9 : ∀ q ∈ C.led as4 za4 ((S, oS) :: rest3), q ∈ LED := by rw [← hR2]; exact k8
        have hSm : (S, oS) ∈ LED := k9 _ (.tail _ (.tail _ (.tail _ (.head _))))
        have hSB : S ≠ B := off32 _ hSm
        have hSI := off35 _ (.tail _ hSm)
        have N39 := N38.perm (fun q hq => .tail _ (.tail _ (k9 q hq)))
        refine ⟨rfl, rfl, p1.1, p1.2, as4, za4, _, rfl, rfl, hI4, F38, N39, fun s₂ oS2 hS2 hk2 => hkap .none s₂ ?_⟩
        dsimp only at hk2 N39 F38
        have F40 := fr_but F38 (N38 _ (.tail _ (.tail _ hSm))).2.1 (N38 _ (.tail _ (.tail _ hSm))).2.2 hk2
        have N40a := N38.perm (news' := (S, oS) :: (_, oI) :: (B, W.listOf [Value.ref (C.X p1.2)].toArray n34) :: C.led as4 za4 rest3) (fun q hq => by
          rcases List.mem_cons.mp hq with rfl | hq
          · exact .tail _ (.tail _ hSm)
          rcases List.mem_cons.mp hq with rfl | hq
          · exact .head _
          rcases List.mem_cons.mp hq with rfl | hq
          · exact .tail _ (.head _)
          refine .tail _ (.tail _ (k9 _ ?_))
          rcases List.mem_cons.mp hq with rfl | hq
          · exact .head _
          rcases List.mem_cons.mp hq with rfl | hq
          · exact .tail _ (.head _)
          rcases List.mem_cons.mp hq with rfl | hq
          · exact .tail _ (.tail _ (.head _))
          exact .tail _ (.tail _ (.tail _ (.tail _ hq))))
        have N40 := news_but N40a (by
          intro p hp
          rcases List.mem_cons.mp hp with rfl | hp
          · exact fun z => hSI z.symm
          rcases List.mem_cons.mp hp with rfl | hp
          · exact fun z => hSB z.symm
          exact hoffS _ _ p hp) hS2 hk2
        clear N40a N39 N38 F38
        dsimp only
        refine seg_stmt (wpAny_mono (E := fun _ _ => False) (?_ : wpAny _ (atN (dp + 1) (un + 3) gd (envOf (Str.ofString "_collapse_addresses_internal") _ L' 28 (Value.ref 27)) (env :: outer)) _ (fun f s' => _) _ _) (fun f s' h' => h') fun _ _ h' => h'.elim)
        w_strict k_steps
        rename Fr g' L' _ _ => F42
        rename News g' L' _ _ => N42
        have N43 := N42.perm (news' := (_, oI) :: (B, W.listOf [Value.ref (C.X p1.2)].toArray n34) :: C.led as4 za4 ((S, oS2) :: rest3)) (fun q hq => by
          rcases List.mem_cons.mp hq with rfl | hq
          · exact .tail _ (.head _)
          rcases List.mem_cons.mp hq with rfl | hq
          · exact .tail _ (.tail _ (.head _))
          rcases List.mem_cons.mp hq with rfl | hq
          · exact .tail _ (.tail _ (.tail _ (.head _)))
          rcases List.mem_cons.mp hq with rfl | hq
          · exact .tail _ (.tail _ (.tail _ (.tail _ (.head _))))
          rcases List.mem_cons.mp hq with rfl | hq
          · exact .tail _ (.tail _ (.tail _ (.tail _ (.tail _ (.head _)))))
          rcases List.mem_cons.mp hq with rfl | hq
          · exact .head _
          exact .tail _ (.tail _ (.tail _ (.tail _ (.tail _ (.tail _ hq))))))
        refine seg_execs_nil ?_
        refine seg_again (by rfl) ?_
        refine seg_turn ?_
        refine wpAny_pyNext_list_end rfl (iter_at N43 oI1 oI2) (News.isList N43 (.tail _ (.head _))) (by simp) fun h44 he44 => ?_
        obtain ⟨F45, N45⟩ := iter_end F42 N43 (by
          intro q hq
          rcases List.mem_cons.mp hq with rfl | hq
          · exact off35 _ (.head _)
          rcases List.mem_cons.mp hq with rfl | hq
          · exact off35 _ (.tail _ (k9 _ (.head _)))
          rcases List.mem_cons.mp hq with rfl | hq
          · exact off35 _ (.tail _ (k9 _ (.tail _ (.head _))))
          rcases List.mem_cons.mp hq with rfl | hq
          · exact off35 (C.LA, W.listOf as4 za4) (.tail _ (k9 _ (.tail _ (.tail _ (.head _)))))
          rcases List.mem_cons.mp hq with rfl | hq
          · exact hSI
          exact off35 _ (.tail _ (k9 _ (.tail _ (.tail _ (.tail _ (.tail _ hq))))))) he44
        dsimp only
        refine seg_block_end ?_
        dsimp only
        refine seg_execs_nil ?_
        refine seg_returns ?_
        exact ⟨rfl, .inr ⟨rfl, as4, za4, _, oS2, hS2, hI4, F45, fun q hq => N45 q (.tail _ hq)⟩⟩
      · simp only [List.map_cons] at N33
        have hp1 := (hsb p1 (.head _)).2
        have hp2 := (hsb p2 (.tail _ (.head _))).2
        have hne : p2.2 ≠ p1.2 := by
          intro z
          have z1 := hkv p1 (.head _)
          have z2 := hkv p2 (.tail _ (.head _))
          rw [z, z1] at z2
          simp [z2] at hnd
        have hc7 : ∀ v, v < 12 → ∃ d, (C.X v, instObj 556 d) ∈ LED := fun v hv => by
          obtain ⟨d, _, _, _, _, _, _, _, _, _, _, _, _, _, _, _, _, _, _, _, _, _, y1, -⟩ := (CO.net v hv).mono hG
          exact ⟨d, k7 _ y1⟩
        obtain ⟨dx, fx, u1, u2, u3, u4, k1, k2, k3, k4, k5, pm, ctv, a1, a2, a3, a4, o1, o2, o3, o4, tv, x1, x2, x3, -⟩ := (CO.net p2.2 hp2).mono hG
        obtain ⟨dy, fy, u1', u2', u3', u4', k1', k2', k3', k4', k5', pm', ctv', a1', a2', a3', a4', o1', o2', o3', o4', tv', y1, y2, y3, -⟩ := (CO.net p1.2 hp1).mono hG
        have hml : more.length ≤ 300 := by simp only [List.length_cons] at hz1; omega
        refine' sort_raise (K := hd.heap_39 w.params) (C := 556) (flt := 340) (a := C.X p2.2) (base := base) (cls := .type "TypeError") (oa := instObj 556 dx) (od := some (netD w.params (p2.2 : Int) u1 u2 u3 u4 k1 k2 k3 k4 k5 fx)) ?ru F32 N33 off32 ?rz X' ?rc ?rI ?rs ?rf ?rl ?re
        case ru => ktr_units
        case rs => k_is
        case rf => k_is
        case rz => rw [List.length_map]; omega
        case rc =>
          intro v hv
          have hh : ∃ q ∈ p1 :: p2 :: more, v = Value.ref (C.X q.2) := by
            have : v ∈ (p1 :: p2 :: more).map (fun p => Value.ref (C.X p.2)) := hv
            obtain ⟨q, hq, e⟩ := List.mem_map.mp this
            exact ⟨q, hq, e.symm⟩
          obtain ⟨q, hq, rfl⟩ := hh
          obtain ⟨d, hd⟩ := hc7 q.2 (hsb q hq).2
          exact ⟨_, _, rfl, hd, rfl⟩
        case rI => exact fun h hh => ⟨hh _ (k7 _ x1), rfl, rfl, hh _ (k7 _ x2)⟩
        case rl =>
          intro e1 s E F N k
          exact lt_spec w B' F X' (add_two (add_two N (.tail _ (k7 _ y1)) (.tail _ (k7 _ y2))) (.tail _ (.tail _ (.tail _ (k7 _ x1)))) (.tail _ (.tail _ (.tail _ (k7 _ x2))))) T' (by rfl) (by rfl) (by omega) (by omega) (by omega) (by omega) (by omega) (by ktr_room) (by ktr_units) fun ex h' tk' R => k ex h' tk' (raised_mono R fun q hq => .tail _ (.tail _ (.tail _ (.tail _ hq))))
        case re =>
          intro ex h' tk' R
          obtain ⟨G, FG, RS, hU, _⟩ := R
          refine seg_raises ?_
          refine leave_onSN (A := atN dp un gd env outer) (g := g') ⟨rfl, B'.stays, B'.frames⟩ FG RS hU fun h9 R9 _ U9 => ?_
          refine ⟨rfl, rfl, by simp, ex, as4, za4, rfl, hI4, raised_mono ⟨g', FG', R9, U9, fun b hb => ?_⟩ (by rw [← hR2]; exact k8)⟩
          obtain ⟨_, o, ho, _⟩ := B'.frames.mem hb
          exact ⟨o, ho⟩
    · have hb : (!(refs C.X (p ++ [v])).toArray.isEmpty) = true := by simp
      simp only [List.concat_eq_append] at *
      rw [hb]
      dsimp only [WhlIf]
      w_strict k_steps
      unfold Stop
      have er : refs C.X (p ++ [v]) = refs C.X p ++ [Value.ref (C.X v)] := by simp [refs]
      rw [er] at N4
      have hv : v < 12 := htd v (by simp)
      have hp12 : ∀ u ∈ p, u < 12 := fun u hu => htd u (by simp [hu])
      have hpl : p.length + 1 ≤ 150 := by simp at hz1; omega
      refine pop_at (p := refs C.X p) (y := .ref (C.X v)) F4 N4 (.tail (Nat.ne_of_gt hTS) (.head (off2 _ _))) (by rw [List.length_map]; omega) fun h6 F6 N6 => ?_
      clear F4 N4
      obtain ⟨d, f, u1, u2, u3, u4, k1, k2, k3, k4, k5, pm, ctv, a1, a2, a3, a4, o1, o2, o3, o4, tv, i1, i2, i3, ⟨i4, g4⟩, ⟨i5, g5⟩, ⟨i6, g6⟩, i7, g7⟩ := (CO.net v hv).mono hG
      have N7 : News g' L' h6 ((f, lamO pm C.c' ctv a1 a2 a3 a4) :: (C.X v, instObj 556 d) :: (d, netD w.params (v : Int) u1 u2 u3 u4 k1 k2 k3 k4 k5 f) :: (SN, dictOf (ents C.ha (pairs C.X sub)) zs4) :: (TM, W.listOf (refs C.X p).toArray (zt4 + 1)) :: (D, W.listOf (refs C.X row).toArray zr) :: C.led as4 za4 rest2) := by
        refine N6.perm fun q hq => ?_
        have k : ∀ q ∈ rest2, q ∈ (SN, dictOf (ents C.ha (pairs C.X sub)) zs4) :: (TM, W.listOf (refs C.X p).toArray (zt4 + 1)) :: (D, W.listOf (refs C.X row).toArray zr) :: C.led as4 za4 rest2 := fun q hq => .tail _ (.tail _ (.tail _ (.tail _ (.tail _ (.tail _ hq)))))
        rcases List.mem_cons.mp hq with rfl | hq
        · exact k _ i3
        rcases List.mem_cons.mp hq with rfl | hq
        · exact k _ i1
        rcases List.mem_cons.mp hq with rfl | hq
        · exact k _ i2
        exact hq
      clear N6
      w_strict k_steps
      unfold Stop
      rename Fr g' L' _ _ => F7
      rename News g' L' _ _ => N8
      dsimp only
      refine callWith_F0 (FnAt.of N8 (.head _)) ?_
      dsimp only [List.nil_append]
      have N9 : News g' L' _ (C.led as4 za4 ((SN, dictOf (ents C.ha (pairs C.X sub)) zs4) :: (TM, W.listOf (refs C.X p).toArray (zt4 + 1)) :: (D, W.listOf (refs C.X row).toArray zr) :: rest2)) := N8.perm led_in
      clear N8
      obtain ⟨th, hh⟩ := CO.hs v hv
      have hlt := CO.lt v hv
      have off3 : ∀ p_1 ∈ (SN, dictOf (ents C.ha (pairs C.X sub)) zs4) :: (TM, W.listOf (refs C.X p).toArray (zt4 + 1)) :: (D, W.listOf (refs C.X row).toArray zr) :: rest2, p_1.1 ≠ C.LA := by
        simp only [List.forall_mem_cons]
        exact ⟨hSA, hTA, hDA, hoff⟩
      have up : ∀ q ∈ rest2, q ∈ (SN, dictOf (ents C.ha (pairs C.X sub)) zs4) :: (TM, W.listOf (refs C.X p).toArray (zt4 + 1)) :: (D, W.listOf (refs C.X row).toArray zr) :: rest2 := fun q hq => .tail _ (.tail _ (.tail _ hq))
      have hz5 : as4.size = asked4.length := by
        have := IntsAre.length hI4
        simpa using this
      refine sup_spec w (n := (v : Int)) (hv := C.hsF v) B' F7 X' N9 T' (by rfl) (by rfl) (by omega) (by omega) (CO.code.mono fun q hq => up _ (hG q hq)) (up _ i3) (up _ i4) (up _ i5) (up _ i6) (up _ i7) g4 g5 g6 g7 (by rw [Int.toNat_natCast]; exact hh) hlt (CO.xs _ hlt) (by rw [hz5, sizeLine_eq]; omega) off3 CO.na CO.nha ?dp ?un ?rS
      case dp => ktr_room
      case un => ktr_units
      intro h10 tk10 za10 F10 N10
      clear F7 N9 off3 up
      dsimp only

      w_strict k_steps
      unfold Stop
      rename Fr g' L' _ _ => F11
      rename News g' L' _ _ => N11
      generalize hu9 : C.hsF v = u at *
      obtain ⟨d', f', u1', u2', u3', u4', k1', k2', k3', k4', k5', pm', ctv', a1', a2', a3', a4', o1', o2', o3', o4', tv', i1', i2', i3', -⟩ := (CO.net u hlt).mono hG
      have N12 := N11.perm (led_out (r := rest2))
      clear N11
      refine getMethod_builtin ⟨_, (N12 _ (.head _)).1, rfl⟩ PySem.F.plainAttrs_dict PySem.F.slot_dict_get PySem.F.type_dict_get (fun a e => by cases e; exact ⟨_, (N12 _ (.head _)).1, rfl⟩) ?_
      w_strict k_steps
      unfold Stop
      dsimp only [List.cons_append, List.nil_append]
      have k6 : ∀ q ∈ rest2, q ∈ (SN, dictOf (ents C.ha (pairs C.X sub)) zs4) :: (TM, W.listOf (refs C.X p).toArray (zt4 + 1)) :: (D, W.listOf (refs C.X row).toArray zr) :: (C.LN, W.listOf C.xs C.zn) :: (C.LH, W.listOf C.hs C.zh) :: (C.LA, W.listOf (as4.push (.int (v : Int) tv)) za10) :: rest2 := fun q hq => .tail _ (.tail _ (.tail _ (.tail _ (.tail _ (.tail _ hq)))))
      have N13 := add_two N12 (k6 _ i1') (k6 _ i2')
      clear N12
      have hH : ∀ q ∈ pairs C.X sub, C.ha q.1 = C.ha (C.X u) → q.1 = C.X u := by
        intro q hq e
        obtain ⟨z, hz, rfl⟩ := List.mem_map.mp hq
        have hz1 := (hsb z hz).1
        have e' : hp (z.1 : Int) 0 = hp (u : Int) 0 := by rw [← CO.hash z.1 hz1, ← CO.hash u hlt]; exact e
        show C.X z.1 = C.X u
        rw [hp_inj _ _ hz1 hlt e']
      have hr : -2 ^ 63 ≤ C.ha (C.X u) ∧ C.ha (C.X u) < 2 ^ 63 ∧ C.ha (C.X u) ≠ -1 := by rw [CO.hash u hlt]; exact hp_ok u hlt
      have hnp := pairs_nodup CO.inj hsb hnd
      refine get_ref (H := C.ha) (K := hd.heap_39 w.params) (C := 556) (f := 354) (k := C.X u) ?hu F11 N13 X' (InstAt.of_news N13 (.head _) (.tail _ (.head _))) ?hs ?hf hr ?hc (.tail _ (.tail _ (.head _))) (by assumption) hnp hH ?hk
      case hu => ktr_units
      case hs => k_is
      case hf => k_is
      case hc =>
        intro s Q E F N k
        rw [CO.hash u hlt] at k
        exact hash_spec w B' F X' N T' (by rfl) (by rfl) (by omega) (by omega) (by ktr_room) (by ktr_units) (fun h' tk' t' F' N' => k h' tk' t' F' N')
      intro h14 tk14 F14 N14
      clear F11 N13
      rw [pairs_lookup CO.inj hlt hsb]
      dsimp only
      cases hsl : sub.lookup u with
      | none =>
        simp only [Option.map_none, Option.getD_none]
        w_strict k_steps
        unfold Stop
        rename Fr g' L' _ _ => F15
        rename News g' L' _ _ => N15
        refine set_ref (H := C.ha) (K := hd.heap_39 w.params) (C := 556) (f := 354) (k := C.X u) ?shu F15 (drop_two N15) (off1 _ _ _) X' (InstAt.of_news N15 (.head _) (.tail _ (.head _))) ?shs ?shf hr ?shc hnp hH ?shz (pairs_notin CO.inj hlt hsb hsl) ?shk
        case shu => ktr_units
        case shs => k_is
        case shf => k_is
        case shz => rw [List.length_map]; omega
        case shc =>
          intro s Q E F N k
          rw [CO.hash u hlt] at k
          exact hash_spec w B' F X' (add_two N (k6 _ i1') (k6 _ i2')) T' (by rfl) (by rfl) (by omega) (by omega) (by ktr_room) (by ktr_units) (fun h' tk' t' F' N' => k h' tk' t' F' (drop_two N'))
        intro h16 tk16 F16 N16
        clear F15 N15
        rw [show pairs C.X sub ++ [(C.X u, Value.ref (C.X v))] = pairs C.X (sub ++ [(u, v)]) by simp [pairs]] at N16
        w_strict k_steps
        unfold Stop
        rename Fr g' L' _ _ => F17
        rw [mf_turn] at F17
        have hst := cstep_none (p := p) (a := asked4) hu9 hsl
        have hnil : (CSt.mk (p ++ [v]) sub asked4).todo ≠ [] := by simp
        have hless := cstep_less (hs := C.hsF) hnil
        rw [hst] at hless
        refine ⟨_, hless, ⟨p, sub ++ [(u, v)], asked4 ++ [v]⟩, _, _, _, _, _, _, _, _, _, rfl, rfl, ?_, F17, N16, ?_, hp12, ?_, ?_, ?_, ?_⟩
        · rw [← hst, cfin_step hnil]; exact hfin
        · simpa using intsAre_push hI4
        · intro q hq
          rcases List.mem_append.mp hq with hq | hq
          · exact hsb q hq
          · rw [List.mem_singleton.mp hq]; exact ⟨hlt, hv⟩
        · simp only [List.map_append, List.map_cons, List.map_nil]
          refine List.nodup_append.mpr ⟨hnd, by simp, ?_⟩
          intro x hx y hy
          rw [List.mem_singleton.mp hy]
          rintro rfl
          obtain ⟨q, hq, hq1⟩ := List.mem_map.mp hx
          have := List.lookup_eq_none_iff.mp hsl q hq
          simp [hq1] at this
        · simp only [csize, List.length_append, List.length_singleton] at hl4 ⊢; omega
        · intro q hq
          rcases List.mem_append.mp hq with hq | hq
          · exact hkv q hq
          · rw [List.mem_singleton.mp hq]; exact hu9
      | some e =>
        simp only [Option.map_some, Option.getD_some]
        have he : e < 12 := (hsb _ (lookup_mem hsl)).2
        w_strict k_steps
        unfold Stop
        rename Fr g' L' _ _ => F18
        rename News g' L' _ _ => N18
        obtain ⟨de, fe, v1, v2, v3, v4, l1, l2, l3, l4, l5, pe, ce, b1, b2, b3, b4, q1, q2, q3, q4, te, j1, j2, j3, -⟩ := (CO.net e he).mono hG
        have N19 := add_two (add_two (drop_two N18) (k6 _ i1) (k6 _ i2)) (.tail _ (.tail _ (k6 _ j1))) (.tail _ (.tail _ (k6 _ j2)))
        refine cmp_ofNotEq (ne_ref (K := hd.heap_39 w.params) (C := 556) (f := 347) ?eu F18 X' (InstAt.of_news N19 (.head _) (.tail _ (.head _))) (InstAt.type (InstAt.of_news N19 (.tail _ (.tail _ (.head _))) (.tail _ (.tail _ (.tail _ (.head _)))))) ?en ?es ?ee ?ef ?eq)
        case eu => ktr_units
        case en => k_is
        case es => k_is
        case ee => k_is
        case ef => k_is
        refine eq_spec w B' F18 X' N19 T' (by rfl) (by rfl) (by ktr_room) (by ktr_units) fun h20 tk20 F20 N20 => ⟨_, rfl, ?_⟩
        clear F18 N18 N19
        replace N20 := drop_two (drop_two N20)
        by_cases hev : e = v
        · rw [show (!decide ((e : Int) = (v : Int))) = false by simp [hev]]
          w_strict k_steps
          unfold Stop
          rename Fr g' L' _ _ => F17
          rw [mf_turn] at F17
          have hst := cstep_same (p := p) (a := asked4) hu9 (hev ▸ hsl)
          have hnil : (CSt.mk (p ++ [v]) sub asked4).todo ≠ [] := by simp
          have hless := cstep_less (hs := C.hsF) hnil
          rw [hst] at hless
          refine ⟨_, hless, ⟨p, sub, asked4 ++ [v]⟩, _, _, _, _, _, _, _, _, _, rfl, rfl, ?_, F17, N20, ?_, hp12, hsb, hnd, ?_, hkv⟩
          · rw [← hst, cfin_step hnil]; exact hfin
          · simpa using intsAre_push hI4
          · simp only [csize, List.length_append, List.length_singleton] at hl4 ⊢; omega
        · rw [show (!decide ((e : Int) = (v : Int))) = true by simp; omega]
          w_strict k_steps
          unfold Stop
          rename Fr g' L' _ _ => F21
          rename News g' L' _ _ => N21
          refine del_ref (H := C.ha) (K := hd.heap_39 w.params) (C := 556) (f := 354) (k := C.X u) (u := .ref (C.X e)) ?du F21 N21 (off1 _ _ _) X' (InstAt.of_news (add_two N21 (k6 _ i1') (k6 _ i2')) (.head _) (.tail _ (.head _))) ?ds ?df hr ?dc hnp hH ?dz ?dl ?dk
          case du => ktr_units
          case ds => k_is
          case df => k_is
          case dz => rw [List.length_map]; omega
          case dl => rw [pairs_lookup CO.inj hlt hsb, hsl]; rfl
          case dc =>
            intro s Q E F N k
            rw [CO.hash u hlt] at k
            exact hash_spec w B' F X' (add_two N (k6 _ i1') (k6 _ i2')) T' (by rfl) (by rfl) (by omega) (by omega) (by ktr_room) (by ktr_units) (fun h' tk' t' F' N' => k h' tk' t' F' (drop_two N'))
          intro h22 tk22 F22 N22
          clear F21 N21
          rw [pairs_filter CO.inj hlt hsb] at N22
          w_strict k_steps
          unfold Stop
          dsimp only [List.cons_append, List.nil_append]
          refine append_K F22 N22 (.tail (Nat.ne_of_gt hTS) (.head (off2 _ _))) ?ak ?az
          case az => rw [List.size_toArray, List.length_map, sizeLine_eq]; omega
          intro h24 F24 N24
          rw [show (refs C.X p).toArray.push (Value.ref (C.X u)) = (refs C.X (p ++ [u])).toArray by simp [refs]] at N24
          w_strict k_steps
          unfold Stop
          rename Fr g' L' _ _ => F17
          rw [mf_turn] at F17
          have hst := cstep_other (p := p) (a := asked4) hu9 hsl hev
          have hnil : (CSt.mk (p ++ [v]) sub asked4).todo ≠ [] := by simp
          have hless := cstep_less (hs := C.hsF) hnil
          rw [hst] at hless
          refine ⟨_, hless, ⟨p ++ [u], sub.filter (fun q => q.1 != u), asked4 ++ [v]⟩, _, _, _, _, _, _, _, _, _, rfl, rfl, ?_, F17, N24, ?_, ?_, ?_, ?_, ?_, fun q hq => hkv q (List.mem_filter.mp hq).1⟩
          · rw [← hst, cfin_step hnil]; exact hfin
          · simpa using intsAre_push hI4
          · intro q hq
            rcases List.mem_append.mp hq with hq | hq
            · exact hp12 q hq
            · rw [List.mem_singleton.mp hq]; exact hlt
          · exact fun q hq => hsb q (List.mem_filter.mp hq).1
          · exact hnd.sublist (List.Sublist.map _ List.filter_sublist)
          · have := lookup_len hsl
            simp only [csize, List.length_append, List.length_singleton] at hl4 ⊢; omega
end Mine
end
section
open PySem PySem.W PyProof.Rows
local macro_rules | `(tactic| k_room) => `(tactic| ktr_room)
local macro_rules | `(tactic| k_units) => `(tactic| ktr_units)
namespace Mine
theorem back_news {h₀ g h : Heap} {L L' : Addr} {m m' : Str → Option Value} {news : List (Addr × Obj)} (FG : Fr h₀ L g m) (F : Fr g L' h m') (N : News g L' h news) : Fr h₀ L h m ∧ News h₀ L h news := by
  obtain ⟨oL, es, ep, hL, r⟩ := FG.ns
  refine ⟨⟨⟨oL, es, ep, F.keep _ _ hL, r⟩, fun b o e => F.keep b o (FG.keep b o e), FG.above⟩, fun p hp => ⟨(N p hp).1, fun q => ?_, ?_⟩⟩
  · have := (N p hp).2.2; rw [q, hL] at this; cases this
  · cases q : h₀.get? p.1 with
    | none => rfl
    | some o => have := (N p hp).2.2; rw [FG.keep _ _ q] at this; cases this
set_option maxRecDepth 100000 in
set_option maxHeartbeats 4000000 in
theorem list_spec (w : World) (C : Cfg) {mean : ExcName → Option Value} {mg mb : Str → Option Value} {D ga : Addr} {gi : Nat} {dp un : Nat} {gd : Option (List Code)} {env : Env} {outer : List Env} {base h₀ g : Heap} {L L' : Addr} {m m0 : Str → Option Value}
    {row asked : List Nat} {zr za : Nat} {as : Array Value} {rest : List (Addr × Obj)} {s : Shared} {Q E : Value → Shared → Prop} {loose : List Str} {pgm : Program} {code : Code} {t1 t2 : Tok} {nm qn : Str}
    (FG : Fr h₀ L g m) (F : Fr g L' s.heap m0) (T : Top pgm loose mean mg mb g) (N : News g L' s.heap ((D, W.listOf (refs C.X row).toArray zr) :: C.led as za ((ga, genO gi nm qn t1 t2) :: rest)))
    (G : GenSeg C w base h₀ g L L' m m0 env outer D row zr code) (hgs : s.gens[gi]? = some (.fresh code))
    (hG : ∀ p ∈ C.G, p ∈ rest) (hoff : ∀ p ∈ (ga, genO gi nm qn t1 t2) :: rest, p.1 ≠ C.LA) (hDA : @Ne Nat D C.LA) (hI : IntsAre as.toList (asked.map Int.ofNat)) (hal : asked.length ≤ 100)
    (hdp : dp + 100 < recursionLimit) (hu : un + 4000 < cLine)
    (one : ∀ k y S h' tk' as' za' c, (cfin C.hsF ⟨row, [], asked⟩).sub = [(k, y)] → Fr h₀ L h' m → News h₀ L h' ((S, W.listOf #[.ref (C.X y)] c) :: C.led as' za' rest) → IntsAre as'.toList ((cfin C.hsF ⟨row, [], asked⟩).asked.map Int.ofNat) →
      Q (.ref S) { s.setGen gi .finished with heap := h', toks := tk' })
    (no : ∀ S h' tk' as' za' c, (cfin C.hsF ⟨row, [], asked⟩).sub = [] → Fr h₀ L h' m → News h₀ L h' ((S, W.listOf #[] c) :: C.led as' za' rest) → IntsAre as'.toList ((cfin C.hsF ⟨row, [], asked⟩).asked.map Int.ofNat) →
      Q (.ref S) { s.setGen gi .finished with heap := h', toks := tk' })
    (err : ∀ ex h' tk' as' za', 2 ≤ (cfin C.hsF ⟨row, [], asked⟩).sub.length → RaisedAt base h₀ L m (env :: outer) ex (.type "TypeError") (C.led as' za' rest) h' → IntsAre as'.toList ((cfin C.hsF ⟨row, [], asked⟩).asked.map Int.ofNat) →
      E (.ref ex) { s.setGen gi .finished with heap := h', toks := tk' }) :
    wpAny (model P9 w) (atN dp un gd env outer) (call (.type "list") [.ref ga]) Q E s := by
  have hga := N (ga, genO gi nm qn t1 t2) (.tail _ (.tail _ (.tail _ (.tail _ (.head _)))))
  have isg : ∀ h' : Heap, (h'.get? ga = some (genO gi nm qn t1 t2)) → h'.IsGen ga gi := fun h' e => ⟨_, _, _, e, rfl, rfl, rfl⟩
  refine list_gen (gi := gi) (isg _ hga.1) fun h1 c1 hk hS hz => ?_
  have hlt : ∀ q ∈ (D, W.listOf (refs C.X row).toArray zr) :: C.led as za ((ga, genO gi nm qn t1 t2) :: rest), q.1 ≠ s.heap.objs.size := fun q hq => Nat.ne_of_lt (Heap.lt_size (N q hq).1)
  have hnS := Nat.le_of_lt F.ns.lt
  generalize hSz : s.heap.objs.size = S at *
  have F1 : Fr g L' h1 m0 := F.keeps hk
  have hSn : g.get? S = none := Heap.get?_none_of_le (Nat.le_trans F.above (by rw [← hSz]; exact Nat.le_of_lt F.ns.lt))
  have hSL : S ≠ L' := by rw [← hSz]; exact Nat.ne_of_gt F.ns.lt
  have N1 : News g L' h1 ((S, W.listOf #[] c1) :: (D, W.listOf (refs C.X row).toArray zr) :: C.led as za ((ga, genO gi nm qn t1 t2) :: rest)) := fun p hp => by
    rcases List.mem_cons.mp hp with rfl | hp
    · exact ⟨hS, hSL, hSn⟩
    · exact ⟨hk _ _ (N p hp).1, (N p hp).2⟩
  refine loop_turn ?_
  refine next_gen (g := gi) (gs := .fresh code) (R := RG C base h₀ g L L' m (env :: outer) (cfin C.hsF ⟨row, [], asked⟩) S (W.listOf #[] c1) ((ga, genO gi nm qn t1 t2) :: rest)) (Y := YG C g L' (cfin C.hsF ⟨row, [], asked⟩) S (W.listOf #[] c1) ((ga, genO gi nm qn t1 t2) :: rest)) (n := 1) rfl (T.nolimit.keeps F1.keep) (by ktr_room) (isg _ (hk _ _ hga.1)) hgs ⟨rfl, ?seg⟩ ?hY ?hR
  have hSm : ∀ (as : Array Value) (za : Nat), ∀ p ∈ C.led as za ((ga, genO gi nm qn t1 t2) :: rest), p.1 ≠ S := by
    intro as' za' p hp
    rcases List.mem_cons.mp hp with rfl | hp
    · exact hlt _ (.tail _ (.head _))
    rcases List.mem_cons.mp hp with rfl | hp
    · exact hlt _ (.tail _ (.tail _ (.head _)))
    rcases List.mem_cons.mp hp with rfl | hp
    · exact hlt (C.LA, W.listOf as za) (.tail _ (.tail _ (.tail _ (.head _))))
    exact hlt _ (.tail _ (.tail _ (.tail _ (.tail _ hp))))
  case seg =>
    refine G dp (un + 3) gd _ S _ _ as za asked (by omega) (by omega) F1 (N1.perm fun q hq => ?_) (fun q hq => .tail _ (hG q hq)) ?_ hDA hSm hI hal
    · rcases List.mem_cons.mp hq with rfl | hq
      · exact .tail _ (.head _)
      rcases List.mem_cons.mp hq with rfl | hq
      · exact .tail _ (.tail _ (.head _))
      rcases List.mem_cons.mp hq with rfl | hq
      · exact .tail _ (.tail _ (.tail _ (.head _)))
      rcases List.mem_cons.mp hq with rfl | hq
      · exact .tail _ (.tail _ (.tail _ (.tail _ (.head _))))
      rcases List.mem_cons.mp hq with rfl | hq
      · exact .head _
      exact .tail _ (.tail _ (.tail _ (.tail _ (.tail _ hq))))
    · intro q hq
      rcases List.mem_cons.mp hq with rfl | hq
      · exact fun z => hSm as za (C.LA, W.listOf as za) (.tail _ (.tail _ (.head _))) z.symm
      · exact hoff q hq
  case hY =>
    intro v s₁ gs' hy
    obtain ⟨_, es, k, y, as', za', m', hsub, rfl, hi, F', N', hgo⟩ := hy
    have hgl : gi < s.gens.size := by
      rcases Nat.lt_or_ge gi s.gens.size with q | q
      · exact q
      · rw [Array.getElem?_eq_none q] at hgs; cases hgs
    have ge1 : s₁.gens = (s.setGen gi .running).gens := by rw [es]; rfl
    have hSm' := N' (S, W.listOf #[] c1) (.tail _ (.tail _ (.tail _ (.head _))))
    have hgm' := N' (ga, genO gi nm qn t1 t2) (.tail _ (.tail _ (.tail _ (.tail _ (.head _)))))
    refine ⟨#[], c1, hSm'.1, by simp, fun h2 hS2 hk2 hz2 => ?_⟩
    have hgaS : ga ≠ S := hlt (ga, genO gi nm qn t1 t2) (.tail _ (.tail _ (.tail _ (.tail _ (.head _)))))
    have F2 : Fr g L' h2 m' := fr_but F' hSL hSn hk2
    refine loop_turn ?_
    refine next_gen (g := gi) (gs := gs') (R := RG C base h₀ g L L' m (env :: outer) (cfin C.hsF ⟨row, [], asked⟩) S (W.listOf #[] c1) ((ga, genO gi nm qn t1 t2) :: rest)) (Y := YG C g L' (cfin C.hsF ⟨row, [], asked⟩) S (W.listOf #[] c1) ((ga, genO gi nm qn t1 t2) :: rest)) (n := 0) rfl (T.nolimit.keeps F2.keep) (by ktr_room) (isg _ (hk2 _ _ hgaS hgm'.1)) ?gs (hgo _ _ hS2 hk2) ?hY2 ?hR2
    case gs =>
      show (s₁.setGen gi gs').gens[gi]? = some gs'
      simp [Shared.setGen, ge1, hgl]
    case hY2 =>
      intro v s₂ gs2 hy
      obtain ⟨_, _, _, _, _, _, _, _, _, _, _, N2, hno⟩ := hy
      exact (hno s₂ _ (N2 (S, W.listOf #[] c1) (.tail _ (.tail _ (.tail _ (.head _))))).1 fun _ _ _ e => e).elim
    case hR2 =>
      intro r s₂ hr
      obtain ⟨es2, hr⟩ := hr
      have eq2 : ∀ (x : GenState), s₂.setGen gi x = { s.setGen gi x with heap := s₂.heap, toks := s₂.toks } := fun x => by
        rw [es2]
        show Shared.mk _ _ _ _ _ = _
        rw [es]
        simp [Shared.setGen]
      match r, hr with
      | .error e, ⟨h1, _⟩ => cases h1
      | .ok (.ret .none), .inl ⟨h1, _⟩ => cases h1
      | .ok (.ret .none), .inr ⟨_, as2, za2, m2, oS2, hSo, hi2, F3, N3⟩ =>
        intro h' hk'
        have eS : oS2 = W.listOf #[Value.ref (C.X y)] (c1 + 1) := Option.some.inj (hSo.symm.trans hS2)
        subst eS
        obtain ⟨F4, N4⟩ := back_news FG F3 N3
        have N5 : News h₀ L h' ((S, W.listOf #[Value.ref (C.X y)] (c1 + 1)) :: C.led as2 za2 rest) := fun q hq => by
          have z : q ∈ C.led as2 za2 ((S, W.listOf #[Value.ref (C.X y)] (c1 + 1)) :: (ga, genO gi nm qn t1 t2) :: rest) := by
            rcases List.mem_cons.mp hq with rfl | hq
            · exact .tail _ (.tail _ (.tail _ (.head _)))
            rcases List.mem_cons.mp hq with rfl | hq
            · exact .head _
            rcases List.mem_cons.mp hq with rfl | hq
            · exact .tail _ (.head _)
            rcases List.mem_cons.mp hq with rfl | hq
            · exact .tail _ (.tail _ (.head _))
            exact .tail _ (.tail _ (.tail _ (.tail _ (.tail _ hq))))
          exact ⟨hk' _ _ (N4 _ z).1, (N4 _ z).2⟩
        have key := one k y S h' s₂.toks as2 za2 (c1 + 1) hsub (F4.keeps hk') N5 hi2
        rw [eq2]
        exact ⟨rfl, key⟩
  case hR =>
    intro r s₁ hr
    obtain ⟨es, hr⟩ := hr
    have eq1 : ∀ (x : GenState), s₁.setGen gi x = { s.setGen gi x with heap := s₁.heap, toks := s₁.toks } := fun x => by
      rw [es]
      simp [Shared.setGen]
    match r, hr with
    | .error e, ⟨_, h2, ex, as', za', he', hi, R⟩ =>
      subst he'
      have hR2 := R
      obtain ⟨Gh, FGh, ⟨Bh, a0, hB, hBG, hl, hfl⟩, hu2, hf2⟩ := R
      have f1 := hfl.1
      obtain ⟨oe, he, hc⟩ := hfl.there
      refine ⟨isg _ (f1 _ _ (hl (ga, genO gi nm qn t1 t2) (.tail _ (.tail _ (.tail _ (.tail _ (.head _)))))).1), ⟨"TypeError", ⟨_, he, hc⟩, by rw [isSubtype_type]; kernel_rfl⟩, ?_⟩
      have key := err ex s₁.heap s₁.toks as' za' h2 (raised_mono hR2 fun q hq => ?_) hi
      · rw [eq1]
        exact key
      · rcases List.mem_cons.mp hq with rfl | hq
        · exact .head _
        rcases List.mem_cons.mp hq with rfl | hq
        · exact .tail _ (.head _)
        rcases List.mem_cons.mp hq with rfl | hq
        · exact .tail _ (.tail _ (.head _))
        exact .tail _ (.tail _ (.tail _ (.tail _ (.tail _ hq))))
    | .ok (.ret .none), .inl ⟨_, h0, as', za', m', hi, F', N'⟩ =>
      intro h' hk'
      obtain ⟨F2, N2⟩ := back_news FG F' N'
      have N3 : News h₀ L h' ((S, W.listOf #[] c1) :: C.led as' za' rest) := fun q hq => by
        have z : q ∈ C.led as' za' ((S, W.listOf #[] c1) :: (ga, genO gi nm qn t1 t2) :: rest) := by
          rcases List.mem_cons.mp hq with rfl | hq
          · exact .tail _ (.tail _ (.tail _ (.head _)))
          rcases List.mem_cons.mp hq with rfl | hq
          · exact .head _
          rcases List.mem_cons.mp hq with rfl | hq
          · exact .tail _ (.head _)
          rcases List.mem_cons.mp hq with rfl | hq
          · exact .tail _ (.tail _ (.head _))
          exact .tail _ (.tail _ (.tail _ (.tail _ (.tail _ hq))))
        exact ⟨hk' _ _ (N2 _ z).1, (N2 _ z).2⟩
      have key := no S h' s₁.toks as' za' c1 h0 (F2.keeps hk') N3 hi
      rw [eq1]
      exact ⟨rfl, key⟩
    | .ok (.ret .none), .inr ⟨h1, _⟩ => cases h1
end Mine
end
section
namespace Mine
def wbStep (s : Option Nat × Nat) (w : Nat) : Option Nat × Nat := match s.1 with
  | none => (some w, s.2)
  | some x => if x = w then s else (none, s.2 + 1)
def wb (l : List Nat) : Option Nat × Nat := l.foldl wbStep (none, 0)
theorem wb_add (l : List Nat) (w : Nat) : wb (l ++ [w]) = wbStep (wb l) w := by simp [wb]
def toldOf (hs : Nat → Nat) (asked : List Nat) (v : Nat) : List Nat := asked.filter fun w => hs w == v
structure CInv (hs : Nat → Nat) (row : List Nat) (c : CSt) : Prop where
  waits : ∀ v, (wb (toldOf hs c.asked v)).1 = c.sub.lookup v
  count : ∀ v, c.asked.count v + c.todo.count v = row.count v + (wb (toldOf hs c.asked v)).2
theorem toldOf_add {hs : Nat → Nat} {asked : List Nat} {n v : Nat} : toldOf hs (asked ++ [n]) v = if hs n = v then toldOf hs asked v ++ [n] else toldOf hs asked v := by
  unfold toldOf
  rw [List.filter_append]
  by_cases h : hs n = v
  · simp [h]
  · simp [h]
theorem lookup_append {k : Nat} {v : Nat} {l : List (Nat × Nat)} {u : Nat} (h : l.lookup u = none) : (l ++ [(u, v)]).lookup k = if k = u then some v else l.lookup k := by
  induction l with
  | nil =>
    show List.lookup k [(u, v)] = _
    rw [List.lookup_cons]
    by_cases q : k = u
    · simp [q]
    · have : (k == u) = false := by rw [beq_eq_false_iff_ne]; exact q
      simp [this, q]
  | cons p r ih =>
    rw [List.cons_append, List.lookup_cons]
    rw [List.lookup_cons] at h
    cases q : u == p.1 with
    | true => rw [q] at h; simp at h
    | false =>
      rw [q] at h
      rw [ih h, List.lookup_cons]
      cases z : k == p.1 with
      | true =>
        have : k ≠ u := fun e => by rw [← e, z] at q; cases q
        simp [this]
      | false => rfl
theorem lookup_filter {k u : Nat} {l : List (Nat × Nat)} : (l.filter fun p => p.1 != u).lookup k = if k = u then none else l.lookup k := by
  induction l with
  | nil => simp
  | cons p r ih =>
    rw [List.filter_cons, List.lookup_cons]
    by_cases q : p.1 = u
    · have : (p.1 != u) = false := by simp [q]
      rw [this]
      simp only [Bool.false_eq_true, if_false, ih]
      by_cases z : k = u
      · simp [z]
      · have : (k == p.1) = false := by rw [beq_eq_false_iff_ne, q]; exact z
        simp [z, this]
    · have : (p.1 != u) = true := by simp [q]
      rw [this]
      rw [if_pos rfl, List.lookup_cons, ih]
      cases z : k == p.1 with
      | true =>
        have : k ≠ u := fun e => q (by rw [← beq_iff_eq.mp z, e])
        simp [this]
      | false => rfl
theorem cinv_start {hs : Nat → Nat} {row : List Nat} : CInv hs row ⟨row, [], []⟩ := ⟨fun v => rfl, fun v => by simp [toldOf, wb]⟩
theorem cinv_step {hs : Nat → Nat} {row : List Nat} {c : CSt} (I : CInv hs row c) (h : c.todo ≠ []) : CInv hs row (cstep hs c) := by
  obtain ⟨todo, sub, asked⟩ := c
  rcases List.eq_nil_or_concat todo with rfl | ⟨p, n, rfl⟩
  · exact absurd rfl h
  simp only [List.concat_eq_append] at *
  obtain ⟨u, hu⟩ : ∃ u, hs n = u := ⟨_, rfl⟩
  have I1 := I.waits
  have I2 := I.count
  dsimp only at I1 I2
  cases hl : sub.lookup u with
  | none =>
    rw [cstep_none hu hl]
    have hw : (wb (toldOf hs asked u)).1 = none := (I1 u).trans hl
    refine ⟨fun v => ?_, fun v => ?_⟩
    · dsimp only
      rw [toldOf_add, hu, lookup_append hl]
      by_cases q : u = v
      · subst q
        rw [if_pos rfl, if_pos rfl, wb_add]
        simp [wbStep, hw]
      · rw [if_neg q, if_neg (fun e => q e.symm)]
        exact I1 v
    · dsimp only
      rw [toldOf_add, hu]
      have := I2 v
      rw [List.count_append] at this ⊢
      by_cases q : u = v
      · subst q
        rw [if_pos rfl, wb_add]
        simp only [wbStep, hw]
        omega
      · rw [if_neg q]
        omega
  | some e =>
    have hw : (wb (toldOf hs asked u)).1 = some e := (I1 u).trans hl
    by_cases hev : e = n
    · subst hev
      rw [cstep_same hu hl]
      refine ⟨fun v => ?_, fun v => ?_⟩
      · dsimp only
        rw [toldOf_add, hu]
        by_cases q : u = v
        · subst q
          rw [if_pos rfl, wb_add]
          simp [wbStep, hw, hl]
        · rw [if_neg q]
          exact I1 v
      · dsimp only
        rw [toldOf_add, hu]
        have := I2 v
        rw [List.count_append] at this ⊢
        by_cases q : u = v
        · subst q
          rw [if_pos rfl, wb_add]
          simp only [wbStep, hw, if_true]
          omega
        · rw [if_neg q]
          omega
    · rw [cstep_other hu hl hev]
      refine ⟨fun v => ?_, fun v => ?_⟩
      · dsimp only
        rw [toldOf_add, hu, lookup_filter]
        by_cases q : u = v
        · subst q
          rw [if_pos rfl, if_pos rfl, wb_add]
          simp [wbStep, hw, hev]
        · rw [if_neg q, if_neg (fun e => q e.symm)]
          exact I1 v
      · dsimp only
        rw [toldOf_add, hu]
        have := I2 v
        rw [List.count_append] at this ⊢
        rw [List.count_append]
        by_cases q : u = v
        · subst q
          rw [if_pos rfl, wb_add]
          simp only [wbStep, hw, hev, if_false, List.count_singleton_self]
          omega
        · rw [if_neg q]
          have z : List.count v [u] = 0 := by simp [List.count_singleton, q]
          omega
theorem cinv_fin {hs : Nat → Nat} {row : List Nat} : CInv hs row (cfin hs ⟨row, [], []⟩) := by
  have key : ∀ (n : Nat) (c : CSt), CInv hs row c → CInv hs row (cruns hs n c) := by
    intro n
    induction n with
    | zero => exact fun c h => h
    | succ n ih =>
      intro c h
      by_cases q : c.todo = []
      · rw [cruns_nil q]; exact h
      · exact ih _ (cinv_step h q)
  exact key _ _ cinv_start
theorem cfin_todo {hs : Nat → Nat} : ∀ (n : Nat) (c : CSt), csize c ≤ n → (cruns hs n c).todo = [] := by
  intro n
  induction n with
  | zero =>
    intro c h
    cases q : c.todo with
    | nil => exact q
    | cons a r => simp [csize, q] at h
  | succ n ih =>
    intro c h
    by_cases q : c.todo = []
    · rw [cruns_nil q]; exact q
    · have := cstep_less (hs := hs) q
      exact ih _ (by omega)
end Mine
end
section
namespace Mine
theorem wb_zero : ∀ (r : List Nat), (wb r.reverse).2 = 0 → ∀ x ∈ r.reverse, (wb r.reverse).1 = some x
  | [], _, x, hx => by simp at hx
  | a :: r, h, x, hx => by
    rw [List.reverse_cons] at h hx ⊢
    rw [wb_add] at h ⊢
    have ih := wb_zero r
    cases q : (wb r.reverse).1 with
    | none =>
      simp only [wbStep, q] at h ⊢
      have hn : r.reverse = [] := by
        cases z : r.reverse with
        | nil => rfl
        | cons b t =>
          have := ih h b (by rw [z]; exact .head _)
          rw [q] at this; cases this
      rw [hn] at hx
      simp at hx
      rw [hx]
    | some e =>
      by_cases z : e = a
      · subst z
        simp only [wbStep, q, if_true] at h ⊢
        rcases List.mem_append.mp hx with hx | hx
        · rw [← q]; exact ih h x hx
        · simp at hx; rw [hx]
      · simp only [wbStep, q, z, if_false] at h
        omega
def Closed (hs : Nat → Nat) (row : List Nat) (S : Nat → Prop) : Prop := (∀ v ∈ row, S v) ∧ ∀ w w', S w → S w' → w ≠ w' → hs w = hs w' → S (hs w)
theorem asked_closed {hs : Nat → Nat} {row : List Nat} : Closed hs row fun v => v ∈ (cfin hs ⟨row, [], []⟩).asked := by
  have I := cinv_fin (hs := hs) (row := row)
  have ht : (cfin hs ⟨row, [], []⟩).todo = [] := cfin_todo _ _ (Nat.le_refl _)
  have cnt : ∀ v, (cfin hs ⟨row, [], []⟩).asked.count v = row.count v + (wb (toldOf hs (cfin hs ⟨row, [], []⟩).asked v)).2 := fun v => by
    have := I.count v
    rw [ht] at this
    simpa using this
  refine ⟨fun v hv => ?_, fun w w' hw hw' hne he => ?_⟩
  · have h1 := cnt v
    have h2 := List.count_pos_iff.mpr hv
    exact List.count_pos_iff.mp (by omega)
  · have h1 := cnt (hs w)
    refine List.count_pos_iff.mp ?_
    rcases Nat.eq_zero_or_pos (wb (toldOf hs (cfin hs ⟨row, [], []⟩).asked (hs w))).2 with z | z
    · have k := wb_zero (toldOf hs (cfin hs ⟨row, [], []⟩).asked (hs w)).reverse
      rw [List.reverse_reverse] at k
      have a1 := k z w (by simp [toldOf, hw])
      have a2 := k z w' (by simp [toldOf, hw', he])
      rw [a1] at a2
      exact absurd (Option.some.inj a2) hne
    · omega
theorem asked_least {hs : Nat → Nat} {row : List Nat} {S : Nat → Prop} (C : Closed hs row S) : ∀ v ∈ (cfin hs ⟨row, [], []⟩).asked, S v := by
  have step : ∀ c : CSt, (∀ v ∈ c.todo, S v) ∧ (∀ v ∈ c.asked, S v) ∧ (∀ p ∈ c.sub, S p.2 ∧ hs p.2 = p.1) → (∀ v ∈ (cstep hs c).todo, S v) ∧ (∀ v ∈ (cstep hs c).asked, S v) ∧ (∀ p ∈ (cstep hs c).sub, S p.2 ∧ hs p.2 = p.1) := by
    rintro ⟨todo, sub, asked⟩ ⟨h1, h2, h3⟩
    dsimp only at h1 h2 h3
    rcases List.eq_nil_or_concat todo with rfl | ⟨p, n, rfl⟩
    · rw [cstep_nil rfl]; exact ⟨h1, h2, h3⟩
    simp only [List.concat_eq_append] at *
    have hn : S n := h1 n (by simp)
    have hp : ∀ v ∈ p, S v := fun v hv => h1 v (by simp [hv])
    have ha : ∀ v ∈ asked ++ [n], S v := fun v hv => by
      rcases List.mem_append.mp hv with hv | hv
      · exact h2 v hv
      · simp at hv; rw [hv]; exact hn
    cases hl : sub.lookup (hs n) with
    | none =>
      rw [cstep_none rfl hl]
      refine ⟨hp, ha, fun q hq => ?_⟩
      rcases List.mem_append.mp hq with hq | hq
      · exact h3 q hq
      · simp at hq; rw [hq]; exact ⟨hn, rfl⟩
    | some e =>
      by_cases hev : e = n
      · subst hev
        rw [cstep_same rfl hl]
        exact ⟨hp, ha, h3⟩
      · rw [cstep_other rfl hl hev]
        refine ⟨fun v hv => ?_, ha, fun q hq => h3 q (List.mem_filter.mp hq).1⟩
        rcases List.mem_append.mp hv with hv | hv
        · exact hp v hv
        · simp at hv
          rw [hv]
          have m := h3 _ (lookup_mem hl)
          exact C.2 n e hn m.1 (fun z => hev z.symm) m.2.symm
  have key : ∀ (k : Nat) (c : CSt), (∀ v ∈ c.todo, S v) ∧ (∀ v ∈ c.asked, S v) ∧ (∀ p ∈ c.sub, S p.2 ∧ hs p.2 = p.1) → ∀ v ∈ (cruns hs k c).asked, S v := by
    intro k
    induction k with
    | zero => exact fun c h => h.2.1
    | succ k ih => exact fun c h => ih _ (step c h)
  exact key _ _ ⟨C.1, by simp, by simp⟩
end Mine
end
section
namespace Mine
theorem csub_ok {hs : Nat → Nat} {row : List Nat} (hlt : ∀ v, v < 12 → hs v < 12) (hrow : ∀ v ∈ row, v < 12) :
    (∀ p ∈ (cfin hs ⟨row, [], []⟩).sub, p.1 < 12 ∧ p.2 < 12) ∧ ((cfin hs ⟨row, [], []⟩).sub.map (·.1)).Nodup := by
  have step : ∀ c : CSt, (∀ v ∈ c.todo, v < 12) ∧ (∀ p ∈ c.sub, p.1 < 12 ∧ p.2 < 12) ∧ (c.sub.map (·.1)).Nodup → (∀ v ∈ (cstep hs c).todo, v < 12) ∧ (∀ p ∈ (cstep hs c).sub, p.1 < 12 ∧ p.2 < 12) ∧ ((cstep hs c).sub.map (·.1)).Nodup := by
    rintro ⟨todo, sub, asked⟩ ⟨h1, h2, h3⟩
    dsimp only at h1 h2 h3
    rcases List.eq_nil_or_concat todo with rfl | ⟨p, n, rfl⟩
    · rw [cstep_nil rfl]; exact ⟨h1, h2, h3⟩
    simp only [List.concat_eq_append] at *
    have hn : n < 12 := h1 n (by simp)
    have hp : ∀ v ∈ p, v < 12 := fun v hv => h1 v (by simp [hv])
    cases hl : sub.lookup (hs n) with
    | none =>
      rw [cstep_none rfl hl]
      refine ⟨hp, fun q hq => ?_, ?_⟩
      · rcases List.mem_append.mp hq with hq | hq
        · exact h2 q hq
        · simp at hq; rw [hq]; exact ⟨hlt n hn, hn⟩
      · simp only [List.map_append, List.map_cons, List.map_nil]
        refine List.nodup_append.mpr ⟨h3, by simp, ?_⟩
        intro x hx y hy
        rw [List.mem_singleton.mp hy]
        rintro rfl
        obtain ⟨q, hq, hq1⟩ := List.mem_map.mp hx
        have := List.lookup_eq_none_iff.mp hl q hq
        simp [hq1] at this
    | some e =>
      by_cases hev : e = n
      · subst hev
        rw [cstep_same rfl hl]
        exact ⟨hp, h2, h3⟩
      · rw [cstep_other rfl hl hev]
        refine ⟨fun v hv => ?_, fun q hq => h2 q (List.mem_filter.mp hq).1, h3.sublist (List.Sublist.map _ List.filter_sublist)⟩
        rcases List.mem_append.mp hv with hv | hv
        · exact hp v hv
        · simp at hv; rw [hv]; exact hlt n hn
  have key : ∀ (k : Nat) (c : CSt), (∀ v ∈ c.todo, v < 12) ∧ (∀ p ∈ c.sub, p.1 < 12 ∧ p.2 < 12) ∧ (c.sub.map (·.1)).Nodup → (∀ p ∈ (cruns hs k c).sub, p.1 < 12 ∧ p.2 < 12) ∧ ((cruns hs k c).sub.map (·.1)).Nodup := by
    intro k
    induction k with
    | zero => exact fun c h => h.2
    | succ k ih => exact fun c h => ih _ (step c h)
  exact key _ _ ⟨hrow, by simp, .nil⟩
def leftOf (sub : List (Nat × Nat)) (n : Nat) : List Nat := (List.range n).filterMap fun v => sub.lookup v
theorem left_len : ∀ {sub : List (Nat × Nat)} {n : Nat}, (∀ p ∈ sub, p.1 < n) → (sub.map (·.1)).Nodup → (leftOf sub n).length = sub.length ∧ ∀ k y, sub = [(k, y)] → leftOf sub n = [y] := by
  intro sub n h hn
  have e1 : (leftOf sub n).length = ((List.range n).filter fun v => (sub.lookup v).isSome).length := by
    unfold leftOf
    rw [List.length_filterMap_eq_countP, List.countP_eq_length_filter]
  have perm : ((List.range n).filter fun v => (sub.lookup v).isSome).Perm (sub.map (·.1)) := by
    refine (List.perm_ext_iff_of_nodup (List.nodup_range.sublist List.filter_sublist) hn).mpr fun a => ?_
    rw [List.mem_filter, List.mem_range]
    constructor
    · rintro ⟨_, ha⟩
      obtain ⟨e, he⟩ := Option.isSome_iff_exists.mp ha
      exact List.mem_map.mpr ⟨_, lookup_mem he, rfl⟩
    · intro ha
      obtain ⟨p, hp, rfl⟩ := List.mem_map.mp ha
      refine ⟨h p hp, ?_⟩
      cases q : sub.lookup p.1 with
      | some e => rfl
      | none =>
        have := List.lookup_eq_none_iff.mp q p hp
        simp at this
  refine ⟨by rw [e1, perm.length_eq, List.length_map], fun k y e => ?_⟩
  subst e
  have hl : (leftOf [(k, y)] n).length = 1 := by rw [e1, perm.length_eq]; rfl
  obtain ⟨z, hz⟩ := List.length_eq_one_iff.mp hl
  have hm : z ∈ leftOf [(k, y)] n := by rw [hz]; exact .head _
  obtain ⟨v, _, hv⟩ := List.mem_filterMap.mp hm
  have := lookup_mem hv
  simp at this
  rw [hz, this.2]
end Mine
end
section
namespace Mine
def moreOf (hs : Nat → Nat) (fam : List Nat) : List Nat := (List.range 12).filter fun v => !fam.contains v && decide (1 < (fam.filter fun w => hs w == v).length)
theorem two_in {l : List Nat} (hn : l.Nodup) (h : 1 < l.length) : ∃ a b, a ∈ l ∧ b ∈ l ∧ a ≠ b := by
  match l, hn, h with
  | a :: b :: r, hn, _ => exact ⟨a, b, .head _, .tail _ (.head _), fun e => (List.nodup_cons.mp hn).1 (by rw [e]; exact .head _)⟩
theorem more_mem {hs : Nat → Nat} {fam : List Nat} {v : Nat} : v ∈ moreOf hs fam ↔ v < 12 ∧ v ∉ fam ∧ 1 < (fam.filter fun w => hs w == v).length := by
  unfold moreOf
  rw [List.mem_filter, List.mem_range, Bool.and_eq_true]
  simp
theorem more_sub {hs : Nat → Nat} {row fam : List Nat} {S : Nat → Prop} (C : Closed hs row S) (hn : fam.Nodup) (h : ∀ v ∈ fam, S v) : ∀ v ∈ moreOf hs fam, S v := fun v hv => by
  obtain ⟨_, _, h1⟩ := more_mem.mp hv
  obtain ⟨a, b, ha, hb, hab⟩ := two_in (hn.sublist List.filter_sublist) h1
  have a1 := List.mem_filter.mp ha
  have b1 := List.mem_filter.mp hb
  have ea : hs a = v := by simpa using a1.2
  have eb : hs b = v := by simpa using b1.2
  rw [← ea]
  exact C.2 a b (h a a1.1) (h b b1.1) hab (ea.trans eb.symm)
theorem more_nodup {hs : Nat → Nat} {fam : List Nat} (hn : fam.Nodup) : (fam ++ moreOf hs fam).Nodup := by
  refine List.nodup_append.mpr ⟨hn, List.nodup_range.sublist List.filter_sublist, ?_⟩
  rintro a ha b hb rfl
  exact (more_mem.mp hb).2.1 ha
theorem more_end {hs : Nat → Nat} {row fam : List Nat} (hlt : ∀ v, v < 12 → hs v < 12) (h12 : ∀ v ∈ fam, v < 12) (hr : ∀ v ∈ row, v ∈ fam) (h : moreOf hs fam = []) : ∀ v ∈ (cfin hs ⟨row, [], []⟩).asked, v ∈ fam := by
  refine asked_least (S := fun v => v ∈ fam) ⟨hr, fun w w' hw hw' hne he => ?_⟩
  by_cases q : hs w ∈ fam
  · exact q
  have : hs w ∈ moreOf hs fam := more_mem.mpr ⟨hlt w (h12 w hw), q, ?_⟩
  · rw [h] at this; cases this
  · have m1 : w ∈ fam.filter fun z => hs z == hs w := List.mem_filter.mpr ⟨hw, by simp⟩
    have m2 : w' ∈ fam.filter fun z => hs z == hs w := List.mem_filter.mpr ⟨hw', by simp [he]⟩
    rcases hl : fam.filter (fun z => hs z == hs w) with _ | ⟨a, _ | ⟨b, r⟩⟩
    · rw [hl] at m1; cases m1
    · rw [hl] at m1 m2
      exact absurd ((List.mem_singleton.mp m1).trans (List.mem_singleton.mp m2).symm) hne
    · simp
theorem fam_len {fam : List Nat} (hn : fam.Nodup) (h12 : ∀ v ∈ fam, v < 12) : fam.length ≤ 12 := by
  have p : ((List.range 12).filter fun v => fam.contains v).Perm fam := by
    refine (List.perm_ext_iff_of_nodup (List.nodup_range.sublist List.filter_sublist) hn).mpr fun a => ?_
    rw [List.mem_filter, List.mem_range]
    constructor
    · rintro ⟨_, h⟩; simpa using h
    · intro h; exact ⟨h12 a h, by simpa using h⟩
  rw [← p.length_eq]
  exact Nat.le_trans (List.length_filter_le _ _) (by simp)
end Mine
end
section
namespace Mine
theorem cstep_ne {hs : Nat → Nat} {c : CSt} (h : c.todo ≠ [] ∨ c.sub ≠ []) : (cstep hs c).todo ≠ [] ∨ (cstep hs c).sub ≠ [] := by
  unfold cstep
  split
  · exact h
  · rename_i n hn
    split
    · right; simp
    · rename_i e he
      split
      · right
        intro z
        dsimp only at z
        rw [z] at he
        simp at he
      · left; simp
theorem cruns_ne {hs : Nat → Nat} : ∀ (n : Nat) (c : CSt), c.todo ≠ [] ∨ c.sub ≠ [] → (cruns hs n c).todo ≠ [] ∨ (cruns hs n c).sub ≠ []
  | 0, _, h => h
  | n + 1, _, h => cruns_ne n _ (cstep_ne h)
theorem cfin_ne {hs : Nat → Nat} {row : List Nat} (h : row ≠ []) : (cfin hs ⟨row, [], []⟩).sub ≠ [] := by
  rcases cruns_ne (hs := hs) (csize ⟨row, [], []⟩) ⟨row, [], []⟩ (.inl h) with k | k
  · exact absurd (cfin_todo _ _ (Nat.le_refl _)) k
  · exact k
end Mine
end
section
namespace Mine
theorem cstep_asked {hs : Nat → Nat} {c : CSt} : (cstep hs c).asked.length ≤ c.asked.length + 1 := by
  unfold cstep
  split
  · omega
  · split
    · simp
    · split <;> simp
theorem cruns_asked {hs : Nat → Nat} : ∀ (n : Nat) (c : CSt), (cruns hs n c).asked.length ≤ c.asked.length + n
  | 0, _ => Nat.le_refl _
  | n + 1, c => by
    have h1 := cruns_asked (hs := hs) n (cstep hs c)
    have h2 := cstep_asked (hs := hs) (c := c)
    show (cruns hs n (cstep hs c)).asked.length ≤ _
    omega
theorem asked_len {hs : Nat → Nat} {row : List Nat} : (cfin hs ⟨row, [], []⟩).asked.length ≤ 2 * row.length := by
  have := cruns_asked (hs := hs) (csize ⟨row, [], []⟩) ⟨row, [], []⟩
  simpa [cfin, csize] using this
theorem asked_lt {hs : Nat → Nat} {row : List Nat} (hlt : ∀ v, v < 12 → hs v < 12) (hrow : ∀ v ∈ row, v < 12) : ∀ v ∈ (cfin hs ⟨row, [], []⟩).asked, v < 12 :=
  asked_least (S := fun v => v < 12) ⟨hrow, fun w _ hw _ _ _ => hlt w hw⟩
theorem asked_count {hs : Nat → Nat} {row : List Nat} (v : Nat) : (cfin hs ⟨row, [], []⟩).asked.count v = row.count v + (wb (toldOf hs (cfin hs ⟨row, [], []⟩).asked v)).2 := by
  have h := (cinv_fin (hs := hs) (row := row)).count v
  have e : (cfin hs ⟨row, [], []⟩).todo = [] := cfin_todo _ _ (Nat.le_refl _)
  rw [e] at h
  simpa using h
theorem left_snoc {sub : List (Nat × Nat)} {n : Nat} : leftOf sub (n + 1) = leftOf sub n ++ (match sub.lookup n with | none => [] | some y => [y]) := by
  unfold leftOf
  rw [List.range_succ, List.filterMap_append]
  congr 1
  cases h : sub.lookup n <;> simp [h]
end Mine
end
section
open PySem PySem.W PyProof.Rows PySem.Spec PySem.Calls
set_option maxRecDepth 100000
namespace Mine
section
variable {prog : Program} {w : World} {A : Around} {E E' : Value → Shared → Prop} {s s1 : Shared} {env : Env} {x : Str} {px : Pos} {body : List Stmt} {Q : Flow → Shared → Prop} {h₀ : Heap} {L : Addr}
def LoopI {δ : Type} (h₀ : Heap) (L : Addr) (s1 : Shared) (K : Nat → Obj → Prop) (mF : δ → Str → Option Value) (LED : δ → List (Addr × Obj)) (P : Addr → Nat → δ → Prop) (N : Nat) (I : Addr) (n : Nat) (s' : Shared) : Prop :=
  ∃ (i : Nat) (d : δ) (h : Heap) (tk : Nat) (oI : Obj), n + i = N ∧ s' = { s1 with heap := h, toks := tk } ∧ Fr h₀ L h (mF d) ∧ News h₀ L h ((I, oI) :: LED d) ∧ K i oI ∧ (∀ p ∈ LED d, p.1 ≠ I) ∧ P I i d
def TurnOk {δ : Type} (h₀ : Heap) (L : Addr) (s1 : Shared) (mF : δ → Str → Option Value) (LED : δ → List (Addr × Obj)) (P : Addr → Nat → δ → Prop) (I : Addr) (oI : Obj) (i : Nat) (s' : Shared) : Prop :=
  ∃ (d : δ) (h : Heap) (tk : Nat), s' = { s1 with heap := h, toks := tk } ∧ Fr h₀ L h (mF d) ∧ News h₀ L h ((I, oI) :: LED d) ∧ (∀ p ∈ LED d, p.1 ≠ I) ∧ P I i d
def TurnEnd {δ : Type} (h₀ : Heap) (L : Addr) (s1 : Shared) (mF : δ → Str → Option Value) (LED : δ → List (Addr × Obj)) (P : Addr → Nat → δ → Prop) (I : Addr) (oI : Obj) (i : Nat) (Q : Flow → Shared → Prop) (f : Flow) (s' : Shared) : Prop := match f with
  | .next => TurnOk h₀ L s1 mF LED P I oI i s'
  | .cont => TurnOk h₀ L s1 mF LED P I oI i s'
  | .brk => Q .next s'
  | .ret v => Q (.ret v) s'
theorem turnEnd_to {δ : Type} {K : Nat → Obj → Prop} {mF : δ → Str → Option Value} {LED : δ → List (Addr × Obj)} {P : Addr → Nat → δ → Prop} {N n i : Nat} {I : Addr} {oI : Obj} (hni : n + i = N) (hi : i < N) (hK : K (i + 1) oI) (f : Flow) (s' : Shared)
    (h : TurnEnd h₀ L s1 mF LED P I oI (i + 1) Q f s') : WPost (LoopI h₀ L s1 K mF LED P N I) n Q f s' := by
  have key : TurnOk h₀ L s1 mF LED P I oI (i + 1) s' → ∃ n', n' < n ∧ LoopI h₀ L s1 K mF LED P N I n' s' := fun ⟨d, h, tk, e, F, N1, off, hP⟩ =>
    ⟨n - 1, by omega, i + 1, d, h, tk, oI, by omega, e, F, N1, hK, off, hP⟩
  cases f with
  | next => exact key h
  | cont => exact key h
  | brk => exact h
  | ret v => exact h
theorem off_same {I : Addr} : ∀ {a b : List (Addr × Obj)}, b.map (·.1) = a.map (·.1) → (∀ p ∈ a, p.1 ≠ I) → ∀ p ∈ b, p.1 ≠ I := by
  intro a b e h p hp
  have : p.1 ∈ b.map (·.1) := List.mem_map_of_mem hp
  rw [e] at this
  obtain ⟨q, hq, hqe⟩ := List.mem_map.mp this
  rw [← hqe]; exact h q hq
abbrev lstIt (D : Addr) (i : Nat) (o : Obj) : Prop := o.cls = .type "list_iterator" ∧ o.data = .fields #[.ref D, .int i 0]
theorem over_list {δ : Type} (mF : δ → Str → Option Value) (LED : δ → List (Addr × Obj)) (P : Addr → Nat → δ → Prop) (d0 : δ) {D : Addr} {ws : List Value} {z : Nat} {m : Str → Option Value} {news : List (Addr × Obj)}
    (F : Fr h₀ L s.heap m) (N : News h₀ L s.heap news) (hs : ∃ h tk, s = { s1 with heap := h, toks := tk }) (hm : ∀ y, mF d0 y = m y) (hl : ∀ p ∈ LED d0, p ∈ news) (hP : ∀ I, (∀ p ∈ news, p.1 ≠ I) → P I 0 d0)
    (hD : ∀ I i d, P I i d → (D, W.listOf ws.toArray z) ∈ LED d)
    (turn : ∀ I oI i d h tk v, ws[i]? = some v → i < ws.length → Fr h₀ L h (mF d) → News h₀ L h ((I, oI) :: LED d) → (∀ p ∈ LED d, p.1 ≠ I) → P I i d →
      wpAny (model prog w) A (assign (.Name x px) env v) (fun _ s₂ => wpAny (model prog w) A (execs body env) (TurnEnd h₀ L s1 mF LED P I oI (i + 1) Q) E s₂) E { s1 with heap := h, toks := tk })
    (fin : ∀ I d h tk, Fr h₀ L h (mF d) → News h₀ L h (LED d) → P I ws.length d → wpAny (model prog w) A (execs [] env) Q E { s1 with heap := h, toks := tk })
    (hE : PassesOwn (model prog w) A env E) (hh0 : A.handled = none) (ht : ∀ it v, letOwnedTupleGo (.Name x px) it v = pure () := by intro _ _; rfl) :
    wpAny (model prog w) A (pyIter (.ref D)) (fun it s₂ => codeAny (model prog w) A (.forLoop (.Name x px) it body [] env) (fun r s' => match r with | .ok f => Q f s' | .error e => cameBackBy (model prog w) A env E e s') s₂) E' s := by
  obtain ⟨hh, tk, rfl⟩ := hs
  have hoff0 : ∀ p ∈ news, p.1 ≠ hh.objs.size := fun p hp => Nat.ne_of_lt (Heap.lt_size (N p hp).1)
  have hL : hh.IsList D ws.toArray := News.isList N (hl _ (hD _ _ _ (hP _ hoff0)))
  refine wpAny_pyIter_list hL ?_
  obtain ⟨N2, off2⟩ := iter_new (l := D) F N
  have F2 := F.push { cls := .type "list_iterator", data := .fields #[.ref D, .int 0 0] }
  dsimp only at N2 off2 F2 ⊢
  generalize hI9 : hh.objs.size = I at *
  refine for_ind hE (LoopI h₀ L s1 (lstIt D) mF LED P ws.length I) ?_ ws.length ⟨0, d0, _, tk, { cls := .type "list_iterator", data := .fields #[.ref D, .int 0 0] }, rfl, rfl, fr_ext F2 hm, fun p hp => ?_, ⟨rfl, rfl⟩, fun p hp => hoff0 p (hl p hp), hP I hoff0⟩ (ht _)
  · intro n s' ⟨i, d, h, tk, oI, hni, e, F3, N3, hK, off, hp⟩
    subst e
    have hLi : h.IsList D ws.toArray := News.isList N3 (.tail _ (hD _ _ _ hp))
    by_cases hi : i < ws.length
    · refine wpAny_pyNext_list_item (iter_at N3 hK.1 hK.2) hLi (x := ws[i]) (by simp [hi]) fun h' hit' hs' => ?_
      obtain ⟨o', ho1', ho2', F4, N4⟩ := iter_step F3 N3 off hit' hs'
      dsimp only [ForTurn]
      refine wpAny_mono (turn I o' i d h' tk _ (List.getElem?_eq_getElem hi) hi F4 N4 off hp) (fun _ s₂ h2 => ?_) fun _ _ e => e
      exact wpAny_mono h2 (fun f s₃ h3 => turnEnd_to (K := lstIt D) hni hi ⟨ho1', ho2'⟩ f s₃ h3) fun _ _ e => e
    · have hie : i = ws.length := by omega
      subst hie
      refine wpAny_pyNext_list_end hh0 (iter_at N3 hK.1 hK.2) hLi (by simp) fun h' he => ?_
      obtain ⟨F5, N5⟩ := iter_end F3 N3 off he
      dsimp only [ForTurn]
      exact fin I d h' tk F5 N5 hp
  · rcases List.mem_cons.mp hp with rfl | hp
    · exact N2 _ (.head _)
    · exact N2 _ (.tail _ (hl p hp))
abbrev rngIt (n : Nat) (i : Nat) (o : Obj) : Prop := o = { cls := .type "range_iterator", dict := none, data := .fields #[rawInt (i : Int), rawInt ((n : Int) - (i : Int)), rawInt 1], slots := #[] }
theorem over_range {δ : Type} (mF : δ → Str → Option Value) (LED : δ → List (Addr × Obj)) (P : Addr → Nat → δ → Prop) (d0 : δ) {R : Addr} (n : Nat) {t1 t2 t3 : Tok} {m : Str → Option Value} {news : List (Addr × Obj)}
    (F : Fr h₀ L s.heap m) (N : News h₀ L s.heap news) (hs : ∃ h tk, s = { s1 with heap := h, toks := tk }) (hm : ∀ y, mF d0 y = m y) (hl : ∀ p ∈ LED d0, p ∈ news) (hP : ∀ I, (∀ p ∈ news, p.1 ≠ I) → P I 0 d0)
    (hR : IsRange s.heap R 0 n 1 t1 t2 t3) (hsm : Builtin.Range.small 0 n 1 = true) (hsz : Builtin.Range.rangeSize 0 n 1 = n)
    (turn : ∀ I oI i d h tk t, i < n → Fr h₀ L h (mF d) → News h₀ L h ((I, oI) :: LED d) → (∀ p ∈ LED d, p.1 ≠ I) → P I i d →
      wpAny (model prog w) A (assign (.Name x px) env (.int (i : Int) t)) (fun _ s₂ => wpAny (model prog w) A (execs body env) (TurnEnd h₀ L s1 mF LED P I oI (i + 1) Q) E s₂) E { s1 with heap := h, toks := tk })
    (fin : ∀ I d h tk, Fr h₀ L h (mF d) → News h₀ L h (LED d) → P I n d → wpAny (model prog w) A (execs [] env) Q E { s1 with heap := h, toks := tk })
    (hE : PassesOwn (model prog w) A env E) (hh0 : A.handled = none) (ht : ∀ it v, letOwnedTupleGo (.Name x px) it v = pure () := by intro _ _; rfl) :
    wpAny (model prog w) A (pyIter (.ref R)) (fun it s₂ => codeAny (model prog w) A (.forLoop (.Name x px) it body [] env) (fun r s' => match r with | .ok f => Q f s' | .error e => cameBackBy (model prog w) A env E e s') s₂) E' s := by
  obtain ⟨hh, tk, rfl⟩ := hs
  have hoff0 : ∀ p ∈ news, p.1 ≠ hh.objs.size := fun p hp => Nat.ne_of_lt (Heap.lt_size (N p hp).1)
  refine wpAny_pyIter_range hR hsm ?_
  have N2 : News h₀ L (hh.push { cls := .type "range_iterator", data := .fields #[rawInt 0, rawInt (Builtin.Range.rangeSize 0 n 1), rawInt 1] }) ((hh.objs.size, { cls := .type "range_iterator", data := .fields #[rawInt 0, rawInt (Builtin.Range.rangeSize 0 n 1), rawInt 1] }) :: news) := by
    intro p hp
    rcases List.mem_cons.mp hp with rfl | hp
    · exact ⟨Heap.get?_push_size _ rfl, Ne.symm (Nat.ne_of_lt F.ns.lt), next_is_new F⟩
    · exact ⟨Heap.get?_push_of_some _ (N p hp).1, (N p hp).2⟩
  have F2 := F.push { cls := .type "range_iterator", data := .fields #[rawInt 0, rawInt (Builtin.Range.rangeSize 0 n 1), rawInt 1] }
  rw [hsz] at N2 F2 ⊢
  dsimp only at N2 F2 ⊢
  generalize hI9 : hh.objs.size = I at *
  refine for_ind hE (LoopI h₀ L s1 (rngIt n) mF LED P n I) ?_ n ⟨0, d0, _, tk, { cls := .type "range_iterator", data := .fields #[rawInt 0, rawInt n, rawInt 1] }, rfl, rfl, fr_ext F2 hm, fun p hp => ?_, rfl, fun p hp => hoff0 p (hl p hp), hP I hoff0⟩ (ht _)
  · intro k s' ⟨i, d, h, tk, oI, hni, e, F3, N3, hK, off, hp⟩
    subst e
    have hI := N3 (I, oI) List.mem_cons_self
    have hit : IsRangeIter h I (i : Int) ((n : Int) - (i : Int)) 1 := by have z := hI.1; rw [hK] at z; exact z
    by_cases hi : i < n
    · refine wpAny_pyNext_range_item hit (by omega) fun h' hit' hs' => ?_
      have F4 : Fr h₀ L h' (mF d) := F3.change hs' hI.2.1 hI.2.2
      have e1 : ((n : Int) - (i : Int) - 1) = ((n : Int) - ((i + 1 : Nat) : Int)) := by omega
      have N4 : News h₀ L h' ((I, { cls := .type "range_iterator", dict := none, data := .fields #[rawInt ((i + 1 : Nat) : Int), rawInt ((n : Int) - ((i + 1 : Nat) : Int)), rawInt 1], slots := #[] }) :: LED d) := fun p hp => by
        rcases List.mem_cons.mp hp with rfl | hp
        · exact ⟨by rw [← e1]; exact hit', hI.2⟩
        · exact ⟨(hs'.2 _ (off p hp)).trans (N3 p (List.mem_cons_of_mem _ hp)).1, (N3 p (List.mem_cons_of_mem _ hp)).2⟩
      dsimp only [ForTurn]
      refine wpAny_mono (turn I _ i d h' (tk + 1) _ hi F4 N4 off hp) (fun _ s₂ h2 => ?_) fun _ _ e => e
      exact wpAny_mono h2 (fun f s₃ h3 => turnEnd_to (K := rngIt n) hni hi rfl f s₃ h3) fun _ _ e => e
    · have hie : i = n := by omega
      subst hie
      refine wpAny_pyNext_range_end hh0 hit (by omega) fun h' he => ?_
      obtain ⟨F5, N5⟩ := iter_end F3 N3 off he
      dsimp only [ForTurn]
      exact fin I d h' tk F5 N5 hp
  · rcases List.mem_cons.mp hp with rfl | hp
    · exact N2 _ (.head _)
    · exact N2 _ (.tail _ (hl p hp))
theorem fr_w {a b : Str} {A1 B u v : Option Value} {h : Heap} {m : Str → Option Value} (hab : a ≠ b) (F : Fr h₀ L h (fun y => if y = b then B else if y = a then A1 else if y = a then u else if y = b then v else m y)) :
    Fr h₀ L h (fun y => if y = a then A1 else if y = b then B else m y) := fr_ext F fun y => by
  by_cases h1 : y = a
  · rw [if_pos h1, if_neg (fun z => hab (h1.symm.trans z)), if_pos h1]
  · rw [if_neg h1]
    by_cases h2 : y = b
    · rw [if_pos h2, if_pos h2]
    · rw [if_neg h2, if_neg h2, if_neg h1, if_neg h1, if_neg h2]
theorem fr_more {a b : Str} {B : Option Value} {h : Heap} {m : Str → Option Value} (F : Fr h₀ L h m) (e : m b = B) : Fr h₀ L h (fun y => if y = a then m a else if y = b then B else m y) := fr_ext F fun y => by
  by_cases h1 : y = a
  · rw [if_pos h1, h1]
  · rw [if_neg h1]
    by_cases h2 : y = b
    · rw [if_pos h2, h2, e]
    · rw [if_neg h2]
theorem fr_abc {a b c : Str} {f g : Str → Option Value} {h : Heap} (F : Fr h₀ L h f) (ha : g a = f a) (hb : g b = f b) (hc : g c = f c) (ho : ∀ y, y ≠ a → y ≠ b → y ≠ c → g y = f y) : Fr h₀ L h g := fr_ext F fun y => by
  by_cases h1 : y = a
  · rw [h1, ha]
  by_cases h2 : y = b
  · rw [h2, hb]
  by_cases h3 : y = c
  · rw [h3, hc]
  exact ho y h1 h2 h3
theorem fr_three_eq {a b c y : Str} {m : Str → Option Value} : (if y = a then m a else if y = b then m b else if y = c then m c else m y) = m y := by
  by_cases h1 : y = a
  · rw [if_pos h1, h1]
  rw [if_neg h1]
  by_cases h2 : y = b
  · rw [if_pos h2, h2]
  rw [if_neg h2]
  by_cases h3 : y = c
  · rw [if_pos h3, h3]
  · rw [if_neg h3]
theorem fr_three_eq2 {a b c y : Str} {B C : Option Value} {m : Str → Option Value} (e1 : m b = B) (e2 : m c = C) : (if y = a then m a else if y = b then B else if y = c then C else m y) = m y := by
  rw [← e1, ← e2]; exact fr_three_eq
theorem fr_one_eq {a y : Str} {m : Str → Option Value} : (if y = a then m a else m y) = m y := by
  by_cases h : y = a
  · rw [if_pos h, h]
  · rw [if_neg h]
end
end Mine
end
section
open PySem PySem.W PyProof.Rows
set_option maxRecDepth 100000
namespace Mine
def NetsI (P : Params) (LN LH LA c0 : Addr) (tab : Obj) (xs : List Addr) (G : List (Addr × Obj)) : Prop :=
  ((xs = [] ∧ tab = tabObj #[]) ∨ (tab = tab1 c0 ∧ LamCode c0 G)) ∧ (∀ (j : Nat) (a : Addr), xs[j]? = some a → NetAt P LN LH LA c0 (j : Int) a G) ∧ xs.Nodup ∧ (∀ p ∈ G, @LT.lt Nat _ LA p.1)
theorem NetsI.push {P : Params} {LN LH LA c0 c' x : Addr} {tab : Obj} {xs : List Addr} {G G' : List (Addr × Obj)} (H : NetsI P LN LH LA c0 tab xs G) (hc : (c' = c0 ∧ LamCode c0 G) ∨ (xs = [] ∧ LamCode c' G')) (hx : NetAt P LN LH LA c' ((xs.length : Nat) : Int) x G')
    (hG : ∀ p ∈ G', @LT.lt Nat _ LA p.1 ∧ ∀ q ∈ G, @LT.lt Nat _ q.1 p.1) : NetsI P LN LH LA c' (tab1 c') (xs ++ [x]) (G' ++ G) := by
  obtain ⟨h1, h2, h3, h4⟩ := H
  have inl : ∀ p ∈ G', p ∈ G' ++ G := fun p hp => List.mem_append_left _ hp
  have inr : ∀ p ∈ G, p ∈ G' ++ G := fun p hp => List.mem_append_right _ hp
  refine ⟨.inr ⟨rfl, ?_⟩, fun j a hj => ?_, ?_, fun p hp => ?_⟩
  · rcases hc with ⟨rfl, hc⟩ | ⟨-, hc⟩
    · exact hc.mono inr
    · exact hc.mono inl
  · by_cases hlt : j < xs.length
    · rw [List.getElem?_append_left hlt] at hj
      rcases hc with ⟨rfl, hc⟩ | ⟨e, -⟩
      · exact (h2 j a hj).mono inr
      · rw [e] at hlt; exact absurd hlt (Nat.not_lt_zero _)
    · rw [List.getElem?_append_right (by omega)] at hj
      have hk0 : j - xs.length = 0 := by
        rcases Nat.eq_zero_or_pos (j - xs.length) with h | h
        · exact h
        · rw [List.getElem?_eq_none (by simp only [List.length_singleton]; exact h)] at hj; cases hj
      rw [hk0] at hj
      have e1 : x = a := by simpa using hj
      have e2 : j = xs.length := by omega
      subst e1
      rw [e2]
      exact hx.mono inl
  · refine List.nodup_append.mpr ⟨h3, by simp, fun a ha b hb => ?_⟩
    rw [List.mem_singleton.mp hb]
    obtain ⟨j, hj⟩ := List.getElem?_of_mem ha
    obtain ⟨d, f, u1, u2, u3, u4, k1, k2, k3, k4, k5, pm, ctv, a1, a2, a3, a4, o1, o2, o3, o4, t, i1, -⟩ := h2 j a hj
    obtain ⟨d', f', u1', u2', u3', u4', k1', k2', k3', k4', k5', pm', ctv', a1', a2', a3', a4', o1', o2', o3', o4', t', i1', -⟩ := hx
    exact Nat.ne_of_lt ((hG _ i1').2 _ i1)
  · rcases List.mem_append.mp hp with hp | hp
    · exact (hG p hp).1
    · exact h4 p hp
theorem net_any (w : World) {mean : ExcName → Option Value} {mg mb : Str → Option Value} {LN LH LA c0 : Addr} {t : Tok} {dp un : Nat} {gd : Option (List Code)} {env : Env} {outer : List Env} {A₀ : Around} {base h₀ : Heap} {L : Addr} {m : Str → Option Value}
    {oN oH oA tab : Obj} {rest G0 : List (Addr × Obj)} {xs : List Addr} {n : Nat} {s : Shared} {Q E : Value → Shared → Prop} {loose : List Str} {pgm : Program}
    (B : Below A₀ base outer h₀) (F : Fr h₀ L s.heap m) (X : (hd.heap_39 w.params).In h₀) (N : News h₀ L s.heap ((LN, oN) :: (LH, oH) :: (LA, oA) :: (587, tab) :: rest))
    (T : Top pgm loose mean mg mb h₀) (hfX : env.frame = some L) (hk : env.scope.kind = .function) (C : CodeHd h₀ 591 587) (hoff : ∀ p ∈ rest, p.1 ≠ 587) (hlt : @Ne Nat 587 LH ∧ @LT.lt Nat _ 587 LN ∧ @LT.lt Nat _ LH LN ∧ @LT.lt Nat _ LN LA)
    (H : NetsI w.params LN LH LA c0 tab xs G0) (hn : xs.length = n) (hG0 : ∀ p ∈ G0, p ∈ rest)
    (hdp : dp + 10 < recursionLimit) (hu : un + 400 < cLine)
    (rS : ∀ h' tk' x c' G, Fr h₀ L h' m → News h₀ L h' (G ++ (LN, oN) :: (LH, oH) :: (LA, oA) :: (587, tab1 c') :: rest) → NetsI w.params LN LH LA c' (tab1 c') (xs ++ [x]) (G ++ G0) → (∀ p ∈ G, @LT.lt Nat _ LA p.1 ∧ ∀ q ∈ rest, @LT.lt Nat _ q.1 p.1) → Q (.ref x) { s with heap := h', toks := tk' }) :
    wpAny (model P9 w) (atN dp un gd env outer) (call (.ref 592) [.ref LN, .ref LH, .int (n : Int) t, .ref LA]) Q E s := by
  subst hn
  rcases H.1 with ⟨e1, e2⟩ | ⟨e1, e2⟩
  · subst e2
    refine net_spec w B F X N T hfX hk C hoff hlt hdp hu fun h' tk' x c' G F' N' hx hc hG => rS h' tk' x c' G F' N' (H.push (.inr ⟨e1, hc⟩) hx fun p hp => ⟨(hG p hp).1, fun q hq => (hG p hp).2 q (hG0 q hq)⟩) hG
  · subst e1
    refine net_hit w B F X N T hfX hk C hoff hlt hdp hu fun h' tk' x G F' N' hx hG => rS h' tk' x c0 G F' N' (H.push (.inl ⟨rfl, e2⟩) hx fun p hp => ⟨(hG p hp).1, fun q hq => (hG p hp).2 q (hG0 q hq)⟩) hG
theorem cell_name {h₀ h : Heap} {L a1 a2 a3 a4 a5 a6 a7 a8 a9 a10 a11 : Addr} {o1 o2 o3 o4 o5 o6 o7 o8 o9 o10 ov : Obj} {d : Data} {r : List (Addr × Obj)}
    (_ : News h₀ L h ((a1, o1) :: (a2, o2) :: (a3, o3) :: (a4, o4) :: (a5, o5) :: (a6, o6) :: (a7, o7) :: (a8, o8) :: (a9, o9) :: (a10, o10) :: (a11, ov) :: r)) (hd : ov.data = d) : ∃ ov', ov' = ov ∧ ov'.data = d := ⟨_, rfl, hd⟩
theorem offs_app {I : Addr} {a b : List (Addr × Obj)} (ha : ∀ p ∈ a, p.1 ≠ I) (hb : ∀ p ∈ b, p.1 ≠ I) : ∀ p ∈ a ++ b, p.1 ≠ I := fun p hp => by
  rcases List.mem_append.mp hp with hp | hp
  · exact ha p hp
  · exact hb p hp
theorem NetsI.nil {P : Params} {LN LH LA c0 : Addr} : NetsI P LN LH LA c0 (tabObj #[]) [] [] := ⟨.inl ⟨rfl, rfl⟩, fun j a h => by simp at h, List.nodup_nil, fun p hp => by cases hp⟩
def Offs (I : Addr) : List (Addr × Obj) → Prop
  | [] => True
  | p :: r => @Ne Nat p.1 I ∧ Offs I r
theorem offs_of {I : Addr} : ∀ {l : List (Addr × Obj)}, (∀ p ∈ l, p.1 ≠ I) → Offs I l
  | [], _ => True.intro
  | p :: _, h => ⟨h p (.head _), offs_of fun q hq => h q (.tail _ hq)⟩
theorem all_offs {I : Addr} : ∀ {l : List (Addr × Obj)}, Offs I l → ∀ p ∈ l, p.1 ≠ I
  | [], _, _, hp => nomatch hp
  | _ :: _, h, p, hp => by
    rcases List.mem_cons.mp hp with rfl | hp
    · exact h.1
    · exact all_offs h.2 p hp
theorem all_gt {LA b : Addr} {G : List (Addr × Obj)} (h : ∀ p ∈ G, @LT.lt Nat _ LA p.1) (hb : @LE.le Nat _ b LA) : ∀ p ∈ G, p.1 ≠ b := fun p hp => Nat.ne_of_gt (Nat.lt_of_le_of_lt hb (h p hp))
theorem cells_name {h₀ h : Heap} {L LA LN D R HH c5 c4 c3 c2 c1 : Addr} {oA oN oD oR oH o5 o4 o3 o2 o1 : Obj} {r : List (Addr × Obj)}
    (_ : News h₀ L h ((LA, oA) :: (LN, oN) :: (D, oD) :: (R, oR) :: (HH, oH) :: (c5, o5) :: (c4, o4) :: (c3, o3) :: (c2, o2) :: (c1, o1) :: r)) :
    ∃ LA' LN' o5' o4' o3' o2' o1', LA' = LA ∧ LN' = LN ∧ o5' = o5 ∧ o4' = o4 ∧ o3' = o3 ∧ o2' = o2 ∧ o1' = o1 := ⟨_, _, _, _, _, _, _, rfl, rfl, rfl, rfl, rfl, rfl, rfl⟩
theorem fam_name {h₀ h : Heap} {L LF D LA LN R HH c5 : Addr} {oF oD oA oN oR oH o5 : Obj} {d : Data} {r : List (Addr × Obj)}
    (_ : News h₀ L h ((LF, oF) :: (D, oD) :: (LA, oA) :: (LN, oN) :: (R, oR) :: (HH, oH) :: (c5, o5) :: r)) (hd : o5.data = d) : ∃ o5', o5' = o5 ∧ o5'.data = d := ⟨_, rfl, hd⟩
theorem led_net {I LA LN D R HH c5 c4 c3 c2 c1 T : Addr × Obj} {G : List (Addr × Obj)} : ∀ q ∈ (LN :: HH :: LA :: T :: I :: D :: R :: c5 :: c4 :: c3 :: c2 :: c1 :: G), q ∈ (I :: LA :: LN :: D :: R :: HH :: c5 :: c4 :: c3 :: c2 :: c1 :: T :: G) := by
  intro q hq; simp only [List.mem_cons] at hq ⊢; grind
theorem led_net' {I LA LN D R HH c5 c4 c3 c2 c1 T : Addr × Obj} {G G' : List (Addr × Obj)} : ∀ q ∈ (I :: LA :: LN :: D :: R :: HH :: c5 :: c4 :: c3 :: c2 :: c1 :: T :: (G' ++ G)), q ∈ (G' ++ LN :: HH :: LA :: T :: I :: D :: R :: c5 :: c4 :: c3 :: c2 :: c1 :: G) := by
  intro q hq; simp only [List.mem_cons, List.mem_append] at hq ⊢; grind
end Mine
end
section
open PySem PySem.W PyProof.Rows PySem.Spec PySem.Calls
set_option maxRecDepth 100000
namespace Mine
def mkCfg (xs : List Addr) (hv : List Value) (hl : List Int) (LN LH LA c0 : Addr) (zn zh : Nat) (G : List (Addr × Obj)) : Cfg where
  X := fun v => xs.getD v 0
  hsF := fun v => (hl.getD v 0).toNat
  LN := LN
  LH := LH
  LA := LA
  c' := c0
  xs := (xs.map Value.ref).toArray
  hs := hv.toArray
  zn := zn
  zh := zh
  G := G
  ha := fun a => hp ((xs.idxOf a : Nat) : Int) 0
theorem ints_get : ∀ {vs : List Value} {ns : List Int}, IntsAre vs ns → ∀ {i : Nat} {k : Int}, ns[i]? = some k → ∃ t, vs[i]? = some (.int k t)
  | _, _, .nil, i, k, h => by simp at h
  | _, _, .cons n t hr, 0, k, h => by
    simp at h; subst h; exact ⟨t, rfl⟩
  | _, _, .cons n t hr, i + 1, k, h => by
    obtain ⟨u, hu⟩ := ints_get hr (i := i) (k := k) (by simpa using h)
    exact ⟨u, by simpa using hu⟩
theorem cfg_ok {P : Params} {LN LH LA c0 : Addr} {tab : Obj} {xs : List Addr} {hv : List Value} {hl : List Int} {zn zh : Nat} {G : List (Addr × Obj)} (H : NetsI P LN LH LA c0 tab xs G) (hx : xs.length = 12) (h1 : IntsAre hv hl) (h2 : hl.length = 12) (h3 : ∀ v ∈ hl, 0 ≤ v ∧ v < 12)
    (n1 : @Ne Nat LN LA) (n2 : @Ne Nat LH LA) : (mkCfg xs hv hl LN LH LA c0 zn zh G).Ok P := by
  obtain ⟨e1, e2, e3, e4⟩ := H
  have hX : ∀ v, v < 12 → xs[v]? = some (xs.getD v 0) := fun v hv => by
    rw [List.getD_eq_getElem?_getD, List.getElem?_eq_getElem (by omega)]; rfl
  have hH : ∀ v, v < 12 → hl[v]? = some (hl.getD v 0) := fun v hv => by
    rw [List.getD_eq_getElem?_getD, List.getElem?_eq_getElem (by omega)]; rfl
  refine ⟨fun v hv => e2 v _ (hX v hv), ?_, fun v hv => ?_, fun v hq => ?_, fun v hv => ?_, fun u v hu hv e => ?_, fun v hv => ?_, n1, n2⟩
  · rcases e1 with ⟨e, -⟩ | ⟨-, e⟩
    · rw [e] at hx; cases hx
    · exact e
  · have := h3 _ (List.mem_of_getElem? (hH v hv))
    show (hl.getD v 0).toNat < 12
    omega
  · obtain ⟨t, ht⟩ := ints_get h1 (hH v hq)
    have := h3 _ (List.mem_of_getElem? (hH v hq))
    refine ⟨t, ?_⟩
    show hv.toArray[v]? = some (.int (((hl.getD v 0).toNat : Nat) : Int) t)
    rw [Int.toNat_of_nonneg this.1, List.getElem?_toArray]
    assumption
  · show (xs.map Value.ref).toArray[v]? = some (.ref (xs.getD v 0))
    rw [List.getElem?_toArray, List.getElem?_map, hX v hv]; rfl
  · have k1 := hX u hu
    have k2 := hX v hv
    have e' : xs.getD u 0 = xs.getD v 0 := e
    rw [e'] at k1
    exact (List.getElem?_inj (h₀ := by omega) e3).mp (k1.trans k2.symm)
  · show hp ((xs.idxOf (xs.getD v 0) : Nat) : Int) 0 = hp (v : Int) 0
    have : xs.idxOf (xs.getD v 0) = v := by
      have k : xs[v]'(by omega) = xs.getD v 0 := by
        have := hX v hv
        rw [List.getElem?_eq_getElem (by omega)] at this
        exact Option.some.inj this
      rw [← k]
      exact e3.idxOf_getElem v (by omega)
    rw [this]
theorem row_nat {vs : List Value} {ns : List Int} (h : IntsAre vs ns) (h5 : ∀ v ∈ ns, 0 ≤ v ∧ v < 12) : IntsAre vs ((ns.map Int.toNat).map Int.ofNat) ∧ ∀ v ∈ ns.map Int.toNat, v < 12 := by
  have e : (ns.map Int.toNat).map Int.ofNat = ns := by
    rw [List.map_map]
    conv => rhs; rw [← List.map_id ns]
    refine List.map_congr_left fun a ha => ?_
    have := h5 a ha
    show ((a.toNat : Nat) : Int) = a
    omega
  refine ⟨by rw [e]; exact h, fun v hv => ?_⟩
  obtain ⟨a, ha, rfl⟩ := List.mem_map.mp hv
  have := h5 a ha
  omega
theorem gens_fin {s : Shared} {st : GenState} : (s.gens.push st).set! s.gens.size .finished = s.gens.push .finished := by
  apply Array.toList_inj.mp
  simp [Array.set!]
theorem set_fin {s : Shared} {h h' : Heap} {tk tk' : Nat} {st : GenState} :
    ({ ({ s with heap := h, gens := s.gens.push st, toks := tk } : Shared).setGen s.gens.size .finished with heap := h', toks := tk' } : Shared) = { s with gens := s.gens.push .finished, heap := h', toks := tk' } := by
  have e := gens_fin (s := s) (st := st)
  simp only [Array.set!] at e
  simp only [Shared.setGen, Array.set!, e]
section
variable {prog : Program} {w : World} {A : Around} {E : Value → Shared → Prop} {s : Shared} {st : Stmt} {env : Env} {Q : Flow → Shared → Prop}
def AfterTry (J : Shared → Prop) (f : Flow) (s : Shared) : Prop := f = .next ∧ J s
theorem mid (J : Shared → Prop) (h1 : wpAny (model prog w) A (exec st env) (AfterTry J) E s) (h2 : ∀ s', J s' → Q .next s') : wpAny (model prog w) A (exec st env) Q E s :=
  wpAny_mono h1 (fun f s' h => by obtain ⟨rfl, hj⟩ := h; exact h2 s' hj) fun _ _ e => e
end
section
variable {prog : Program} {w : World} {A₀ : Around} {E : Value → Shared → Prop} {s' : Shared} {base g : Heap} {outer : List Env} {L e : Addr} {m : Str → Option Value} {env : Env}
  {b₀ : Stmt} {suite : List Stmt} {pos np : Pos} {rest : List ExceptHandler} {Q : Flow → Shared → Prop} {news : List (Addr × Obj)} {KF : Frag}
  {p : Program} {loose : List Str} {mean : ExcName → Option Value} {mg mb : Str → Option Value} {x : Str} {X T' : String}
theorem caught_X (R : RaisedAt base g L m (env :: outer) e (.type X) news s'.heap) (hfr : env.frame = some L) (K : Below A₀ base outer g) (XB : KF.In base) (TB : Top p loose mean mg mb base)
    (hname : ∀ (A : Around) (E : Value → Shared → Prop) (Q : Value → Shared → Prop) (s : Shared) (g' : Heap), Fr g' L s.heap m → KF.In g' → TopRead p loose mg mb g' → Q (.type T') s → wpAny (model prog w) A (eval (.Name x np) env) Q E s)
    (hexc : isSubtype (.type T') (.type "BaseException") = pure true) (hnt : isSubtype (.type ((Manifest.find? T').elim "type" fun y => y.metatype)) (.type "tuple") = pure false) (hsub : isSubtype (.type X) (.type T') = pure true)
    (hE : PassesOwnAt (model prog w) ((A₀.deeper env).mark (some (.ref e))) (A₀.deeper env) env E)
    (k : ∀ h' g', KtsTurn (outer.filterMap (·.frame)) g g' → Fr g' L h' m → News g' L h' news → Below A₀ base outer g' → KF.In g' → Top p loose mean mg mb g' →
      wpAny (model prog w) ((A₀.deeper env).mark (some (.ref e))) (execs (b₀ :: suite) env) Q E { s' with heap := h' }) :
    wpAny (model prog w) (A₀.deeper env) (noteFrame (.ref e) env)
      (fun _ s₂ => wpAny (model prog w) (A₀.deeper env) (setFlight (.ref e) none) (fun _ s₃ =>
        wpAny (model prog w) (A₀.deeper env) (handleBy (.ref e) env (.ExceptHandler (some (.Name x np)) none (b₀ :: suite) pos :: rest)) Q E s₃) E s₂) E s' := by
  obtain ⟨G, F, ⟨B, a0, hB, hBG, hl, hfl⟩, hsm, -⟩ := R
  have efr : (env :: outer).filterMap (·.frame) = (envOf (Str.ofString "") env.scope L 0 .none :: outer).filterMap (·.frame) := by
    simp [List.filterMap_cons, hfr, envOf]
  rw [efr] at hBG
  have hL : B.get? L = none := by
    obtain ⟨_, ⟨L', _, hf, hn', _⟩, _⟩ := hfl.2.2.1
    obtain rfl : L = L' := Option.some.inj (hfr.symm.trans hf)
    exact hn'
  refine wpAny_looks_onW (Around.frames_deeper K.stack) hfr hfl fun h₄ hheld₄ hsm₄ => ?_
  refine wpAny_landsW hheld₄ fun h₅ hheld hsm₅' => ?_
  have hsm₅ := hsm₄.trans hsm₅'
  obtain ⟨g₅, T₅, F₅, K₅⟩ := kts_ground K F hBG hheld.1 (hsm.trans hsm₅)
  have X₅ : KF.In g₅ := XB.keeps K₅.stays
  have P₅ : TopRead p loose mg mb g₅ := topRead_of (TB.keeps K₅.stays)
  obtain ⟨ob, hob, hobc⟩ := hheld.there
  refine wpAny_handleBy_builtin (X := X) (T := T') (b := true) hexc hnt hsub (hname _ _ _ _ g₅ F₅ X₅ P₅ ⟨rfl, ⟨ob, hob, hobc⟩, ?_⟩)
  refine lands_againW hheld fun h₆ hfl₆ hsm₆ => ?_
  obtain ⟨g₆, T₆, F₆, K₆⟩ := kts_ground K F hBG hfl₆.1 ((hsm.trans hsm₅).trans hsm₆)
  have Nl : News g₆ L h₆ news := fun q hq => ⟨hfl₆.1 _ _ (hl q hq).1, (fun z => by have := (hl q hq).1; rw [z, hL] at this; cases this), T₆.none_ _ (kts_none F.keep (hl q hq).2.1)⟩
  exact wpAny_passesOwnAt hE (k h₆ g₆ T₆ F₆ Nl K₆ (XB.keeps K₆.stays) (TB.keeps K₆.stays))
end
end Mine
namespace Mine
def Stand (p : Program) (loose : List Str) (mean : ExcName → Option Value) (mg mb : Str → Option Value) (KF : Frag) (A₀ : Around) (base g' : Heap) : Prop := KtsTurn [] base g' ∧ Below A₀ base [] g' ∧ KF.In g' ∧ Top p loose mean mg mb g'
theorem stand_name {p : Program} {loose : List Str} {mean : ExcName → Option Value} {mg mb : Str → Option Value} {KF : Frag} {A₀ : Around} {base g : Heap} (_ : Below A₀ base [] g) (_ : KF.In g) (_ : Top p loose mean mg mb g) : ∃ ST, ST = Stand p loose mean mg mb KF A₀ base := ⟨_, rfl⟩
def ToldIs (X : Nat → Addr) (sub : List (Nat × Nat)) (tv : Value) (LX : List (Addr × Obj)) : Prop :=
  (∃ S c k y, tv = .ref S ∧ (S, W.listOf #[.ref (X y)] c) ∈ LX ∧ sub = [(k, y)]) ∨ (tv = .none ∧ 2 ≤ sub.length)
end Mine
namespace Mine
theorem ys_refs {X : Nat → Addr} {ys : List Value} {row : List Nat} (hl : ys.length = row.length) (h : ∀ (i : Nat) (y : Value), ys[i]? = some y → ∃ v : Nat, row[i]? = some v ∧ y = .ref (X v)) : ys = refs X row := by
  apply List.ext_getElem?
  intro i
  show ys[i]? = (row.map fun v => Value.ref (X v))[i]?
  rw [List.getElem?_map]
  cases q : ys[i]? with
  | none =>
    have : row.length ≤ i := by rw [← hl]; exact List.getElem?_eq_none_iff.mp q
    rw [List.getElem?_eq_none this]; rfl
  | some y =>
    obtain ⟨v, hv, rfl⟩ := h i y q
    rw [hv]; rfl
theorem push_led {g h : Heap} {L : Addr} {m : Str → Option Value} {o : Obj} {a b c d : Addr × Obj} {r : List (Addr × Obj)} (F : Fr g L h m) (N : News g L h (a :: b :: c :: d :: r)) (hof : o.isFreed = false) :
    News g L (h.push o) (a :: b :: c :: d :: (h.objs.size, o) :: r) ∧ ∀ p ∈ a :: b :: c :: d :: r, @LT.lt Nat _ p.1 h.objs.size := by
  have up : ∀ p ∈ a :: b :: c :: d :: r, (h.push o).get? p.1 = some p.2 ∧ p.1 ≠ L ∧ g.get? p.1 = none := fun p hp => ⟨Heap.get?_push_of_some _ (N p hp).1, (N p hp).2⟩
  refine ⟨fun p hp => ?_, fun p hp => Heap.lt_size (N p hp).1⟩
  rcases List.mem_cons.mp hp with rfl | hp
  · exact up _ (.head _)
  rcases List.mem_cons.mp hp with rfl | hp
  · exact up _ (.tail _ (.head _))
  rcases List.mem_cons.mp hp with rfl | hp
  · exact up _ (.tail _ (.tail _ (.head _)))
  rcases List.mem_cons.mp hp with rfl | hp
  · exact up _ (.tail _ (.tail _ (.tail _ (.head _))))
  rcases List.mem_cons.mp hp with rfl | hp
  · exact ⟨Heap.get?_push_size _ hof, Ne.symm (Nat.ne_of_lt F.ns.lt), next_is_new F⟩
  · exact up _ (.tail _ (.tail _ (.tail _ (.tail _ hp))))
theorem led_try {D3 LA LN D R HH c5 c4 c3 c2 c1 T : Addr × Obj} {G : List (Addr × Obj)} : ∀ q ∈ (D3 :: LN :: HH :: LA :: R :: c5 :: c4 :: c3 :: c2 :: c1 :: T :: G), q ∈ (D3 :: LA :: LN :: D :: R :: HH :: c5 :: c4 :: c3 :: c2 :: c1 :: T :: G) := by
  intro q hq; simp only [List.mem_cons] at hq ⊢; grind
theorem led_try2 {S LA LN R HH c5 c4 c3 c2 c1 T : Addr × Obj} {G : List (Addr × Obj)} : ∀ q ∈ (LA :: LN :: R :: HH :: c5 :: c4 :: c3 :: c2 :: c1 :: T :: [S]), q ∈ (S :: LN :: HH :: LA :: R :: c5 :: c4 :: c3 :: c2 :: c1 :: T :: G) := by
  intro q hq; simp only [List.mem_cons, List.not_mem_nil, or_false] at hq ⊢; grind
theorem led_try3 {LA LN R HH c5 c4 c3 c2 c1 T : Addr × Obj} {G : List (Addr × Obj)} : ∀ q ∈ (LA :: LN :: R :: HH :: c5 :: c4 :: c3 :: c2 :: c1 :: T :: []), q ∈ (LN :: HH :: LA :: R :: c5 :: c4 :: c3 :: c2 :: c1 :: T :: G) := by
  intro q hq; simp only [List.mem_cons, List.not_mem_nil, or_false] at hq ⊢; grind
theorem ne_of_data {g h : Heap} {L : Addr} {r : List (Addr × Obj)} (N : News g L h r) {a b : Addr} {o u : Obj} (ha : (a, o) ∈ r) (hb : (b, u) ∈ r) (hne : o.data ≠ u.data) : a ≠ b := fun e => by
  have h1 := (N _ ha).1
  have h2 := (N _ hb).1
  dsimp only at h1 h2
  rw [e, h2] at h1
  exact hne (congrArg Obj.data (Option.some.inj h1)).symm
end Mine
end
section
open PySem PySem.W PyProof.Rows PySem.Spec PySem.Calls
set_option maxRecDepth 100000
namespace Mine
section
open LCg LCt
variable {prog : Program} {w : World} {A : Around} {E : Value → Shared → Prop} {s : Shared} {h₀ : Heap} {L : Addr} {m : Str → Option Value} {env : Env}
theorem ints_snoc {ys : List Value} {l : List Nat} {a : Nat} {t : Tok} (h : IntsAre ys (l.map Int.ofNat)) : IntsAre (ys ++ [.int (a : Int) t]) ((l ++ [a]).map Int.ofNat) := by
  rw [List.map_append]
  exact IntsAre.append h (.cons _ _ .nil)
theorem comp_ints {ct elt : Expr} {x : Str} {scope : Scope} {cl : List (Str × Addr)} {Fin : List Value → List (Addr × Obj) → Prop} {news : List (Addr × Obj)} {S : List (Addr × Obj) → Prop} {P : Nat → Value → Prop} (src : List Nat) (keep : Nat → Bool)
    (hP : ∀ i v, P i v → i < src.length → ∃ a t, src[i]? = some a ∧ v = .int (a : Int) t)
    (turn : ∀ (i a : Nat) t I oI C oC D m₂ ys h tk (E' : Value → Shared → Prop), src[i]? = some a → NsObj oC m₂ → m₂ x = some (.int (a : Int) t) → Fr h₀ L h m → News h₀ L h ((I, oI) :: (C, oC) :: (D, lst ys) :: news) → Off3 I C D news → ((@Ne Nat I C) ∧ (@Ne Nat I D) ∧ (@Ne Nat C D)) →
      wpAny (model prog w) A (isTrue ct (compEnvC scope cl C env) (eval ct (compEnvC scope cl C env))) (fun ok s' => if ok = true then
        wpAny (model prog w) A (eval elt (compEnvC scope cl C env)) (CompEnd h₀ L m { s with heap := h, toks := tk } I oI C oC D (lst ys) S (fun y news' => news' = news ∧ keep a = true ∧ ∃ u, y = .int (a : Int) u)) E' s'
        else CompEnd h₀ L m { s with heap := h, toks := tk } I oI C oC D (lst ys) S (fun _ news' => news' = news ∧ keep a = false) Value.none s') E' { s with heap := h, toks := tk })
    (fin : ∀ ys : List Value, IntsAre ys ((src.filter keep).map Int.ofNat) → Fin ys news) : CompRestT prog w A h₀ L m env ct elt x scope cl s S P Fin src.length 0 [] news := by
  have key : ∀ (j i : Nat) (ys : List Value), i + j = src.length → IntsAre ys (((src.take i).filter keep).map Int.ofNat) → CompRestT prog w A h₀ L m env ct elt x scope cl s S P Fin j i ys news := by
    intro j
    induction j with
    | zero =>
      intro i ys hi hr
      refine CompRestT.zero (fin ys ?_)
      rw [List.take_of_length_le (by omega)] at hr
      exact hr
    | succ j ih =>
      intro i ys hi hr
      refine CompRestT.succ ?_
      intro v I oI C oC D m₂ h tk E' hv hC hmx F N off ne
      obtain ⟨a, t, ha, rfl⟩ := hP i v hv (by omega)
      have htk : src.take (i + 1) = src.take i ++ [a] := by rw [List.take_add_one, ha]; rfl
      refine wpAny_mono (turn i a t I oI C oC D m₂ _ h tk E' ha hC hmx F N off ne) (fun ok s' hq => ?_) fun _ _ e => e
      cases ok with
      | true =>
        simp only [if_true] at hq ⊢
        refine wpAny_mono hq (fun y s₂ hq => ?_) fun _ _ e => e
        obtain ⟨h', tk', nw, e, F', N', off', hS, hn, hk, u, hy⟩ := hq
        rw [hn] at N' off' hS
        subst hy
        refine ⟨h', tk', news, e, F', N', off', hS, ih (i + 1) _ (by omega) ?_⟩
        rw [htk, List.filter_append, show [a].filter keep = [a] by simp [List.filter_cons, hk]]
        exact ints_snoc hr
      | false =>
        simp only [Bool.false_eq_true, if_false] at hq ⊢
        obtain ⟨h', tk', nw, e, F', N', off', hS, hn, hk⟩ := hq
        rw [hn] at N' off' hS
        refine ⟨h', tk', news, e, F', N', off', hS, ih (i + 1) _ (by omega) ?_⟩
        rw [htk, List.filter_append, show [a].filter keep = [] by simp [List.filter_cons, hk], List.append_nil]
        exact hr
  exact key src.length 0 [] (by omega) .nil
theorem src_range {n : Nat} {a : Int} (ha : a = 0) : ∀ (i : Nat) (v : Value), (∃ t, v = .int (a + (i : Int)) t) → i < (List.range n).length → ∃ b t, (List.range n)[i]? = some b ∧ v = .int ((b : Nat) : Int) t := by
  intro i v ⟨t, e⟩ hi
  subst ha
  refine ⟨i, t, ?_, by rw [e, Int.zero_add]⟩
  rw [List.length_range] at hi
  rw [List.getElem?_range hi]
theorem src_list {its : List Value} {src : List Nat} (h : IntsAre its (src.map Int.ofNat)) : ∀ (i : Nat) (v : Value), its.toArray[i]? = some v → i < src.length → ∃ b t, src[i]? = some b ∧ v = .int ((b : Nat) : Int) t := by
  intro i v hv hi
  obtain ⟨k, t, hk, e⟩ := ints_at h (by simpa using hv)
  rw [List.getElem?_map] at hk
  cases q : src[i]? with
  | none => rw [q] at hk; cases hk
  | some b =>
    rw [q] at hk
    cases hk
    exact ⟨b, t, rfl, e⟩
theorem nat_at {its : List Value} {src : List Nat} (h : IntsAre its (src.map Int.ofNat)) {i : Nat} {v : Value} (hv : its[i]? = some v) : ∃ b t, src[i]? = some b ∧ v = .int ((b : Nat) : Int) t := by
  obtain ⟨k, t, hk, e⟩ := ints_at h hv
  rw [List.getElem?_map] at hk
  cases q : src[i]? with
  | none => rw [q] at hk; cases hk
  | some b =>
    rw [q] at hk
    cases hk
    exact ⟨b, t, rfl, e⟩
theorem ints_one {lfv : List Value} {y : Nat} (h : IntsAre lfv ([y].map Int.ofNat)) : ∃ t, lfv = [.int (y : Int) t] := by
  cases h with
  | cons n t hr => cases hr; exact ⟨t, rfl⟩
theorem news_more {h₀ h : Heap} {L : Addr} {r : List (Addr × Obj)} (N : News h₀ L h r) {p : Addr × Obj} (hp : p ∈ r) : News h₀ L h (p :: r) := fun q hq => by
  rcases List.mem_cons.mp hq with rfl | hq
  · exact N _ hp
  · exact N _ hq
theorem meas_lt {a b : Nat} (h : a + b ≤ 12) (hb : 0 < b) : 2 * (12 - (a + b)) + 1 < 2 * (12 - a) + 1 := by omega
theorem any_nat {l : List Nat} {a : Nat} : (l.map Int.ofNat).any (· == (a : Int)) = l.contains a := by
  induction l with
  | nil => rfl
  | cons b r ih =>
    rw [List.map_cons, List.any_cons, ih, List.contains_cons]
    congr 1
    by_cases h : b = a
    · subst h; simp
    · have h1 : ((Int.ofNat b == (a : Int)) = false) := by rw [beq_eq_false_iff_ne]; intro z; exact h (Int.ofNat.inj z)
      have h2 : (a == b) = false := by rw [beq_eq_false_iff_ne]; exact fun z => h z.symm
      rw [h1, h2]
theorem count_nat {l : List Nat} {a : Nat} : (l.map Int.ofNat).count (a : Int) = l.count a := by
  induction l with
  | nil => rfl
  | cons b r ih =>
    rw [List.map_cons, List.count_cons, List.count_cons, ih]
    congr 1
    by_cases h : b = a
    · subst h; simp
    · have h1 : ((Int.ofNat b == (a : Int)) = false) := by rw [beq_eq_false_iff_ne]; intro z; exact h (Int.ofNat.inj z)
      have h2 : (b == a) = false := by rw [beq_eq_false_iff_ne]; exact h
      rw [h1, h2]
end
end Mine
end
section
open PySem PySem.W PyProof.Rows PySem.Spec PySem.Calls
set_option maxRecDepth 100000
namespace Mine
section
open LCg
variable {M : Model} {A : Around} {E : Value → Shared → Prop} {s : Shared}
theorem push_head {h₀ h : Heap} {L : Addr} {m : Str → Option Value} {o : Obj} {r : List (Addr × Obj)} (F : Fr h₀ L h m) (N : News h₀ L h r) (hof : o.isFreed = false) :
    News h₀ L (h.push o) ((h.objs.size, o) :: r) ∧ ∀ p ∈ r, @LT.lt Nat _ p.1 h.objs.size := by
  refine ⟨fun p hp => ?_, fun p hp => Heap.lt_size (N p hp).1⟩
  rcases List.mem_cons.mp hp with rfl | hp
  · exact ⟨Heap.get?_push_size _ hof, Ne.symm (Nat.ne_of_lt F.ns.lt), next_is_new F⟩
  · exact ⟨Heap.get?_push_of_some _ (N p hp).1, (N p hp).2⟩
theorem newEnv_cell {scope : Scope} {x : Str} {cl : List (Str × Addr)} {globals : Addr} {qual : Str} {func : Option Addr} {code : Value} {env : Env} {builtins : Addr} {Q : Env → Shared → Prop}
    (hcf : ∀ a, cellsFrom a scope.names cl = (x, a) :: cl) (hpc : ∀ h, pushCells h scope.names = h.push { cls := .type "cell", data := .cell none })
    (hQ : Q (newEnv scope s.heap.objs.size globals ((x, s.heap.objs.size + 1) :: cl) qual func code (some env) builtins) { s with heap := (s.heap.push { cls := .type "dict", data := .dict #[] }).push { cls := .type "cell", data := .cell none } }) :
    wpAny M A (newFunctionEnv scope globals cl [] qual func code (some env) builtins) Q E s := by
  simp only [newFunctionEnv, Option.isSome_some, if_true]
  refine wpAny_bind (wpAny_alloc ?_)
  refine wpAny_bind (wpAny_layCells _ (fun name kind cells => by cases hkc : kind == NameKind.cell <;> simp [hkc]) _ _ _ _ ?_)
  rw [hcf, hpc, List.forIn_nil]
  rw [show ({ s with heap := s.heap.push { cls := .type "dict", data := .dict #[] } } : Shared).heap.objs.size = s.heap.objs.size + 1 from Heap.size_push ..]
  exact wpAny_bind (wpAny_pure (wpAny_pure hQ))
end
section
open LCg
variable {prog : Program} {w : World} {A : Around} {E : Value → Shared → Prop} {s : Shared} {h₀ : Heap} {L : Addr} {m : Str → Option Value} {env : Env}
def CellEnd (h₀ : Heap) (L : Addr) (m : Str → Option Value) (s₁ : Shared) (led : List (Addr × Obj)) (rest : Value → Prop) (y : Value) (s₂ : Shared) : Prop :=
  ∃ h' tk, s₂ = { s₁ with heap := h', toks := tk } ∧ Fr h₀ L h' m ∧ News h₀ L h' led ∧ rest y
def CellSrc (prog : Program) (w : World) (A : Around) (h₀ : Heap) (L : Addr) (m : Str → Option Value) (env : Env) (ct elt : Expr) (x : Str) (scope : Scope) (cl : List (Str × Addr)) (Fin : Shared → List Value → List (Addr × Obj) → Prop) (n : Nat) (keep : Nat → Bool) (xv : Value) (s₁ : Shared) : Prop :=
  ∃ r t u v news, xv = .ref r ∧ Fr h₀ L s₁.heap m ∧ News h₀ L s₁.heap news ∧ IsRange s₁.heap r 0 n 1 t u v ∧
    (∀ (s₂ : Shared) (i : Nat) t I oI C oC D c oc ys h tk (E' : Value → Shared → Prop), (∃ g tk9, s₂ = { s₁ with heap := g, toks := tk9 }) → i < n → oc.data = .cell (some (.int (i : Int) t)) → NsObj oC (fun _ => none) → Fr h₀ L h m → News h₀ L h ((I, oI) :: (C, oC) :: (D, lst ys) :: (c, oc) :: news) → Off3 I C D ((c, oc) :: news) → Off1 c news →
      ((@Ne Nat I C) ∧ (@Ne Nat I D) ∧ (@Ne Nat C D)) →
      wpAny (model prog w) A (isTrue ct (compEnvC scope ((x, c) :: cl) C env) (eval ct (compEnvC scope ((x, c) :: cl) C env))) (fun ok s' => if ok = true then
        wpAny (model prog w) A (eval elt (compEnvC scope ((x, c) :: cl) C env)) (CellEnd h₀ L m { s₂ with heap := h, toks := tk } ((I, oI) :: (C, oC) :: (D, lst ys) :: (c, oc) :: news) (fun y => keep i = true ∧ ∃ u, y = .int (i : Int) u)) E' s'
        else CellEnd h₀ L m { s₂ with heap := h, toks := tk } ((I, oI) :: (C, oC) :: (D, lst ys) :: (c, oc) :: news) (fun _ => keep i = false) Value.none s') E' { s₂ with heap := h, toks := tk }) ∧
    ∀ (s₂ : Shared) (ys : List Value), (∃ g tk9, s₂ = { s₁ with heap := g, toks := tk9 }) → IntsAre ys (((List.range n).filter keep).map Int.ofNat) → Fin s₂ ys news
theorem lookup_relabel_cell {env : Env} : ∀ {names : List (Str × NameKind)} {x : Str}, names.lookup x = some .cell →
    (names.map fun (n, k) => if (k == NameKind.free && env.scope.kind == .function && env.kindOf n == some .cell) then (n, NameKind.cell) else (n, k)).lookup x = some .cell
  | [], _, h => by simp at h
  | (n, k) :: r, x, h => by
    have ih := @lookup_relabel_cell env r x
    show List.lookup x ((if (k == NameKind.free && env.scope.kind == .function && env.kindOf n == some .cell) = true then (n, NameKind.cell) else (n, k)) :: _) = _
    cases hx : x == n with
    | true =>
      simp only [List.lookup_cons, hx] at h
      cases h
      simp [List.lookup_cons, hx]
    | false =>
      simp only [List.lookup_cons, hx] at h
      by_cases hc : (k == NameKind.free && env.scope.kind == .function && env.kindOf n == some .cell) = true
      · rw [if_pos hc]; simp only [List.lookup_cons, hx]; exact ih h
      · rw [if_neg hc]; simp only [List.lookup_cons, hx]; exact ih h
theorem Assign_ListComp_cell {ct elt iter : Expr} {x y : Str} {px py : Pos} {scope : Scope} {cl : List (Str × Addr)} {pos spos : Pos} {Q : Flow → Shared → Prop} (n : Nat) (keep : Nat → Bool) (_F₀ : Fr h₀ L s.heap m) (hh0 : A.handled = none) (hLe : env.locals = L)
    (hsw : swapsWith (.ListComp elt [⟨.Name x px, iter, [ct], 0⟩] scope pos) (some (.Name y py)) spos.line env = pure true)
    (hclos : closureFor scope env = pure cl) (hcf : ∀ a, cellsFrom a scope.names cl = (x, a) :: cl) (hpc : ∀ h, pushCells h scope.names = h.push { cls := .type "cell", data := .cell none }) (hkind : scope.kind = .function)
    (hnames : ∀ z ∈ scope.names, z.2 = .local → scope.names.lookup z.1 = some .local) (hx : scope.names.lookup x = some .cell)
    (hy : env.kindOf y = some .local) (hp : (env.scope.kind == .class || (env.scope.kind == .module && env.locals != env.globals)) = false)
    (hsm : Builtin.Range.small 0 n 1 = true) (hsz : Builtin.Range.rangeSize 0 n 1 = n) (hn1 : n ≤ sizeLine)
    (h : wpAny (model prog w) A (eval iter env) (CellSrc prog w A h₀ L m env ct elt x scope cl (fun s₂ => FinA h₀ L m s₂ y Q) n keep) E s)
    (hs : ∀ x, foldedSetIterable iter env x = pure x := by intro _; rfl) :
    wpAny (model prog w) A (exec (.Assign [.Name y py] (.ListComp elt [⟨.Name x px, iter, [ct], 0⟩] scope pos) spos) env) Q E s := by
  subst hLe
  rw [exec_Assign_Name_used _ _ _ _ hsw]
  refine wpAny_bind (wpAny_standAt (wpAny_bind ?_))
  show wpAny _ A (do let _ ← comprehension (.ListComp elt [⟨.Name x px, iter, [ct], 0⟩] scope pos) scope env _ (newList []) false (eval iter env) (some (assign (.Name y py) env))) _ _ s
  refine wpAny_bind (wpAny_mono (wpAny_comprehension_free (use := some (assign (.Name y py) env)) (Q := fun _ s' => Q .next s') rfl hs hclos hkind hnames
    (wpAny_mono h (fun xv s₁ h₁ => ?_) fun _ _ e => e)) (fun _ s' hq => wpAny_pure (wpAny_pure hq)) fun _ _ e => e)
  obtain ⟨r, t, u, v, news, rfl, F, N, hR, turn, fin⟩ := h₁
  refine wpAny_pyIter_range hR hsm ?_
  refine wpAny_newObj_type (newEnv_cell hcf hpc ?_)
  dsimp only
  rw [hsz]
  obtain ⟨hh, gg, dr, tk0, os⟩ := s₁
  dsimp only at *
  obtain ⟨N1, l1⟩ := push_head F N (o := { cls := .type "range_iterator", data := .fields #[rawInt 0, rawInt n, rawInt 1] }) rfl
  have F1 := F.push { cls := .type "range_iterator", data := .fields #[rawInt 0, rawInt n, rawInt 1] }
  generalize hH1 : hh.push { cls := .type "range_iterator", data := .fields #[rawInt 0, rawInt n, rawInt 1] } = H1 at *
  obtain ⟨N2, l2⟩ := push_head F1 N1 (o := { cls := .type "list", data := .seq ([] : List Value).toArray }) rfl
  have F2 := F1.push { cls := .type "list", data := .seq ([] : List Value).toArray }
  generalize hH2 : H1.push { cls := .type "list", data := .seq ([] : List Value).toArray } = H2 at *
  obtain ⟨N3, l3⟩ := push_head F2 N2 (o := { cls := .type "dict", data := .dict #[] }) rfl
  have F3 := F2.push { cls := .type "dict", data := .dict #[] }
  have hNs : ∀ _b : Nat, (H2.push { cls := .type "dict", data := .dict #[] }).Ns H2.objs.size (fun _ => none) := fun _ => Heap.Ns.new H2 (.type "dict")
  have e3 : (H2.push { cls := .type "dict", data := .dict #[] }).objs.size = H2.objs.size + 1 := Heap.size_push ..
  have g3 : (H2.push { cls := .type "dict", data := .dict #[] }).get? H2.objs.size = some { cls := .type "dict", data := .dict #[] } := Heap.get?_push_size _ rfl
  generalize hH3 : H2.push { cls := .type "dict", data := .dict #[] } = H3 at *
  obtain ⟨N4, l4⟩ := push_head F3 N3 (o := { cls := .type "cell", data := .cell none }) rfl
  have F4 := F3.push { cls := .type "cell", data := .cell none }
  generalize hH4 : H3.push { cls := .type "cell", data := .cell none } = H4 at *
  rw [e3] at N4 l4
  have hoC : NsObj { cls := .type "dict", data := .dict #[] } (fun _ => none) := by
    obtain ⟨o, he, hn⟩ := ns_obj (hNs 0)
    rw [g3] at he
    cases he
    exact hn
  clear hNs g3 e3
  have hID : @LT.lt Nat _ hh.objs.size H1.objs.size := l2 _ (.head _)
  have hDC : @LT.lt Nat _ H1.objs.size H2.objs.size := l3 _ (.head _)
  generalize hh.objs.size = I at *
  generalize H1.objs.size = D at *
  generalize H2.objs.size = C at *
  have nI : ∀ p ∈ news, @LT.lt Nat _ p.1 I := l1
  have offA : Off3 I C D ((C + 1, ({ cls := .type "cell", data := .cell none } : Obj)) :: news) := Off3.of fun p hp => by
    rcases List.mem_cons.mp hp with rfl | hp
    · exact ⟨Nat.ne_of_gt (by omega), Nat.ne_of_gt (by omega), Nat.ne_of_gt (by omega)⟩
    · have := nI p hp
      exact ⟨Nat.ne_of_lt this, Nat.ne_of_lt (by omega), Nat.ne_of_lt (by omega)⟩
  have offB : ∀ p ∈ news, @LT.lt Nat _ p.1 (C + 1) := fun p hp => by have := nI p hp; omega
  have o1 : ∀ {l : List (Addr × Obj)} {b : Addr}, (∀ p ∈ l, @LT.lt Nat _ p.1 b) → Off1 b l := fun {l b} => by
    induction l with
    | nil => exact fun _ => trivial
    | cons q r ih => exact fun z => ⟨Nat.ne_of_lt (z q (.head _)), ih fun p hp => z p (.tail _ hp)⟩
  have offE : ∀ oc : Obj, Off3 I C D ((C + 1, oc) :: news) := fun oc => ⟨offA.1, offA.2⟩
  have N5 : News h₀ env.locals H4 ((I, { cls := .type "range_iterator", data := .fields #[rawInt 0, rawInt n, rawInt 1] }) :: (C, { cls := .type "dict", data := .dict #[] }) :: (D, lst []) :: (C + 1, { cls := .type "cell", data := .cell none }) :: news) := fun p hp => by
    rcases List.mem_cons.mp hp with rfl | hp
    · exact N4 _ (.tail _ (.tail _ (.tail _ (.head _))))
    rcases List.mem_cons.mp hp with rfl | hp
    · exact N4 _ (.tail _ (.head _))
    rcases List.mem_cons.mp hp with rfl | hp
    · exact N4 _ (.tail _ (.tail _ (.head _)))
    rcases List.mem_cons.mp hp with rfl | hp
    · exact N4 _ (.head _)
    exact N4 _ (.tail _ (.tail _ (.tail _ (.tail _ hp))))
  have loop : codeAny (model prog w) A (.compLoop (.ListComp elt [⟨.Name x px, iter, [ct], 0⟩] scope pos) 0 (.ref I) (.ref D) (compEnvC scope ((x, C + 1) :: cl) C env))
      (compPost (model prog w) A E (some (assign (.Name y py) env)) (fun _ s' => Q .next s') (.ref D) C) { heap := H4, gens := gg, drawn := dr, toks := tk0, os := os } := by
    refine codeAny_compLoop_tests (fun k s' => ∃ (i : Nat) (h : Heap) (tk : Nat) (ys : List Value) (oI oc : Obj) (cv : Option Value), k + i = n ∧ s' = { heap := h, gens := gg, drawn := dr, toks := tk, os := os } ∧ Fr h₀ env.locals h m ∧
      News h₀ env.locals h ((I, oI) :: (C, { cls := .type "dict", data := .dict #[] }) :: (D, lst ys) :: (C + 1, oc) :: news) ∧ rngIt n i oI ∧ oc.data = .cell cv ∧ ys.length ≤ i ∧ IntsAre ys (((List.range i).filter keep).map Int.ofNat)) ?_ n
      ⟨0, H4, tk0, [], _, _, none, rfl, rfl, F4, N5, rfl, rfl, Nat.le_refl _, .nil⟩
    intro k s' ⟨i, h, tk, ys, oI, oc, cv, hki, e, F6, N6, hK, hcv, hyl, hys⟩
    subst e
    have zI := N6 (I, oI) List.mem_cons_self
    have hit : IsRangeIter h I (i : Int) ((n : Int) - (i : Int)) 1 := by have z := zI.1; rw [hK] at z; exact z
    have offI : ∀ p ∈ (C, ({ cls := .type "dict", data := .dict #[] } : Obj)) :: (D, lst ys) :: (C + 1, oc) :: news, p.1 ≠ I := fun p hp => by
      rcases List.mem_cons.mp hp with rfl | hp
      · exact Nat.ne_of_gt (by show I < C; omega)
      rcases List.mem_cons.mp hp with rfl | hp
      · exact Nat.ne_of_gt hID
      rcases List.mem_cons.mp hp with rfl | hp
      · exact Nat.ne_of_gt (by show I < C + 1; omega)
      exact Nat.ne_of_lt (nI p hp)
    by_cases hi : i < n
    · refine wpAny_pyNext_range_item hit (by omega) fun h' hit' hs' => ?_
      dsimp only
      have F7 : Fr h₀ env.locals h' m := F6.change hs' zI.2.1 zI.2.2
      have N7 : News h₀ env.locals h' ((I, { cls := .type "range_iterator", dict := none, data := .fields #[rawInt ((i : Int) + 1), rawInt ((n : Int) - (i : Int) - 1), rawInt 1], slots := #[] }) :: (C, { cls := .type "dict", data := .dict #[] }) :: (D, lst ys) :: (C + 1, oc) :: news) := fun p hp => by
        rcases List.mem_cons.mp hp with rfl | hp
        · exact ⟨hit', zI.2⟩
        · exact ⟨(hs'.2 _ (offI p hp)).trans (N6 p (List.mem_cons_of_mem _ hp)).1, (N6 p (List.mem_cons_of_mem _ hp)).2⟩
      have zc := N7 (C + 1, oc) (.tail _ (.tail _ (.tail _ (.head _))))
      refine wpAny_assign_Name (wpAny_storeName_cell (env := compEnvC scope ((x, C + 1) :: cl) C env) (by simp [compEnvC, relabel, hkind]) (lookup_relabel_cell hx) (by simp [compEnvC]) ⟨oc, zc.1, hcv⟩ fun h8 hc8 hs8 => ?_)
      obtain ⟨oc8, g8, d8⟩ := hc8
      have F8 : Fr h₀ env.locals h8 m := F7.change hs8 zc.2.1 zc.2.2
      have N8 : News h₀ env.locals h8 ((I, { cls := .type "range_iterator", dict := none, data := .fields #[rawInt ((i : Int) + 1), rawInt ((n : Int) - (i : Int) - 1), rawInt 1], slots := #[] }) :: (C, { cls := .type "dict", data := .dict #[] }) :: (D, lst ys) :: (C + 1, oc8) :: news) := fun p hp => by
        rcases List.mem_cons.mp hp with rfl | hp
        · exact ⟨(hs8.2 _ (by show I ≠ C + 1; omega)).trans (N7 _ (.head _)).1, (N7 _ (.head _)).2⟩
        rcases List.mem_cons.mp hp with rfl | hp
        · exact ⟨(hs8.2 _ (by show C ≠ C + 1; omega)).trans (N7 _ (.tail _ (.head _))).1, (N7 _ (.tail _ (.head _))).2⟩
        rcases List.mem_cons.mp hp with rfl | hp
        · exact ⟨(hs8.2 _ (by show D ≠ C + 1; omega)).trans (N7 _ (.tail _ (.tail _ (.head _)))).1, (N7 _ (.tail _ (.tail _ (.head _)))).2⟩
        rcases List.mem_cons.mp hp with rfl | hp
        · exact ⟨g8, zc.2⟩
        have k := N7 p (.tail _ (.tail _ (.tail _ (.tail _ hp))))
        exact ⟨(hs8.2 _ (Nat.ne_of_lt (offB p hp))).trans k.1, k.2⟩
      have eR : (List.range (i + 1)).filter keep = (List.range i).filter keep ++ [i].filter keep := by rw [List.range_succ, List.filter_append]
      have eK : rngIt n (i + 1) { cls := .type "range_iterator", dict := none, data := .fields #[rawInt ((i : Int) + 1), rawInt ((n : Int) - (i : Int) - 1), rawInt 1], slots := #[] } := by
        have e1 : ((n : Int) - (i : Int) - 1) = ((n : Int) - ((i + 1 : Nat) : Int)) := by omega
        rw [e1]; rfl
      refine wpAny_tests_one ?_
      refine wpAny_mono (turn _ i _ I _ C _ D (C + 1) oc8 ys h8 _ _ ⟨_, _, rfl⟩ hi d8 hoC F8 N8 (offE oc8) (o1 offB) ⟨Nat.ne_of_lt (by omega), Nat.ne_of_lt hID, Nat.ne_of_gt hDC⟩) (fun ok s4 h4 => ?_) fun _ _ e => e
      cases ok with
      | true =>
        simp only [if_true] at h4 ⊢
        refine wpAny_mono h4 (fun yv s5 h5 => ?_) fun _ _ e => e
        obtain ⟨h6, tk6, rfl, F9, N9, hkp, u9, rfl⟩ := h5
        have nD1 : @Ne Nat I D := Nat.ne_of_lt hID
        have nD2 : @Ne Nat C D := Nat.ne_of_gt hDC
        have nD3 : ∀ p ∈ (C + 1, oc8) :: news, p.1 ≠ D := fun p hp => by
          rcases List.mem_cons.mp hp with rfl | hp
          · exact Nat.ne_of_gt (by show D < C + 1; omega)
          · exact Nat.ne_of_lt (Nat.lt_trans (nI p hp) hID)
        refine append_K F9 N9 (.tail nD1 (.tail nD2 (.head nD3))) (fun h7 F7 N7 => ?_) (by rw [List.size_toArray]; omega)
        refine ⟨k - 1, by omega, i + 1, h7, tk6, ys ++ [.int (i : Int) u9], _, oc8, _, by omega, rfl, F7, ?_, eK, d8, ?_, ?_⟩
        rotate_left
        · show (ys ++ [_]).length ≤ i + 1
          rw [List.length_append, List.length_singleton]; omega
        · rw [eR, show [i].filter keep = [i] by simp [List.filter_cons, hkp]]
          exact ints_snoc hys
        · have e8 := lst_snoc ys (.int (i : Int) u9)
          intro p hp
          rcases List.mem_cons.mp hp with rfl | hp
          · exact N7 _ (.head _)
          rcases List.mem_cons.mp hp with rfl | hp
          · exact N7 _ (.tail _ (.head _))
          rcases List.mem_cons.mp hp with rfl | hp
          · rw [← e8]; exact N7 _ (.tail _ (.tail _ (.head _)))
          exact N7 _ (.tail _ (.tail _ (.tail _ hp)))
      | false =>
        simp only [Bool.false_eq_true, if_false] at h4 ⊢
        obtain ⟨h6, tk6, rfl, F9, N9, hkp⟩ := h4
        refine ⟨k - 1, by omega, i + 1, h6, tk6, ys, _, oc8, _, by omega, rfl, F9, N9, eK, d8, by omega, ?_⟩
        rw [eR, show [i].filter keep = [] by simp [List.filter_cons, hkp], List.append_nil]
        exact hys
    · have hie : i = n := by omega
      subst hie
      refine wpAny_pyNext_range_end hh0 hit (by omega) fun h' he => ?_
      obtain ⟨F7, N7⟩ := iter_end F6 N6 offI he
      show wpAny _ A (assign (.Name y py) env (.ref D)) _ _ _
      have zC := N7 (C, _) (.head _)
      refine wpAny_assign_Name (wpAny_storeName_local hy F7.ns (fun h₂ hn₂ hs₂ => ?_) hp)
      have hL₀ : h₀.get? env.locals = none := Heap.get?_none_of_le F7.above
      have F₂ : Fr h₀ env.locals h₂ (fun z => if z = y then some (.ref D) else m z) := ⟨hn₂, fun b o e => hs₂.extBut b o (fun q => by rw [q, hL₀] at e; cases e) (F7.keep b o e), F7.above⟩
      refine ⟨fun _ => none, (hoC.ns zC.1).sameBut hs₂ zC.2.1, fun h'' hs'' => fin _ ys ⟨_, _, rfl⟩ hys D h'' _ (F₂.change hs'' zC.2.1 zC.2.2) (fun p hp => ?_) ?_⟩
      · have hp' : p ∈ (C, ({ cls := .type "dict", data := .dict #[] } : Obj)) :: (D, lst ys) :: (C + 1, oc) :: news := by
          rcases List.mem_cons.mp hp with rfl | hp
          · exact .tail _ (.head _)
          · exact .tail _ (.tail _ (.tail _ hp))
        have z : h₂.get? p.1 = some p.2 := hs₂.extBut _ _ (N7 p hp').2.1 (N7 p hp').1
        refine ⟨hs''.extBut _ _ ?_ z, (N7 p hp').2⟩
        rcases List.mem_cons.mp hp with rfl | hp
        · exact Nat.ne_of_lt hDC
        · exact Nat.ne_of_lt (Nat.lt_trans (nI p hp) (Nat.lt_trans hID hDC))
      · exact o1 fun p hp => Nat.lt_trans (nI p hp) hID
  exact codeAny_compStart_list loop (wpAny_pyIter_rangeiter (N5 _ (.head _)).1 loop)
end
end Mine
end
section
open PySem PySem.W PyProof.Rows PySem.Spec PySem.Calls
set_option maxRecDepth 100000
namespace Mine
section
variable {prog : Program} {w : World} {A : Around} {E : Value → Shared → Prop} {s : Shared} {h₀ : Heap} {L D b : Addr} {m : Str → Option Value} {news news' : List (Addr × Obj)} {n n2 : Nat}
theorem extend_any {xs ys : List Value} {Q : Value → Shared → Prop} (F : Fr h₀ L s.heap m) (N : News h₀ L s.heap news) (hb : (b, W.listOf ys.toArray n2) ∈ news)
    (U : Upd D (W.listOf xs.toArray n) (W.listOf (xs ++ ys).toArray (if ys = [] then n else n + 1)) news news') (hz : xs.length + ys.length ≤ 1000)
    (h : ∀ h', Fr h₀ L h' m → News h₀ L h' news' → Q .none { s with heap := h' }) : wpAny (model prog w) A (call (.builtin "list.extend") [.ref D, .ref b]) Q E s := by
  obtain ⟨pre, post, rfl, rfl, a, c⟩ := U.split
  have z := N (D, W.listOf xs.toArray n) (List.mem_append.mpr (.inr (.head _)))
  have hd : ¬(!xs.toArray.isEmpty && Builtin.List.listTooLong (xs.toArray.size + ys.toArray.size)) = true := by
    have : Builtin.List.listTooLong (xs.length + ys.length) = false := by
      unfold Builtin.List.listTooLong
      have := sizeLine_eq
      simp
      omega
    rw [List.size_toArray, List.size_toArray, this]; simp
  refine call_meets PySem.F.slot_list_extend ⟨_, z.1, rfl⟩ PySem.F.entry_list_extend (PySem.F.args_list_extend_2 _ _) (PySem.AutoSeq1.list_extend_list_list_0 D xs.toArray n b ys.toArray n2 hd (by rw [List.size_toArray, sizeLine_eq]; omega) (by rw [List.size_toArray, List.size_toArray, sizeLine_eq]; omega)) ⟨z.1, (N _ hb).1, h _ (F.change (Heap.SameBut.update ..) z.2.1 z.2.2) ?_⟩
  cases ys with
  | nil =>
    have := kl_turn0 (fun x => x ++ ([] : List Value).toArray) N a c (its' := xs.toArray) (by simp) rfl
    simpa using this
  | cons y r =>
    refine kl_turn (fun x => x ++ (y :: r).toArray) N a c ?_ ?_
    · apply Array.toList_inj.mp
      simp
    · simp
end
end Mine
end
section
open PySem PySem.W PyProof.Rows PySem.Spec PySem.Calls
set_option maxRecDepth 100000
namespace Mine
def GoodB (c : ClaimW) (cl : Str → Option Addr) (mean : ExcName → Option Value) (args : List WData) (s₁ : Shared) (res : Result) (s' : Shared) : Prop :=
  ((∃ v d as, res = .ok (.ret v) ∧ (∀ cls, c.raises args cls = false) ∧ ReadsW c.records cl s'.heap v d as ∧ c.post args d args = true ∧
      (c.unshared = true → as.Nodup ∧ ∀ a ∈ as, s₁.heap.get? a = none)) ∨
    (∃ e ob cls, res = .error (.ref e) ∧ s'.heap.get? e = some ob ∧ mean cls = some ob.cls ∧ c.raises args cls = true ∧ s₁.heap.get? e = none)) ∧
  (∀ b o, s₁.heap.get? b = some o → s'.heap.get? b = some o) ∧ s'.os = s₁.os ∧ AllBare s'.gens
theorem kn_postB {M : Model} {A : Around} {cd : Code} {s s₁ : Shared} {cw : ClaimW} {cl : Str → Option Addr} {mean : ExcName → Option Value} {args : List WData} {tabs : List (Addr × Addr)} (hT : TabsAt tabs s₁.heap) (hr : ∀ a x, cw.raises a x = false)
    (h : codeAny M A cd (fun r s' => GoodB cw cl mean args { s₁ with heap := ghostOf s₁.heap tabs } r s' ∧ GrownAll tabs s'.heap) s) : codeAny M A cd (GoodWG cw cl mean args s₁) s :=
  codeAny_mono h fun r s' ⟨⟨hc, hk, hos, hg⟩, hgr⟩ => by
    have keep : ∀ b o, b ∉ tabs.map (·.2) → s₁.heap.get? b = some o → s'.heap.get? b = some o := fun b o hb e => hk b o (ghost_ne e hb)
    have grown : ∀ b o, b ∈ tabs.map (·.2) → s₁.heap.get? b = some o → isCodeTable s₁.heap b ∧ o = tabObj #[] ∧ ∃ ps, s'.heap.get? b = some (tabObj ps) := fun b o hb e => by
      obtain ⟨q, hq, rfl⟩ := List.mem_map.mp hb
      have e2 := (hT q hq).2
      rw [e] at e2
      exact ⟨((hT q hq).1.tab (hT q hq).2).isCodeTable, Option.some.inj e2, hgr.get q hq⟩
    refine ⟨?_, ⟨fun b o e => ?_, fun b o e => ?_⟩, hos, hg⟩
    · rcases hc with ⟨v, d, as, r1, r2, r3, r4, r5⟩ | ⟨e, ob, x, _, _, _, r4, _⟩
      · refine .inl ⟨v, d, as, r1, r2, r3, r4, fun q => ⟨(r5 q).1, fun a ha => ?_⟩⟩
        cases q1 : s₁.heap.get? a with
        | none => rfl
        | some o =>
          by_cases hb : a ∈ tabs.map (·.2)
          · obtain ⟨_, _, ps, hP⟩ := grown a o hb q1
            exact absurd ha (readsW_apart hP rfl r3)
          · have e3 := (r5 q).2 a ha
            rw [show (ghostOf s₁.heap tabs).get? a = some o from ghost_ne q1 hb] at e3
            cases e3
      · rw [hr] at r4; cases r4
    · by_cases hb : b ∈ tabs.map (·.2)
      · obtain ⟨ht, rfl, ps, hP⟩ := grown b o hb e
        exact .inr (.inl ⟨ht, rfl, #[], ps, rfl, by rw [Array.empty_append]; exact hP⟩)
      · exact .inl (keep b o hb e)
    · by_cases hb : b ∈ tabs.map (·.2)
      · obtain ⟨_, _, ps, hP⟩ := grown b o hb e
        exact ⟨_, hP⟩
      · exact ⟨o, keep b o hb e⟩
theorem good_turnB {c : ClaimW} {cl : Str → Option Addr} {mean : ExcName → Option Value} {args : List WData} {s₁ s' : Shared} {L : Addr} {m : Str → Option Value} {hb : Heap} {b : Bool}
    (T : KtsTurn [] s₁.heap hb) (F : Fr hb L s'.heap m) (hg : AllBare s'.gens) (hn : ∀ cls, c.raises args cls = false) (hp : c.post args (.bool b) args = true) (hos : s'.os = s₁.os := by rfl) : GoodB c cl mean args s₁ (.ok (.ret (.bool b))) s' :=
  ⟨.inl ⟨_, _, _, rfl, hn, .bool b, hp, unshared_nil⟩, fun a o e => F.keep a o (T.other a o e (by simp)), hos, hg⟩
theorem is_ref_same {M : Model} {A : Around} {E : Value → Shared → Prop} {s : Shared} {a : Addr} {Q : Value → Shared → Prop} (h : Q (.bool true) s) : wpAny M A (compareOp .Is (.ref a) (.ref a)) Q E s := by
  show wpAny M A (do return Value.bool (← isSame (.ref a) (.ref a))) Q E s
  exact wpAny_bind (wpAny_isSame_ref_self (wpAny_pure h))
theorem bare_fin {gens : Array GenState} (h : gens = #[]) : AllBare (gens.push .finished) := AllBare.push (AllBare.of_eq h) rfl
end Mine
end
section
open PySem PySem.W PyProof.Rows
set_option maxRecDepth 100000
local macro_rules | `(tactic| k_all) => `(tactic| assumption)
local macro_rules | `(tactic| k_room) => `(tactic| ktr_room)
local macro_rules | `(tactic| ke_room) => `(tactic| ktr_units)
local macro_rules | `(tactic| k_units) => `(tactic| ktr_units)
local macro_rules | `(tactic| k_ne) => `(tactic| (refine neN ?_; (try dsimp only); first | (with_reducible assumption) | ((with_reducible refine Ne.symm ?_); (with_reducible assumption))))
local macro_rules | `(tactic| walk_at "pyIter ref") => `(tactic| ((with_reducible show wpAny _ _ (pyIter _) (fun it s₂ => PySem.codeAny _ _ _ _ _) _ _); refine Mine.stop_here ?_))
local macro_rules | `(tactic| walk_at "exec For Name Subscript cons nil") => `(tactic| (refine Mine.stop_here ?_))
local macro_rules | `(tactic| walk_at "exec For Name ListComp cons nil") => `(tactic| (refine Mine.stop_here ?_))
local macro_rules | `(tactic| walk_at "exec For Name Call cons nil") => `(tactic| (refine Mine.stop_here ?_))
local macro_rules | `(tactic| walk_at "call ref") => `(tactic| ((with_reducible show wpAny _ _ (call (Value.ref 592) _) _ _ _); refine Mine.stop_here ?_))
local macro_rules | `(tactic| walk_at "call ref") => `(tactic| ((with_reducible show wpAny _ _ (call (Value.ref 28) _) _ _ _); refine Mine.stop_here ?_))
local macro_rules | `(tactic| walk_at "eval ListComp") => `(tactic| ((with_reducible show wpAny _ _ (PySem.eval (PySem.Expr.ListComp (PySem.Expr.Subscript _ _ _) _ _ _) _) _ _ _); refine Mine.stop_here ?_))
local macro_rules | `(tactic| walk_at "eval ListComp") => `(tactic| ((with_reducible show wpAny _ _ (PySem.eval (PySem.Expr.ListComp (PySem.Expr.Name _ _) _ _ _) _) _ _ _); refine Mine.stop_here ?_))
local macro_rules | `(tactic| walk_at "exec Assign cons ListComp") => `(tactic| ((with_reducible show wpAny _ _ (PySem.exec (PySem.Stmt.Assign _ (PySem.Expr.ListComp (PySem.Expr.Name _ _) _ _ _) _) _) _ _ _); refine Mine.stop_here ?_))
local macro_rules | `(tactic| walk_at "CellSrc") => `(tactic| (refine Mine.stop_here ?_))
local macro_rules | `(tactic| walk_at "CellEnd") => `(tactic| (refine Mine.stop_here ?_))
local macro_rules | `(tactic| walk_at "call builtin:list.extend") => `(tactic| (refine Mine.stop_here ?_))
local macro_rules | `(tactic| walk_at "compareOp NotEq ref ref") => `(tactic| (refine Mine.stop_here ?_))
local macro_rules | `(tactic| walk_at "call builtin:list.count") => `(tactic| (k_here; k_dflt (refine' count_list_ints ?li ?ii ?_; (case li => exact News.isList (by k_asm) (by k_mem)); (case ii => assumption); k_whole)))
local macro_rules | `(tactic| walk_at "call builtin:len") => `(tactic| (refine Mine.stop_here ?_))
local macro_rules | `(tactic| walk_at "compareOp Is ref ref") => `(tactic| (refine Mine.stop_here ?_))
local macro_rules | `(tactic| walk_at "compareOp Is") => `(tactic| (refine Mine.stop_here ?_))
local macro_rules | `(tactic| walk_at "WPost") => `(tactic| (refine Mine.stop_here ?_))
local macro_rules | `(tactic| walk_at "CompSrcT") => `(tactic| (refine Mine.stop_here ?_))
local macro_rules | `(tactic| walk_at "CompEnd") => `(tactic| ((with_reducible show LCg.CompEnd _ _ _ _ _ _ _ _ _ _ _ (fun _ _ => _ ∧ _) _ _); refine Mine.stop_here ?_))
local macro_rules | `(tactic| walk_at "compareOp In int ref") => `(tactic| (k_here; k_dflt (refine' in_list_ints ?li ?ii ?_; (case li => exact News.isList (by k_asm) (by k_mem)); (case ii => assumption); k_whole)))
local macro_rules | `(tactic| walk_at "compareOp NotIn int ref") => `(tactic| (k_here; k_dflt (refine' notin_list_ints ?li ?ii ?_; (case li => exact News.isList (by k_asm) (by k_mem)); (case ii => assumption); k_whole)))
local macro_rules | `(tactic| walk_at "exec While Name cons nil") => `(tactic| (refine Mine.stop_here ?_))
local macro_rules | `(tactic| walk_at "exec While") => `(tactic| (refine Mine.stop_here ?_))
local macro_rules | `(tactic| walk_at "subscriptTail") => `(tactic| ((with_reducible show wpAny _ _ (subscriptTail _ _ (Value.ref _) (Value.int _ _)) _ _ _); refine Mine.stop_here ?_))
local macro_rules | `(tactic| walk_at "subscriptTail Name Name ref int") => `(tactic| (refine Mine.stop_here ?_))
local macro_rules | `(tactic| walk_at "call type:list") => `(tactic| (refine Mine.stop_here ?_))
local macro_rules | `(tactic| walk_at "AfterTry") => `(tactic| (refine Mine.stop_here ?_))
local macro_rules | `(tactic| walk_at "exec Try") => `(tactic| ((fail_if_success (with_reducible show wpAny _ _ _ (Mine.AfterTry _) _ _)); refine Mine.stop_here ?_))
local macro_rules | `(tactic| walk_at "setItem ref int") => `(tactic| (refine Mine.stop_here ?_))
local macro_rules | `(tactic| walk_at "call builtin:list.append") => `(tactic| (refine Mine.stop_here ?_))
local macro_rules | `(tactic| walk_at "TurnEnd") => `(tactic| (refine Mine.stop_here ?_))
set_option hygiene false
local macro_rules | `(tactic| kn_posts) => `(tactic| refine Mine.kn_postB hT9 (fun _ _ => rfl) ?_)
set_option hygiene true
namespace Mine
theorem three_names {h₀ h : Heap} {L a b c : Addr} {o1 o2 o3 : Obj} {LED : List (Addr × Obj)} (_ : News h₀ L h ((a, o1) :: (b, o2) :: (c, o3) :: LED)) : ∃ a' b' c', a' = a ∧ b' = b ∧ c' = c := ⟨_, _, _, rfl, rfl, rfl⟩
theorem tail3 {h₀ h : Heap} {L : Addr} {a b c : Addr × Obj} {LED : List (Addr × Obj)} (N : News h₀ L h (a :: b :: c :: LED)) : ∃ LED', LED' = LED ∧ News h₀ L h (a :: b :: c :: LED') := ⟨_, rfl, N⟩
structure D1 where
  u : Option Value
  hv : List Value
  rv : List Value
  zh : Nat
  zr : Nat
structure D2 where
  ov : Obj
  xs : List Addr
  zn : Nat
  c0 : Addr
  tab : Obj
  G : List (Addr × Obj)
structure D3 where
  uw : Option Value
  uwt : Option Value
  ub : Option Value
  ov : Obj
  lfv : List Value
  zl : Nat
structure D4 where
  uw : Option Value
  b : Nat
  tb : Tok
  wt : Value
def Waits (o : Option Nat) (v : Value) : Prop := match o with
  | none => v = .none
  | some a => ∃ t, v = .int (a : Int) t
def HR (hv rv : List Value) (i : Nat) : Prop := ∃ (hl rl : List Int), IntsAre hv hl ∧ hl.length = 12 ∧ (∀ v ∈ hl, 0 ≤ v ∧ v < 12) ∧ IntsAre rv rl ∧ (∀ v ∈ rl, 0 ≤ v ∧ v < 12) ∧ rl.length ≤ 3 + i ∧ 0 < rl.length
set_option maxHeartbeats 16000000 in
set_option pp.deepTerms false in
set_option pp.deepTerms.threshold 8 in
theorem fin09 : PySem.Challenge.rw_km0038_09.Holds := hd (by
  w_on
  w_strict (k_go0; (all_goals try k_fold); k_steps)
  unfold Stop
  refine wpAny_For ?_
  w_strict k_steps
  unfold Stop
  rename Fr _ _ _ _ => F1
  rename News _ _ _ _ => N1
  rename IntsAre _ (List.take 40 _) => hI1
  rename IntsAre _ (List.map (fun k' => Int.fdiv k' 2) _) => hI8
  rename PySem.Shared => s1
  obtain ⟨m₀, hm₀, F1b⟩ := fr_name F1
  obtain ⟨D, R, HH, eD, eR, eH⟩ := three_names N1
  subst eD
  subst eR
  subst eH
  rename @Ne Nat _ HH ∧ _ => oHH
  obtain ⟨hh5, hh4, hh3, hh2, hh1, hh7⟩ := oHH
  rename List Int => scr
  obtain ⟨LED, hLED, N1b⟩ := tail3 N1
  rename List Value => ws
  have hwl : ws.length ≤ 40 := by
    have := hI1.length
    rw [List.length_take] at this
    omega
  refine over_list (s1 := s1) (fun (d : D1) y => if y = Str.ofString "x" then d.u else m₀ y) (fun d => (D, W.listOf ws.toArray 0) :: (R, W.listOf d.rv.toArray d.zr) :: (HH, W.listOf d.hv.toArray d.zh) :: LED)
    (fun _ i d => HR d.hv d.rv i) ⟨m₀ (Str.ofString "x"), _, _, _, _⟩ F1b N1b ⟨_, _, rfl⟩ (fun y => fr_one_eq) (fun p hp => hp) ?hP1 (fun _ _ _ _ => .head _) ?turn1 ?fin1 ?hE1 rfl
  case hE1 => first | passes_own | with_unfolding_all passes_own
  case hP1 =>
    intro _ _
    have e8 : (List.map (fun k' => Int.fdiv k' 2) (rangeKs 0 ((12 : Int) - 0).toNat)) = [0, 0, 1, 1, 2, 2, 3, 3, 4, 4, 5, 5] := by decide +kernel
    rw [e8] at hI8
    exact ⟨_, [8, 9, 5], hI8, rfl, by decide, .cons _ _ (.cons _ _ (.cons _ _ .nil)), by decide, by simp, by decide⟩
  case turn1 =>
    intro I oI i d h tk v hv hi F3 N3 off ⟨hl, rl, h1, h2, h3, h4, h5, h6, h7⟩
    obtain ⟨k9, t9, hk9, e9⟩ := ints_at hI1 hv
    subst e9
    obtain ⟨u1, hv, rv, zh, zr⟩ := d
    dsimp only at *
    refine wpAny_assign_Name ?_
    clear F1 N1 F1b N1b
    subst hm₀
    subst hLED
    (try dsimp only)
    have oR : @Ne Nat R I := off (R, _) (.tail _ (.head _))
    have oH : @Ne Nat HH I := off (HH, _) (.tail _ (.tail _ (.head _)))
    have hm12 (z : Int) : 0 ≤ z.fmod 12 ∧ z.fmod 12 < 12 := ⟨Int.fmod_nonneg_of_pos _ (by decide), Int.fmod_lt_of_pos _ (by decide)⟩
    w_strict k_steps
    · unfold Stop
      rename Fr _ _ _ _ => F4
      rename News _ _ _ _ => N4
      k_dflt (refine' ksa_set F4 N4 ?Uk h1 (hm12 _).1 (by rw [h2]; exact (hm12 _).2) (Int.lt_of_lt_of_le (hm12 _).2 (by decide)) (fun h' F5 N5 g1 g2 _ => ?_); (case Uk => k_upd))
      w_strict k_steps
      unfold Stop
      dsimp only [TurnEnd]
      rename Fr _ _ _ _ => F6
      rename News _ _ _ _ => N6
      refine ⟨⟨_, _, _, _, _⟩, _, _, rfl, fr_turn1 F6, N6, off_same (by rfl) off, _, rl, g1, g2.trans h2, fun v hv => ?_, h4, h5, by omega, h7⟩
      rcases List.mem_or_eq_of_mem_set hv with hv | rfl
      · exact h3 v hv
      · exact hm12 _
    · unfold Stop
      rename Fr _ _ _ _ => F4
      rename News _ _ _ _ => N4
      k_dflt (refine' append_K F4 N4 ?Ua (fun h' F5 N5 => ?_) ?Uz; (case Ua => k_upd))
      case Uz => have := h4.length; rw [List.size_toArray, sizeLine_eq]; omega
      w_strict k_steps
      unfold Stop
      dsimp only [TurnEnd]
      rename Fr _ _ _ _ => F6
      rename News _ _ _ _ => N6
      rw [List.push_toArray] at N6
      refine ⟨⟨_, _, _, _, _⟩, _, _, rfl, fr_turn1 F6, N6, off_same (by rfl) off, hl, _, h1, h2, h3, h4.append (.cons _ _ .nil), fun v hv => ?_, by rw [List.length_append, List.length_singleton]; omega, by rw [List.length_append]; omega⟩
      rcases List.mem_append.mp hv with hv | hv
      · exact h5 v hv
      · rw [List.mem_singleton.mp hv]; exact hm12 _
  case fin1 =>
    intro I d h tk F3 N3 ⟨hl, rl, h1, h2, h3, h4, h5, h6, h7⟩
    obtain ⟨u1, hv, rv, zh, zr⟩ := d
    dsimp only at *
    clear F1 N1 F1b N1b
    subst hm₀
    subst hLED
    w_strict k_steps
    unfold Stop
    refine wpAny_For ?_
    w_strict k_steps
    unfold Stop
    rename Fr _ _ _ _ => F7
    rename News _ _ _ _ => N7
    rename IsRange _ _ 0 12 1 _ _ _ => hR7
    obtain ⟨m₁, hm₁, F8⟩ := fr_name F7
    obtain ⟨LA, LN, o5c, o4, o3, o2, o1, eA, eN, e5, e4, e3, e2, e1⟩ := cells_name N7
    subst eA
    subst eN
    subst e5
    subst e4
    subst e3
    subst e2
    subst e1
    rename PySem.World => w
    refine over_range (s1 := s1) (fun (_ : D2) => m₁) (fun d => (LA, W.listOf #[] 0) :: (LN, W.listOf (d.xs.map Value.ref).toArray d.zn) :: (D, W.listOf ws.toArray 0) :: (R, W.listOf rv.toArray zr) :: (HH, W.listOf hv.toArray zh) :: (s1.heap.objs.size + 1 + 1 + 1 + 1 + 1, o5c) ::
        (s1.heap.objs.size + 1 + 1 + 1 + 1, o4) :: (s1.heap.objs.size + 1 + 1 + 1, o3) :: (s1.heap.objs.size + 1 + 1, o2) :: (s1.heap.objs.size + 1, d.ov) :: (587, d.tab) :: d.G)
      (fun I i d => (∃ c, d.ov.data = .cell c) ∧ d.xs.length = i ∧ NetsI w.params LN HH LA d.c0 d.tab d.xs d.G) ⟨_, [], 0, 587, _, []⟩ 12 F8 N7 ⟨_, _, rfl⟩ (fun _ => rfl) (fun p hp => hp) ?hP2 hR7 (by decide) (by decide) ?turn2 ?fin2 ?hE2 rfl
    case hE2 => first | passes_own | with_unfolding_all passes_own
    case hP2 =>
      intro _ _
      exact ⟨⟨_, by assumption⟩, rfl, NetsI.nil⟩
    case turn2 =>
      intro I2 oI2 i d h tk t hi F9 N9 off ⟨⟨cv, hcv⟩, hxl, hns⟩
      obtain ⟨ov, xs, zn, c0, tab, G⟩ := d
      dsimp only at *
      refine wpAny_assign_Name ?_
      have offs := offs_of off
      simp only [Offs] at offs
      have gc1 := all_gt (b := s1.heap.objs.size + 1) hns.2.2.2 (by omega)
      clear F7 N7 F8
      subst hm₁
      w_strict k_steps
      unfold Stop
      rename Fr _ _ _ _ => F10
      rename News _ _ _ _ => N10
      rename Below _ _ _ _ => B10
      rename PySem.W.Frag.In _ _ => X10
      rename Top _ _ _ _ _ (ghostOf _ _) => T10
      obtain ⟨ov', eov, hov⟩ := cell_name N10 (by assumption)
      subst eov
      refine net_any w (outer := []) B10 F10 X10 (N10.perm led_net) T10 (by rfl) (by rfl) (by assumption) ?hoff2 ⟨by omega, by omega, by omega, by omega⟩ hns hxl (fun p hp => by repeat (first | exact hp | apply List.Mem.tail)) ?dp2 ?un2 ?rS2
      case hoff2 =>
        have gt5 := all_gt (b := 587) hns.2.2.2 (by omega)
        refine all_offs ?_
        simp only [Offs]
        exact ⟨by omega, by omega, by omega, by omega, by omega, by omega, by omega, by omega, offs_of gt5⟩
      (case dp2 => ktr_room)
      (case un2 => ktr_units)
      intro h11 tk11 x c1 G' F11 N11 hns' hG'
      have N12 := N11.perm led_net'
      clear F10 N10 N11
      dsimp only
      w_strict k_steps
      unfold Stop
      rename Fr _ _ _ _ => F13
      rename News _ _ _ _ => N13
      have hGI : ∀ p ∈ G', p.1 ≠ I2 := fun p hp => Ne.symm (Nat.ne_of_lt ((hG' p hp).2 _ (.head _)))
      have hGN : ∀ p ∈ G' ++ G, p.1 ≠ LN := all_gt (b := LN) hns'.2.2.2 (by omega)
      have nI : @Ne Nat I2 LN := Ne.symm offs.2.1
      have nA : @Ne Nat LA LN := by omega
      k_dflt (refine' append_K F13 N13 (.tail nI (.tail nA (.head (all_offs ?Ub)))) (fun h' F14 N14 => ?_) ?Uy; (case Ub => simp only [Offs]; exact ⟨by omega, by omega, by omega, by omega, by omega, by omega, by omega, by omega, by omega, offs_of hGN⟩))
      case Uy => rw [List.size_toArray, List.length_map, hxl, sizeLine_eq]; omega
      w_strict k_steps
      unfold Stop
      dsimp only [TurnEnd]
      rename Fr _ _ _ _ => F15
      rename News _ _ _ _ => N15
      rw [List.push_toArray] at N15
      refine ⟨⟨_, xs ++ [x], zn + 1, c1, _, G' ++ G⟩, _, _, rfl, F15, ?_, all_offs ?_, ⟨_, hov⟩, by rw [List.length_append, hxl, List.length_singleton], hns'⟩
      · dsimp only
        rw [List.map_append]
        exact N15
      · simp only [Offs]
        refine ⟨offs.1, offs.2.1, offs.2.2.1, offs.2.2.2.1, offs.2.2.2.2.1, offs.2.2.2.2.2.1, offs.2.2.2.2.2.2.1, offs.2.2.2.2.2.2.2.1, offs.2.2.2.2.2.2.2.2.1, offs.2.2.2.2.2.2.2.2.2.1, offs.2.2.2.2.2.2.2.2.2.2.1, offs_of (offs_app hGI ?_)⟩
        intro p hp
        exact off p (by repeat (first | exact hp | apply List.Mem.tail))
    case fin2 =>
      intro I2 d h tk F9 N9 ⟨⟨cv, hcv⟩, hxl, hns⟩
      obtain ⟨ov, xs, zn, c0, tab, G⟩ := d
      dsimp only at *
      obtain ⟨ps0, hps0⟩ : ∃ ps, tab = tabObj ps := by
        rcases hns.1 with ⟨_, e⟩ | ⟨e, _⟩ <;> exact ⟨_, e⟩
      subst hps0
      clear F7 N7 F8
      subst hm₁
      w_strict k_steps
      unfold Stop
      rename Fr _ _ _ _ => F20
      rename News _ _ _ _ => N20
      rename Below _ _ _ _ => B20
      rename PySem.W.Frag.In _ _ => X20
      rename Top _ _ _ _ _ (ghostOf _ _) => T20
      obtain ⟨m₂, hm₂, F21⟩ := fr_name F20
      obtain ⟨ST, hST⟩ := stand_name B20 X20 T20
      obtain ⟨hrow, hrow12⟩ := row_nat h4 h5
      have hrl : (rl.map Int.toNat).length ≤ 43 := by rw [List.length_map]; omega
      obtain ⟨row, hrowE⟩ : ∃ row, row = rl.map Int.toNat := ⟨_, rfl⟩
      obtain ⟨C, hCE⟩ : ∃ C, C = mkCfg xs hv hl LN HH LA c0 zn zh G := ⟨_, rfl⟩
      have CO : C.Ok w.params := by
        rw [hCE]
        exact cfg_ok hns hxl h1 h2 h3 (by omega) (by omega)
      rw [← hrowE] at hrow hrow12 hrl
      refine mid (fun s' => ∃ (g' h : Heap) (tk : Nat) (tv : Value) (as : Array Value) (za : Nat) (LX : List (Addr × Obj)), s' = { s1 with gens := s1.gens.push .finished, heap := h, toks := tk } ∧
        Fr g' s1.heap.objs.size h (fun y => if y = Str.ofString "told" then some tv else m₂ y) ∧
        News g' s1.heap.objs.size h ((LA, W.listOf as za) :: (LN, W.listOf (xs.map Value.ref).toArray zn) :: (R, W.listOf rv.toArray zr) :: (HH, W.listOf hv.toArray zh) :: (s1.heap.objs.size + 1 + 1 + 1 + 1 + 1, o5c) ::
          (s1.heap.objs.size + 1 + 1 + 1 + 1, o4) :: (s1.heap.objs.size + 1 + 1 + 1, o3) :: (s1.heap.objs.size + 1 + 1, o2) :: (s1.heap.objs.size + 1, ov) :: (587, tabObj ps0) :: LX) ∧
        IntsAre as.toList ((cfin C.hsF ⟨row, [], []⟩).asked.map Int.ofNat) ∧ ToldIs C.X (cfin C.hsF ⟨row, [], []⟩).sub tv LX ∧ ST g' ∧ (∀ p ∈ LX, p.1 ≠ s1.heap.objs.size + 1 ∧ p.1 ≠ s1.heap.objs.size + 1 + 1 + 1 + 1 + 1)) ?main3 ?rest3
      case rest3 =>
        intro s' ⟨g', h', tk', tv, as, za, LX, e, F30, N30, hint, htold, hST', hLX⟩
        subst e
        subst hST
        obtain ⟨T30, B30, X30, P30⟩ := hST'
        obtain ⟨asl, hasl⟩ : ∃ l : List Value, as = l.toArray := ⟨as.toList, by simp⟩
        subst hasl
        replace hint : IntsAre asl ((cfin C.hsF ⟨row, [], []⟩).asked.map Int.ofNat) := hint
        obtain ⟨asked, haskE⟩ : ∃ a, a = (cfin C.hsF ⟨row, [], []⟩).asked := ⟨_, rfl⟩
        rw [← haskE] at hint
        clear F20 N20 F21 B20 X20 T20
        subst hm₂
        w_strict k_steps
        unfold Stop
        refine wpAny_Assign_Name ?_
        refine LCt.ListComp_T F30 (by with_unfolding_all rfl) (by decide) (by rfl) (by decide) (by rfl) ?_
        w_strict k_steps
        unfold Stop
        rename Fr g' _ _ _ => F31
        rename News g' _ _ _ => N31
        rename IsRange _ _ 0 12 1 _ _ _ => hR31
        clear h4
        (try clear F30)
        (try clear N30)
        refine LCt.CompSrcT.range (by rfl) F31 N31 hR31 (by decide) (n := 12) (by decide) (by rw [sizeLine_eq]; decide) fun g9 => ?_
        refine comp_ints (List.range 12) (fun a => row.contains a) (src_range rfl) ?turn4 ?fin4
        case turn4 =>
          intro i a t I oI C9 oC D9 m₃ ys h tk E' ha hC hmx F32 N32 off ne
          w_strict k_steps
          · unfold Stop
            exact LCg.CompEnd.intro F32 N32 _ (fun p hp => hp) off trivial ⟨rfl, by rw [← any_nat]; assumption, _, rfl⟩
          · unfold Stop
            exact LCg.CompEnd.intro F32 N32 _ (fun p hp => hp) off trivial ⟨rfl, by rw [← any_nat]; assumption⟩
        case fin4 =>
          intro fv hfv D5 h5 tk5 F33 N33 o33
          (try dsimp only)
          have o33m := off1_mem o33
          simp only [LCg.Off1] at o33
          obtain ⟨pD1, pD2, pD3, pD4, pD5, pD6, pD7, pD8, pD9, pD10, pDX⟩ := o33
          have lxD : ∀ p ∈ LX, p.1 ≠ D5 := off1_mem pDX
          have lx1 : ∀ p ∈ LX, p.1 ≠ s1.heap.objs.size + 1 := fun p hp => (hLX p hp).1
          have lx5 : ∀ p ∈ LX, p.1 ≠ s1.heap.objs.size + 1 + 1 + 1 + 1 + 1 := fun p hp => (hLX p hp).2
          clear F31 N31
          w_strict k_steps
          unfold Stop
          rename Fr g' _ _ _ => F40
          rename News g' _ _ _ => N40
          obtain ⟨m₃, hm₃, F41⟩ := fr_name F40
          obtain ⟨LED, hLED, N41⟩ := tail_name N40
          have hrA : ∀ v ∈ row, v ∈ asked := by rw [haskE]; exact (asked_closed (hs := C.hsF) (row := row)).1
          refine while_ind ?hEw (fun k s' => ∃ (h : Heap) (tk : Nat) (b : Bool) (um : Option Value) (fam : List Nat) (fvv : List Value) (zf : Nat), k = 2 * (12 - fam.length) + (if b then 1 else 0) ∧
            s' = { s1 with gens := s1.gens.push .finished, heap := h, toks := tk } ∧ Fr g' s1.heap.objs.size h (fun y => if y = Str.ofString "more" then um else if y = Str.ofString "grown" then some (.bool b) else m₃ y) ∧
            News g' s1.heap.objs.size h ((D5, W.listOf fvv.toArray zf) :: LED) ∧ IntsAre fvv (fam.map Int.ofNat) ∧ fam.Nodup ∧ (∀ v ∈ fam, v < 12) ∧ (∀ v ∈ row, v ∈ fam) ∧ (∀ v ∈ fam, v ∈ asked) ∧ (b = false → moreOf C.hsF fam = [])) ?turnW (2 * (12 - ((List.range 12).filter (fun a => row.contains a)).length) + 1) ?startW
          case hEw => first | passes_own | with_unfolding_all passes_own
          case startW =>
            refine ⟨_, _, true, m₃ (Str.ofString "more"), (List.range 12).filter (fun a => row.contains a), fv, _, rfl, rfl, fr_more F41 (by rw [hm₃]; rfl), N41, hfv, List.nodup_range.filter _, fun v hv => ?_, fun v hv => ?_, fun v hv => ?_, fun e => nomatch e⟩
            · exact List.mem_range.mp (List.mem_filter.mp hv).1
            · exact List.mem_filter.mpr ⟨List.mem_range.mpr (hrow12 v hv), by simpa using hv⟩
            · exact hrA v (by simpa using (List.mem_filter.mp hv).2)
          case turnW =>
            intro k s' ⟨h, tk, b, um, fam, fvv, zf, ek, e, F42, N42, hf1, hf2, hf3, hf4, hf5, hf6⟩
            subst e
            clear F40 N40 F41 N41
            subst hm₃
            subst hLED
            (try dsimp only at F42)
            cases b with
            | true =>
              w_strict k_steps
              unfold Stop
              rename Fr g' _ _ _ => F44
              refine Assign_ListComp_cell 12 (fun v => !fam.contains v && decide (1 < (fam.filter fun w => C.hsF w == v).length)) F44 (by rfl) (by rfl) (by with_unfolding_all rfl) (by with_unfolding_all rfl) (fun a => by rfl) (fun h => by rfl) (by rfl) (by decide) (by rfl) (by rfl) (by rfl) (by decide) (by decide) (by rw [sizeLine_eq]; decide) ?_
              w_strict k_steps
              unfold Stop
              rename Fr g' _ _ _ => F45
              rename News g' _ _ _ => N45
              rename IsRange _ _ 0 12 1 _ _ _ => hR45
              (try clear F44)
              refine ⟨_, _, _, _, _, rfl, F45, N45, hR45, ?turnC, ?finC⟩
              case turnC =>
                intro s₂ i t I oI C9 oC D9 c oc ys h9 tk9 E' ⟨g8, tk8, e8⟩ hi hoc hC F46 N46 off off1 ne
                subst e8
                w_strict k_steps
                · unfold Stop
                  refine ⟨_, _, rfl, F46, N46, ?_⟩
                  have hci : fam.contains i = true := by rw [← any_nat]; assumption
                  show (!fam.contains i && _) = false
                  rw [hci]; rfl
                · unfold Stop
                  have hci : fam.contains i = false := by rw [← any_nat]; assumption
                  refine LCt.ListComp_T F46 (by with_unfolding_all rfl) (by decide) (by rfl) (by decide) (by rfl) ?_
                  w_strict k_steps
                  unfold Stop
                  have hfz : fvv.toArray.size = fam.length := by rw [List.size_toArray, hf1.length, List.length_map]
                  refine LCt.CompSrcT.ledger (its := fvv.toArray) (k := zf) (by rfl) F46 N46 (by k_mem) (by rw [hfz, sizeLine_eq]; have := fam_len hf2 hf3; omega) fun g7 => ?_
                  rw [hfz]
                  refine comp_ints fam (fun w => C.hsF w == i) (src_list hf1) ?turnI ?finI
                  case turnI =>
                    intro i2 a t2 I2 oI2 C2 oC2 D2 m₄ ys2 h2 tk2 E2 ha2 hC2 hmx2 F50 N50 off2 ne2
                    obtain ⟨th, hth⟩ := CO.hs a (hf3 a (List.mem_of_getElem? ha2))
                    have hth2 : hv.toArray[((a : Int)).toNat]? = some (.int (C.hsF a : Int) th) := by rw [Int.toNat_natCast, ← hth, hCE]; rfl
                    have ha12 := hf3 a (List.mem_of_getElem? ha2)
                    w_strict k_steps
                    unfold Stop
                    k_dflt (refine' Mine.sub_at ?qN2 ?qm2 ?qa2 ?qb2 hth2 ?_ ?qs2; (case qN2 => k_asm); (case qm2 => k_mem); (case qa2 => omega); (case qb2 => omega); (case qs2 => with_unfolding_all rfl); k_whole)
                    w_strict k_steps
                    · unfold Stop
                      exact LCg.CompEnd.intro F50 N50 _ (fun p hp => hp) off2 (.inr ⟨W.listOf fvv.toArray zf, by k_mem, rfl, zf, rfl⟩) ⟨rfl, beq_iff_eq.mpr (by omega), _, rfl⟩
                    · unfold Stop
                      exact LCg.CompEnd.intro F50 N50 _ (fun p hp => hp) off2 (.inr ⟨W.listOf fvv.toArray zf, by k_mem, rfl, zf, rfl⟩) ⟨rfl, beq_eq_false_iff_ne.mpr (by omega)⟩
                  case finI =>
                    intro lv hlv D7 h7 tk7 F48 N48 o48
                    (try dsimp only)
                    simp only [LCg.Off1] at o48
                    have hlz : lv.toArray.size = (fam.filter fun w => C.hsF w == i).length := by rw [List.size_toArray, hlv.length, List.length_map]
                    have hl12 : (fam.filter fun w => C.hsF w == i).length ≤ 12 := Nat.le_trans (List.length_filter_le _ _) (fam_len hf2 hf3)
                    w_strict k_steps
                    unfold Stop
                    refine PySem.Calls.call_len_list (items := lv.toArray) (News.isList N48 (.head _)) (by rw [hlz]; omega) ?_
                    rw [hlz]
                    w_strict k_steps
                    · unfold Stop
                      refine ⟨_, _, rfl, F48, fun p hp => N48 p (.tail _ hp), ?_, _, rfl⟩
                      show (!fam.contains i && decide (1 < (fam.filter fun w => C.hsF w == i).length)) = true
                      rw [hci]
                      simp only [Bool.not_false, Bool.true_and, decide_eq_true_eq]
                      omega
                    · unfold Stop
                      refine ⟨_, _, rfl, F48, fun p hp => N48 p (.tail _ hp), ?_⟩
                      show (!fam.contains i && decide (1 < (fam.filter fun w => C.hsF w == i).length)) = false
                      rw [hci]
                      simp only [Bool.not_false, Bool.true_and, decide_eq_false_iff_not]
                      omega
              case finC =>
                intro s₂ mv ⟨g8, tk8, e8⟩ hmv D6 h6 tk6 F47 N47 o47
                subst e8
                (try dsimp only)
                simp only [LCg.Off1] at o47
                w_strict k_steps
                unfold Stop
                have hmo : (List.range 12).filter (fun v => !fam.contains v && decide (1 < (fam.filter fun w => C.hsF w == v).length)) = moreOf C.hsF fam := rfl
                rw [hmo] at hmv
                have hnd := more_nodup (hs := C.hsF) hf2
                have h12 : ∀ v ∈ fam ++ moreOf C.hsF fam, v < 12 := fun v hv => by
                  rcases List.mem_append.mp hv with hv | hv
                  · exact hf3 v hv
                  · exact (more_mem.mp hv).1
                have hfl := fam_len hnd h12
                have e1 := hf1.length
                have e2 := hmv.length
                rw [List.length_map] at e1 e2
                rw [List.length_append] at hfl
                k_dflt (refine' extend_any (xs := fvv) (ys := mv) (n := zf) F47 N47 ?qM3 ?qU3 ?qZ3 (fun h8 F51 N51 => ?_); (case qM3 => k_mem); (case qU3 => exact .tail (Ne.symm o47.1) (.head (off_same (by rfl) o33m))))
                case qZ3 => omega
                clear F47 N47
                w_strict k_steps
                unfold Stop
                rename Fr g' _ _ _ => F52
                rename News g' _ _ _ => N52
                refine ne_intsK (News.isList N52 (.tail _ (.head _))) hmv (us := []) (News.isList N52 (.head _)) .nil (by units_room) ?_
                w_strict k_steps
                unfold Stop
                dsimp only [WPost]
                rename Fr g' _ _ _ => F53
                rename News g' _ _ _ => N53
                (try dsimp only at F53)
                have hb' : (!decide ((moreOf C.hsF fam).map Int.ofNat = [])) = decide (moreOf C.hsF fam ≠ []) := by
                  cases moreOf C.hsF fam with
                  | nil => rfl
                  | cons a r => rfl
                rw [hb'] at F53
                refine ⟨_, ?_, _, _, decide (moreOf C.hsF fam ≠ []), _, fam ++ moreOf C.hsF fam, fvv ++ mv, _, rfl, rfl, fr_w (by decide +kernel) F53, fun p hp => N53 p (.tail _ (.tail _ hp)), by rw [List.map_append]; exact hf1.append hmv, hnd, h12, fun v hv => List.mem_append_left _ (hf4 v hv), fun v hv => ?_, fun e => ?_⟩
                · rw [ek, List.length_append]
                  by_cases hm : moreOf C.hsF fam = []
                  · simp [hm]
                  · have : 0 < (moreOf C.hsF fam).length := List.length_pos_iff.mpr hm
                    simp only [hm, ne_eq, not_false_eq_true, decide_true, if_true]
                    exact meas_lt hfl this
                · rcases List.mem_append.mp hv with hv | hv
                  · exact hf5 v hv
                  · rw [haskE]
                    exact more_sub (asked_closed (hs := C.hsF) (row := row)) hf2 (fun u hu => by have := hf5 u hu; rw [haskE] at this; exact this) v hv
                · have hm : moreOf C.hsF fam = [] := by simpa using e
                  rw [hm, List.append_nil]
                  exact hm
            | false =>
              w_strict k_steps
              unfold Stop
              refine wpAny_For ?_
              w_strict k_steps
              unfold Stop
              rename Fr g' _ _ _ => F60
              rename News g' _ _ _ => N60
              rename IsRange _ _ 0 12 1 _ _ _ => hR60
              obtain ⟨LF, hLF, N61⟩ := head_name N60
              subst hLF
              rename @LT.lt Nat _ D5 LF ∧ _ => lF
              obtain ⟨m₅, hm₅, F61⟩ := fr_name F60
              obtain ⟨o5f, eo5, h5f⟩ := fam_name (d := .cell (some (.ref D5))) N61 (by assumption)
              subst eo5
              have lFa : AllLt LF ((D5, W.listOf fvv.toArray zf) :: (LA, W.listOf asl.toArray za) :: (LN, W.listOf (xs.map Value.ref).toArray zn) :: (R, W.listOf rv.toArray zr) :: (HH, W.listOf hv.toArray zh) ::
                  (s1.heap.objs.size + 1 + 1 + 1 + 1 + 1, o5f) :: (s1.heap.objs.size + 1 + 1 + 1 + 1, o4) :: (s1.heap.objs.size + 1 + 1 + 1, o3) :: (s1.heap.objs.size + 1 + 1, o2) :: (s1.heap.objs.size + 1, ov) :: (587, tabObj ps0) :: LX) := lF
              have lFm : ∀ p ∈ (D5, W.listOf fvv.toArray zf) :: (LA, W.listOf asl.toArray za) :: (LN, W.listOf (xs.map Value.ref).toArray zn) :: (R, W.listOf rv.toArray zr) :: (HH, W.listOf hv.toArray zh) ::
                  (s1.heap.objs.size + 1 + 1 + 1 + 1 + 1, o5f) :: (s1.heap.objs.size + 1 + 1 + 1 + 1, o4) :: (s1.heap.objs.size + 1 + 1 + 1, o3) :: (s1.heap.objs.size + 1 + 1, o2) :: (s1.heap.objs.size + 1, ov) :: (587, tabObj ps0) :: LX, p.1 ≠ LF := fun p hp => Nat.ne_of_lt (allLt_mem lFa p hp)
              have lxF : ∀ p ∈ LX, p.1 ≠ LF := fun p hp => Nat.ne_of_lt (allLt_mem lF.2.2.2.2.2.2.2.2.2.2.2 p hp)
              have hfa : ∀ v, v ∈ asked ↔ v ∈ fam := fun v => ⟨fun hv => more_end (fun u hu => CO.lt u hu) hf3 hf4 (hf6 rfl) v (by rw [← haskE]; exact hv), hf5 v⟩
              have hal : ∀ v ∈ asked, v < 12 := by rw [haskE]; exact asked_lt CO.lt hrow12
              have halen : asked.length ≤ 86 := by rw [haskE]; have := asked_len (hs := C.hsF) (row := row); omega
              refine over_range (s1 := { s1 with gens := s1.gens.push .finished }) (fun (d : D3) y => if y = Str.ofString "w" then d.uw else if y = Str.ofString "born" then d.ub else if y = Str.ofString "waits" then d.uwt else m₅ y)
                (fun d => (LF, W.listOf d.lfv.toArray d.zl) :: (D5, W.listOf fvv.toArray zf) :: (LA, W.listOf asl.toArray za) :: (LN, W.listOf (xs.map Value.ref).toArray zn) :: (R, W.listOf rv.toArray zr) :: (HH, W.listOf hv.toArray zh) ::
                  (s1.heap.objs.size + 1 + 1 + 1 + 1 + 1, o5f) :: (s1.heap.objs.size + 1 + 1 + 1 + 1, o4) :: (s1.heap.objs.size + 1 + 1 + 1, o3) :: (s1.heap.objs.size + 1 + 1, o2) :: (s1.heap.objs.size + 1, d.ov) :: (587, tabObj ps0) :: LX)
                (fun I i d => (∃ c, d.ov.data = .cell c) ∧ IntsAre d.lfv ((leftOf (cfin C.hsF ⟨row, [], []⟩).sub i).map Int.ofNat)) ⟨m₅ (Str.ofString "w"), m₅ (Str.ofString "waits"), m₅ (Str.ofString "born"), _, [], 0⟩ 12 F61 N61 ⟨_, _, rfl⟩ (fun _ => fr_three_eq) (fun p hp => hp) ?hP6 hR60 (by decide) (by decide) ?turn6 ?fin6 ?hE6 rfl
              case hE6 => first | passes_own | with_unfolding_all passes_own
              case hP6 => exact fun _ _ => ⟨⟨_, hcv⟩, .nil⟩
              case turn6 =>
                intro I6 oI6 i d h tk t hi F62 N62 off ⟨⟨cv6, hcv6⟩, hlf⟩
                obtain ⟨uw, uwt, ub, ov6, lfv, zl⟩ := d
                dsimp only at *
                have offs := offs_of off
                simp only [Offs] at offs
                refine wpAny_assign_Name ?_
                clear F60 N60 F61 N61
                subst hm₅
                (try dsimp only at F62)
                w_strict k_steps
                unfold Stop
                refine wpAny_For ?_
                rename Fr g' _ _ _ => F63
                rename News g' _ _ _ => N63
                refine LCt.ListComp_T F63 (by with_unfolding_all rfl) (by decide) (by rfl) (by decide) (by rfl) ?_
                w_strict k_steps
                unfold Stop
                have haz : asl.toArray.size = asked.length := by rw [List.size_toArray, hint.length, List.length_map]
                refine LCt.CompSrcT.ledger (its := asl.toArray) (k := za) (by rfl) F63 N63 (by k_mem) (by rw [haz, sizeLine_eq]; omega) fun g7 => ?_
                rw [haz]
                refine comp_ints asked (fun w => C.hsF w == i) (src_list hint) ?turnJ ?finJ
                case turnJ =>
                  intro i2 a t2 I2 oI2 C2 oC2 D2 m₄ ys2 h2 tk2 E2 ha2 hC2 hmx2 F50 N50 off2 ne2
                  have ha12 := hal a (List.mem_of_getElem? ha2)
                  obtain ⟨th, hth⟩ := CO.hs a ha12
                  have hth2 : hv.toArray[((a : Int)).toNat]? = some (.int (C.hsF a : Int) th) := by rw [Int.toNat_natCast, ← hth, hCE]; rfl
                  w_strict k_steps
                  unfold Stop
                  k_dflt (refine' Mine.sub_at ?qN4 ?qm4 ?qa4 ?qb4 hth2 ?_ ?qs4; (case qN4 => k_asm); (case qm4 => k_mem); (case qa4 => omega); (case qb4 => omega); (case qs4 => with_unfolding_all rfl); k_whole)
                  w_strict k_steps
                  · unfold Stop
                    exact LCg.CompEnd.intro F50 N50 _ (fun p hp => hp) off2 (.inr ⟨W.listOf asl.toArray za, by k_mem, rfl, za, rfl⟩) ⟨rfl, beq_iff_eq.mpr (by omega), _, rfl⟩
                  · unfold Stop
                    exact LCg.CompEnd.intro F50 N50 _ (fun p hp => hp) off2 (.inr ⟨W.listOf asl.toArray za, by k_mem, rfl, za, rfl⟩) ⟨rfl, beq_eq_false_iff_ne.mpr (by omega)⟩
                case finJ =>
                  intro tvs htv D7 h7 tk7 F64 N64 o64
                  obtain ⟨told, htE⟩ : ∃ told, told = toldOf C.hsF asked i := ⟨_, rfl⟩
                  replace htv : IntsAre tvs (told.map Int.ofNat) := by rw [htE]; exact htv
                  have htl : told.length ≤ 86 := by rw [htE]; exact Nat.le_trans (List.length_filter_le _ _) halen
                  have hta : ∀ a ∈ told, a < 12 := fun a ha => by rw [htE] at ha; exact hal a (List.mem_filter.mp ha).1
                  (try dsimp only)
                  w_strict k_steps
                  unfold Stop
                  obtain ⟨m₆, hm₆, F65⟩ := fr_name F64
                  obtain ⟨LED6, hLED6, N65⟩ := tail_name N64
                  refine over_list (s1 := { s1 with gens := s1.gens.push .finished }) (fun (d : D4) y => if y = Str.ofString "w" then d.uw else if y = Str.ofString "born" then some (.int (d.b : Int) d.tb) else if y = Str.ofString "waits" then some d.wt else m₆ y)
                    (fun _ => (D7, W.listOf tvs.toArray tvs.length) :: LED6) (fun _ j d => d.b = (wb (told.take j)).2 ∧ Waits (wb (told.take j)).1 d.wt) ⟨m₆ (Str.ofString "w"), 0, _, .none⟩ F65 N65 ⟨_, _, rfl⟩ (fun _ => fr_three_eq2 (by rw [hm₆]; rfl) (by rw [hm₆]; rfl)) (fun p hp => hp) ?hP7
                    (fun _ _ _ _ => .head _) ?turn7 ?fin7 ?hE7 rfl
                  case hE7 => first | passes_own | with_unfolding_all passes_own
                  case hP7 => exact fun _ _ => ⟨rfl, rfl⟩
                  case turn7 =>
                    intro I7 oI7 j d h9 tk9 v hvj hj F67 N67 off7 ⟨hb7, hw7⟩
                    obtain ⟨uw7, b7, tb7, wt7⟩ := d
                    dsimp only at *
                    obtain ⟨a, ta, hta1, hva⟩ := nat_at htv hvj
                    subst hva
                    have hwb : wb (told.take (j + 1)) = wbStep (wb (told.take j)) a := by
                      rw [show told.take (j + 1) = told.take j ++ [a] by rw [List.take_add_one, hta1]; rfl, wb_add]
                    generalize wb (told.take j) = st at *
                    obtain ⟨o9, n9⟩ := st
                    dsimp only at hb7 hw7
                    refine wpAny_assign_Name ?_
                    clear F64 N64 F65 N65
                    subst hm₆
                    subst hLED6
                    (try dsimp only at F67)
                    cases o9 with
                    | none =>
                      have hwn : wt7 = .none := hw7
                      subst hwn
                      w_strict k_steps
                      unfold Stop
                      dsimp only [TurnEnd]
                      rename Fr g' _ _ _ => F68
                      rename News g' _ _ _ => N68
                      exact ⟨⟨some (.int (a : Int) ta), b7, tb7, .int (a : Int) ta⟩, _, _, rfl, fr_abc (a := Str.ofString "w") (b := Str.ofString "born") (c := Str.ofString "waits") F68 (by rfl) (by rfl) (by rfl) (fun y n1 n2 n3 => by simp only [if_neg n1, if_neg n2, if_neg n3]), N68, off7, by rw [hwb]; exact hb7, by rw [hwb]; exact ⟨ta, rfl⟩⟩
                    | some e9 =>
                      obtain ⟨te, hte⟩ := hw7
                      subst hte
                      w_strict k_steps
                      · unfold Stop
                        rename ¬ _ = _ => hne
                        have hne2 : e9 ≠ a := by omega
                        have hws : wbStep (some e9, n9) a = (none, n9 + 1) := by simp only [wbStep]; rw [if_neg hne2]
                        dsimp only [TurnEnd]
                        rename Fr g' _ _ _ => F68
                        rename News g' _ _ _ => N68
                        exact ⟨⟨some (.int (a : Int) ta), b7 + 1, _, .none⟩, _, _, rfl, fr_abc (a := Str.ofString "w") (b := Str.ofString "born") (c := Str.ofString "waits") F68 (by rfl) (by rfl) (by rfl) (fun y n1 n2 n3 => by simp only [if_neg n1, if_neg n2, if_neg n3]), N68, off7, by rw [hwb, hws]; show b7 + 1 = n9 + 1; omega, by rw [hwb, hws]; rfl⟩
                      · unfold Stop
                        rename _ = _ => heq
                        have heq2 : e9 = a := by omega
                        have hws : wbStep (some e9, n9) a = (some e9, n9) := by simp only [wbStep]; rw [if_pos heq2]
                        dsimp only [TurnEnd]
                        rename Fr g' _ _ _ => F68
                        rename News g' _ _ _ => N68
                        exact ⟨⟨some (.int (a : Int) ta), b7, tb7, .int (e9 : Int) te⟩, _, _, rfl, fr_abc (a := Str.ofString "w") (b := Str.ofString "born") (c := Str.ofString "waits") F68 (by rfl) (by rfl) (by rfl) (fun y n1 n2 n3 => by simp only [if_neg n1, if_neg n2, if_neg n3]), N68, off7, by rw [hwb, hws]; exact hb7, by rw [hwb, hws]; exact ⟨te, rfl⟩⟩
                  case fin7 =>
                    intro I7 d h9 tk9 F67 N67 ⟨hb7, hw7⟩
                    obtain ⟨uw7, b7, tb7, wt7⟩ := d
                    dsimp only at *
                    rw [show told.take tvs.length = told from List.take_of_length_le (by rw [htv.length, List.length_map]; exact Nat.le_refl _)] at hb7 hw7
                    have hwt : (wb told).1 = (cfin C.hsF ⟨row, [], []⟩).sub.lookup i := by rw [htE, haskE]; exact (cinv_fin (hs := C.hsF) (row := row)).waits i
                    simp only [LCg.Off1] at o64
                    have hce : asked.contains i = fam.contains i := by rw [Bool.eq_iff_iff]; simp [hfa i]
                    have hcn : asked.count i = row.count i + (wb told).2 := by rw [htE, haskE]; exact asked_count i
                    clear F64 N64 F65 N65
                    subst hm₆
                    subst hLED6
                    (try dsimp only at F67)
                    rw [hwt] at hw7
                    cases hsl : (cfin C.hsF ⟨row, [], []⟩).sub.lookup i with
                    | none =>
                      rw [hsl] at hw7
                      have hwn : wt7 = .none := hw7
                      subst hwn
                      w_strict k_steps
                      · unfold Stop
                        exfalso
                        rename ¬ _ = _ => hbad
                        rw [count_nat, count_nat] at hbad
                        omega
                      · unfold Stop
                        exfalso
                        rename (_ != _) = true => hbad
                        rw [any_nat, any_nat, hce] at hbad
                        simp at hbad
                      · unfold Stop
                        dsimp only [TurnEnd]
                        rename Fr g' _ _ _ => F69
                        rename News g' _ _ _ => N69
                        refine ⟨⟨uw7, some .none, some (.int (b7 : Int) tb7), _, lfv, zl⟩, _, _, rfl, fr_abc (a := Str.ofString "w") (b := Str.ofString "born") (c := Str.ofString "waits") F69 (by rfl) (by rfl) (by rfl) (fun y n1 n2 n3 => by simp only [if_neg n1, if_neg n2, if_neg n3]), fun p hp => N69 p (.tail _ hp), off_same (by rfl) off, ⟨_, by assumption⟩, ?_⟩
                        dsimp only
                        rw [left_snoc, hsl, List.append_nil]
                        exact hlf
                    | some y9 =>
                      rw [hsl] at hw7
                      obtain ⟨te, hte⟩ := hw7
                      subst hte
                      w_strict k_steps
                      unfold Stop
                      rename Fr g' _ _ _ => F70
                      rename News g' _ _ _ => N70
                      k_dflt (refine' append_K F70 N70 ?Uk7 (fun h' F71 N71 => ?_) ?Uz7; (case Uk7 => exact .tail (Ne.symm o64.2.1) (.tail (Ne.symm offs.1) (.head (off_same (by rfl) lFm)))))
                      case Uz7 => rw [List.size_toArray, sizeLine_eq, hlf.length, List.length_map]; have := List.length_filterMap_le (fun v => (cfin C.hsF ⟨row, [], []⟩).sub.lookup v) (List.range i); rw [List.length_range] at this; unfold leftOf; omega
                      clear F70 N70
                      w_strict k_steps
                      · unfold Stop
                        exfalso
                        rename ¬ _ = _ => hbad
                        rw [count_nat, count_nat] at hbad
                        omega
                      · unfold Stop
                        exfalso
                        rename (_ != _) = true => hbad
                        rw [any_nat, any_nat, hce] at hbad
                        simp at hbad
                      · unfold Stop
                        dsimp only [TurnEnd]
                        rename Fr g' _ _ _ => F69
                        rename News g' _ _ _ => N69
                        rw [List.push_toArray] at N69
                        refine ⟨⟨uw7, some (.int (y9 : Int) te), some (.int (b7 : Int) tb7), _, lfv ++ [.int (y9 : Int) te], zl + 1⟩, _, _, rfl, fr_abc (a := Str.ofString "w") (b := Str.ofString "born") (c := Str.ofString "waits") F69 (by rfl) (by rfl) (by rfl) (fun y n1 n2 n3 => by simp only [if_neg n1, if_neg n2, if_neg n3]), fun p hp => N69 p (.tail _ hp), off_same (by rfl) off, ⟨_, by assumption⟩, ?_⟩
                        dsimp only
                        rw [left_snoc, hsl]
                        exact ints_snoc hlf
              case fin6 =>
                intro I6 d h tk F62 N62 ⟨⟨cv6, hcv6⟩, hlf⟩
                obtain ⟨uw, uwt, ub, ov6, lfv, zl⟩ := d
                dsimp only at *
                clear F60 N60 F61 N61
                subst hm₅
                (try dsimp only at F62)
                have hsub := csub_ok (hs := C.hsF) CO.lt hrow12
                obtain ⟨hll, hly⟩ := left_len (n := 12) (fun p hp => (hsub.1 p hp).1) hsub.2
                have F62N := N62
                rcases htold with ⟨S, c9, kk, y9, htv, hS, hsb⟩ | ⟨htv, h2s⟩
                · subst htv
                  rw [hly kk y9 hsb] at hlf
                  obtain ⟨tl, hlv⟩ : ∃ t, lfv = [.int (y9 : Int) t] := ints_one hlf
                  subst hlv
                  clear hlf
                  have hy12 : y9 < 12 := (hsub.1 (kk, y9) (by rw [hsb]; exact .head _)).2
                  have N63 := news_more N62 (p := (S, W.listOf #[.ref (C.X y9)] c9)) (by repeat (first | exact hS | apply List.Mem.tail))
                  clear N62
                  have hck := CO.xs y9 hy12
                  have hcx : (xs.map Value.ref).toArray[((y9 : Int)).toNat]? = some (.ref (C.X y9)) := by rw [Int.toNat_natCast, ← hck, hCE]; rfl
                  w_strict k_steps
                  unfold Stop
                  refine PySem.Calls.call_len_list (items := #[.int (y9 : Int) tl]) (News.isList N63 (.tail _ (.head _))) (by show ((1 : Nat) : Int) < 2 ^ 63; decide) ?_
                  rw [show ((#[Value.int (y9 : Int) tl].size : Nat) : Int) = 1 from rfl]
                  w_strict k_steps
                  unfold Stop
                  refine PySem.Calls.call_len_list (items := #[.ref (C.X y9)]) (News.isList N63 (.head _)) (by show ((1 : Nat) : Int) < 2 ^ 63; decide) ?_
                  rw [show ((#[Value.ref (C.X y9)].size : Nat) : Int) = 1 from rfl]
                  w_strict k_steps
                  unfold Stop
                  k_dflt (refine' Mine.sub_at (its := #[.ref (C.X y9)]) ?qN5 ?qm5 (by decide) (by decide) (by rfl) ?_ ?qs5; (case qN5 => k_asm); (case qm5 => k_mem); (case qs5 => with_unfolding_all rfl); k_whole)
                  w_strict k_steps
                  unfold Stop
                  rw [show [(y9 : Int)].getD (Int.toNat 0) 0 = (y9 : Int) from rfl]
                  k_dflt (refine' Mine.sub_at ?qN7 ?qm7 ?qa7 ?qb7 hcx ?_ ?qs7; (case qN7 => k_asm); (case qm7 => k_mem); (case qa7 => omega); (case qb7 => omega); (case qs7 => with_unfolding_all rfl); k_whole)
                  refine is_ref_same ?_
                  refine ⟨good_turnB T30 F62 (bare_fin (by assumption)) (raisesW_false ?_) ?_, GrownAt.of F62N (by k_mem), True.intro⟩
                  · wrow_none_raised
                  · wrow_post
                · subst htv
                  have hlz : lfv.toArray.size = (cfin C.hsF ⟨row, [], []⟩).sub.length := by rw [List.size_toArray, hlf.length, List.length_map, hll]
                  have h12s : (cfin C.hsF ⟨row, [], []⟩).sub.length ≤ 12 := by
                    rw [← hll]
                    have := List.length_filterMap_le (fun v => (cfin C.hsF ⟨row, [], []⟩).sub.lookup v) (List.range 12)
                    rw [List.length_range] at this
                    unfold leftOf
                    omega
                  w_strict k_steps
                  unfold Stop
                  refine PySem.Calls.call_len_list (items := lfv.toArray) (News.isList F62N (.head _)) (by rw [hlz]; omega) ?_
                  rw [hlz]
                  iterate 3 walk1
                  rw [if_pos (by rw [bne_iff_ne]; omega)]
                  iterate 7 walk1
                  refine ⟨good_turnB T30 F62 (bare_fin (by assumption)) (raisesW_false ?_) ?_, GrownAt.of F62N (by k_mem), True.intro⟩
                  · wrow_none_raised
                  · wrow_post
      case main3 =>
        subst hm₂
        clear F21
        refine wpAny_Try_except ?_
        w_strict k_steps
        unfold Stop
        refine listcomp_listH F20 (heldOk_none _) (by with_unfolding_all rfl) (by decide) (by rfl) (by decide) (by rfl) ?_
        walk1
        refine ⟨_, rv.toArray, _, rfl, F20, N20, .inr ⟨W.listOf rv.toArray zr, ?hmR, rfl, zr, rfl⟩, ?hzR, fun s₂ ⟨g9, e9⟩ => ?_⟩
        case hmR => k_mem
        case hzR => have := h4.length; rw [List.size_toArray, sizeLine_eq]; omega
        subst e9
        refine comp_relP (fun i y => ∃ v : Nat, row[i]? = some v ∧ y = .ref (C.X v)) ?_ ?_
        · intro i v I oI C9 oC D9 m₂ ys h tk E' hv9 hC hmx F5 N5 off ne
          obtain ⟨k9, t9, hk9, rfl⟩ := ints_at h4 (by simpa using hv9)
          have hk12 := h5 k9 (List.mem_of_getElem? hk9)
          have hrk : row[i]? = some k9.toNat := by rw [hrowE, List.getElem?_map, hk9]; rfl
          have hck := CO.xs k9.toNat (by omega)
          have hcx : (xs.map Value.ref).toArray[k9.toNat]? = some (.ref (C.X k9.toNat)) := by rw [← hck, hCE]; rfl
          w_strict k_steps
          unfold Stop
          k_dflt (refine' Mine.sub_at ?qN1 ?qm1 ?qa1 ?qb1 hcx ?_ ?qs1; (case qN1 => k_asm); (case qm1 => k_mem); (case qa1 => omega); (case qb1 => omega); (case qs1 => with_unfolding_all rfl); k_whole)
          exact LCg.CompEnd.intro F5 N5 _ (fun p hp => hp) off (.inr ⟨W.listOf rv.toArray zr, by k_mem, rfl, zr, rfl⟩) ⟨rfl, _, hrk, rfl⟩
        · intro ys hlen hrel D3 h5 tk5 F5 N5 o5
          (try dsimp only)
          w_strict k_steps
          unfold Stop
          have hlr : rv.length = row.length := by rw [h4.length, hrowE, List.length_map]
          have hys : ys = refs C.X row := ys_refs (by rw [hlen, List.size_toArray, hlr]) (fun i y e => hrel i y e)
          subst hys
          have o6 := o5
          simp only [LCg.Off1] at o6
          have gA := all_gt (b := LA) hns.2.2.2 (Nat.le_refl _)
          have hcE : C.led #[] 0 ((R, W.listOf rv.toArray zr) :: (s1.heap.objs.size + 1 + 1 + 1 + 1 + 1, o5c) :: (s1.heap.objs.size + 1 + 1 + 1 + 1, o4) :: (s1.heap.objs.size + 1 + 1 + 1, o3) :: (s1.heap.objs.size + 1 + 1, o2) :: (s1.heap.objs.size + 1, ov) :: (587, tabObj ps0) :: G) =
            (LN, W.listOf (xs.map Value.ref).toArray zn) :: (HH, W.listOf hv.toArray zh) :: (LA, W.listOf #[] 0) :: (R, W.listOf rv.toArray zr) :: (s1.heap.objs.size + 1 + 1 + 1 + 1 + 1, o5c) :: (s1.heap.objs.size + 1 + 1 + 1 + 1, o4) :: (s1.heap.objs.size + 1 + 1 + 1, o3) :: (s1.heap.objs.size + 1 + 1, o2) :: (s1.heap.objs.size + 1, ov) :: (587, tabObj ps0) :: G := by
            rw [hCE]; rfl
          refine gen_spec w C CO (outer := []) (rest := C.led #[] 0 ((R, W.listOf rv.toArray zr) :: (s1.heap.objs.size + 1 + 1 + 1 + 1 + 1, o5c) :: (s1.heap.objs.size + 1 + 1 + 1 + 1, o4) :: (s1.heap.objs.size + 1 + 1 + 1, o3) :: (s1.heap.objs.size + 1 + 1, o2) :: (s1.heap.objs.size + 1, ov) :: (587, tabObj ps0) :: G)) B20 F5 X20 (by rw [hcE]; exact N5.perm led_try) T20 (by rfl) (by rfl) hrow12 (by omega) ?dp3 ?un3 ?rS3
          (case dp3 => ktr_room)
          (case un3 => ktr_units)
          intro g L' h11 t1 t2 tk1 m0 code FG F11 N11 hkp GS
          dsimp only
          w_strict k_steps
          unfold Stop
          rw [hcE] at N11
          obtain ⟨N12, lt12⟩ := push_led (o := genO s1.gens.size (Str.ofString "_collapse_addresses_internal") (Str.ofString "_collapse_addresses_internal") t1 t2) F11 N11 rfl
          have F12 := F11.push (genO s1.gens.size (Str.ofString "_collapse_addresses_internal") (Str.ofString "_collapse_addresses_internal") t1 t2)
          obtain ⟨ga, hga⟩ : ∃ ga, ga = h11.objs.size := ⟨_, rfl⟩
          rw [← hga] at N12 lt12 ⊢
          have hgaA : @Ne Nat ga LA := Nat.ne_of_gt (lt12 _ (.tail _ (.tail _ (.tail _ (.head _)))))
          have hcE2 : C.led #[] 0 ((ga, genO s1.gens.size (Str.ofString "_collapse_addresses_internal") (Str.ofString "_collapse_addresses_internal") t1 t2) :: (R, W.listOf rv.toArray zr) :: (s1.heap.objs.size + 1 + 1 + 1 + 1 + 1, o5c) :: (s1.heap.objs.size + 1 + 1 + 1 + 1, o4) :: (s1.heap.objs.size + 1 + 1 + 1, o3) :: (s1.heap.objs.size + 1 + 1, o2) :: (s1.heap.objs.size + 1, ov) :: (587, tabObj ps0) :: G) =
            (LN, W.listOf (xs.map Value.ref).toArray zn) :: (HH, W.listOf hv.toArray zh) :: (LA, W.listOf #[] 0) :: (ga, genO s1.gens.size (Str.ofString "_collapse_addresses_internal") (Str.ofString "_collapse_addresses_internal") t1 t2) :: (R, W.listOf rv.toArray zr) :: (s1.heap.objs.size + 1 + 1 + 1 + 1 + 1, o5c) :: (s1.heap.objs.size + 1 + 1 + 1 + 1, o4) :: (s1.heap.objs.size + 1 + 1 + 1, o3) :: (s1.heap.objs.size + 1 + 1, o2) :: (s1.heap.objs.size + 1, ov) :: (587, tabObj ps0) :: G := by
            rw [hCE]; rfl
          rw [← hcE2] at N12
          have hcE3 : ∀ (as : Array Value) (za : Nat), C.led as za ((R, W.listOf rv.toArray zr) :: (s1.heap.objs.size + 1 + 1 + 1 + 1 + 1, o5c) :: (s1.heap.objs.size + 1 + 1 + 1 + 1, o4) :: (s1.heap.objs.size + 1 + 1 + 1, o3) :: (s1.heap.objs.size + 1 + 1, o2) :: (s1.heap.objs.size + 1, ov) :: (587, tabObj ps0) :: G) =
            (LN, W.listOf (xs.map Value.ref).toArray zn) :: (HH, W.listOf hv.toArray zh) :: (LA, W.listOf as za) :: (R, W.listOf rv.toArray zr) :: (s1.heap.objs.size + 1 + 1 + 1 + 1 + 1, o5c) :: (s1.heap.objs.size + 1 + 1 + 1 + 1, o4) :: (s1.heap.objs.size + 1 + 1 + 1, o3) :: (s1.heap.objs.size + 1 + 1, o2) :: (s1.heap.objs.size + 1, ov) :: (587, tabObj ps0) :: G := by
            intro as za; rw [hCE]; rfl
          have eLA : C.LA = LA := by rw [hCE]; rfl
          have eG : C.G = G := by rw [hCE]; rfl
          refine list_spec w C (row := row) (asked := []) (code := code) FG F12 (T20.keeps FG.keep) N12 GS ?hgs3 ?hG3 ?hoff3 ?hDA3 .nil (by decide) ?dp4 ?un4 ?one3 ?no3 ?err3
          case hgs3 => dsimp only; simp
          case hG3 =>
            rw [eG]
            exact fun p hp => by repeat (first | exact hp | apply List.Mem.tail)
          case hoff3 =>
            rw [eLA]
            refine all_offs ?_
            simp only [Offs]
            exact ⟨by omega, by omega, by omega, by omega, by omega, by omega, by omega, by omega, offs_of gA⟩
          case hDA3 => rw [eLA]; exact Ne.symm o6.1
          case dp4 => ktr_room
          case un4 => ktr_units
          case no3 =>
            intro S h' tk' as' za' c hsub _ _ _
            exfalso
            refine cfin_ne (hs := C.hsF) (row := row) (fun e => ?_) hsub
            rw [e] at hrowE
            have := congrArg List.length hrowE
            rw [List.length_map] at this
            simp at this
            omega
          case one3 =>
            intro k y S h' tk' as' za' c hsub F13 N13 hI13
            rw [set_fin]
            (try dsimp only)
            w_strict k_steps
            unfold Stop
            rename Fr _ _ _ _ => F14
            rename News _ _ _ _ => N14
            rw [hcE3] at N14
            have N15 := N14.perm led_try2
            obtain ⟨c5v, h5c⟩ : ∃ c, o5c.data = .cell c := ⟨_, by assumption⟩
            refine ⟨rfl, _, _, _, _, as', za', [(S, W.listOf #[.ref (C.X y)] c)], rfl, F14, N15, hI13, .inl ⟨S, c, k, y, rfl, .head _, hsub⟩, by subst hST; exact ⟨KtsTurn.refl, B20, X20, T20⟩, fun p hp => ?_⟩
            rw [List.mem_singleton.mp hp]
            exact ⟨ne_of_data N15 (by k_mem) (by k_mem) (by (rw [hcv]; intro e; cases e)), ne_of_data N15 (by k_mem) (by k_mem) (by rw [h5c]; intro e; cases e)⟩
          case err3 =>
            intro ex h' tk' as' za' h2' R13 hI13
            rw [set_fin]
            (try dsimp only)
            rw [hcE3] at R13
            refine caught_X R13 (by rfl) B20 X20 T20 (fun A E Q s g' F X T h => nameX_B F X T (by k_is) PyProof.Rows.Boot.«TypeError» (by decide) h) PySem.F.isExc_TypeError PySem.F.notTuple_TypeError (by kts_sub) (by passes_own) ?_
            intro h16 g16 T16 F16 N16 B16 X16 P16
            (try dsimp only)
            w_strict k_steps
            unfold Stop
            rename Fr _ _ _ _ => F17
            rename News _ _ _ _ => N17
            refine ⟨rfl, _, _, _, _, as', za', [], rfl, F17, N17.perm led_try3, hI13, .inr ⟨rfl, h2'⟩, by subst hST; exact ⟨T16, B16, X16, P16⟩, fun p hp => nomatch hp⟩)
end Mine
end
set_option maxRecDepth 100000 in
set_option maxHeartbeats 8000000 in
theorem PySem.Challenge.cw_km0038_09_holds : PySem.Challenge.rw_km0038_09.Holds := by
  exact Mine.fin09
