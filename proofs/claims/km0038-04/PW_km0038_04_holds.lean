import PyProof.Rows.All
import Wide.All
import OpenK.AllK
import Wide.FinOn
import PySem.Challenge.RW_km0038_04
set_option Elab.async false
section
open PySem PySem.W PyProof.Rows
noncomputable section
namespace Mine
def topRunT (tb : String → Option Builtin) (p : Program) (w : World) (n₀ : Nat) (ann : Option Value) : Nat → SharedT → Thread → Option SharedT
  | 0, _, _ => none
  | n + 1, s, t => match through t with
    | true => some s
    | false => match stepOk n₀ ann t with
      | false => none
      | true => match stepT (denote tb) p w s t with
        | some (s', t') => topRunT tb p w n₀ ann n s' t'
        | none => none
theorem topRunT_of {tb : String → Option Builtin} {p : Program} {w : World} {n₀ : Nat} {ann : Option Value} : ∀ {n : Nat} {s s' : SharedT} {t : Thread},
    topRunT tb p w n₀ ann n s t = some s' → topRun tb p w n₀ ann n s.abs t = some s'.abs
  | 0, _, _, _, h => by cases h
  | n + 1, s, s', t, h => by
    unfold topRunT at h
    unfold topRun
    cases he : through t with
    | true => rw [he] at h; cases h; rfl
    | false =>
      rw [he] at h
      cases hk : stepOk n₀ ann t with
      | false => rw [hk] at h; cases h
      | true =>
        rw [hk] at h
        cases hs : stepT (denote tb) p w s t with
        | none => rw [hs] at h; cases h
        | some r => obtain ⟨s₂, t₂⟩ := r; rw [hs] at h; dsimp only; rw [stepT_spec hs]; exact topRunT_of h

def plant (l : List Obj) : BT := (l.foldl (fun (x : BT × Nat) o => (x.1.ins x.2 o, x.2 + 1)) (BT.nil, 0)).1
def bootT (P : Params) : BT := plant (boot_heap P).objs.toList
def bootN : Nat := 11
def start0 (w : World) (os : OsState) : SharedT := ⟨bootT w.params, bootN, (boot_heap w.params).life, #[], boot_drawn, boot_toks, os⟩

def shotF {α : Type} (p q : Program) (loose : List Str) (s₀ : SharedT) (h₀ : Heap) (Yf : Shared → α) (M : Nat) (w : World) :=
  (topRunT treeTable p w 11 (some (.ref 6)) M s₀ (topStub p)).map fun sT =>
    ((staticsOk (importedModules p.main.body) h₀ sT.abs.heap && namesBound p sT.abs.heap && gensDone sT.abs && laidKept h₀ sT.abs.heap),
      openSeen q loose (importedModules p.main.body) (fun s => xlAt q [] s && recOk [] s) true sT.abs, Yf sT.abs)
end Mine
end
noncomputable section
namespace Mine
theorem boot_base (P : Params) : absHeap (bootT P) bootN (boot_heap P).life = boot_heap P := by kernel_rfl
theorem boot_size (w : World) : ((boot_heap w.params).isNs mainGlobals && (#[] : Array GenState).size == 0, (boot_heap w.params).objs.size, (boot_heap w.params).nsMap mainGlobals "__annotations__") = (true, 11, some (.ref 6)) := by kernel_rfl
theorem left_shot {p q : Program} {loose : List Str} {α : Type} {Yf : Shared → α} {Ya : World → α} {N : Nat}
    (e : opening p = plainProg p.main.scope.names) (hN : Nat.ble 600 N = true) (f : ∀ s, fenceModules? p s = some s)
    (h : ∀ w os, shotF p q loose (start0 w os) (boot_heap w.params) Yf N w = some (true, openGood q loose, Ya w)) :
    LeftO p q loose (fun s => xlAt q [] s && recOk [] s) Yf Ya N true := fun w => by
  obtain ⟨⟨hp, gs, d, k, os⟩, e1, e2⟩ := Option.map_eq_some_iff.mp (boot_open e hN f w)
  obtain ⟨rfl, rfl, rfl, rfl⟩ : hp = boot_heap w.params ∧ gs = #[] ∧ d = boot_drawn ∧ k = boot_toks := by simpa using e2
  obtain ⟨sT, r, l⟩ := Option.map_eq_some_iff.mp (h w os)
  obtain ⟨l1, l2, l3⟩ : _ ∧ _ ∧ _ := by simpa only [Prod.mk.injEq] using l
  have r := topRunT_of r
  rw [show (start0 w os).abs = ⟨boot_heap w.params, #[], boot_drawn, boot_toks, os⟩ from congrArg (fun x => (⟨x, #[], boot_drawn, boot_toks, os⟩ : Shared)) (boot_base w.params)] at r
  obtain ⟨z1, z2, z3⟩ : _ ∧ _ ∧ _ := by simpa only [Prod.mk.injEq] using boot_size w
  have t : topFrom treeTable p w N ⟨boot_heap w.params, #[], boot_drawn, boot_toks, os⟩ = some sT.abs := by
    unfold topFrom
    dsimp only
    rw [z1, z2, z3, r]
    show (match staticsOk (importedModules p.main.body) (boot_heap w.params) sT.abs.heap && namesBound p sT.abs.heap && gensDone sT.abs && laidKept (boot_heap w.params) sT.abs.heap with | true => _ | false => _) = _
    rw [l1]
  unfold openEnds
  rw [e1]
  show (topFrom treeTable p w N _).map _ = _
  rw [t]
  exact congrArg some (Prod.ext l2 l3)
end Mine
end
namespace Mine
theorem left_shotT (H : Hook) {p q : Program} {loose : List Str} {N : Nat}
    (T : {α : Type} → Program → Program → List Str → SharedT → Heap → (Shared → α) → Nat → World → _) (te : @shotF = @T)
    (e1 : opening p = plainProg p.main.scope.names) (hN : Nat.ble 600 N = true) (f : ∀ s, fenceModules? p s = some s)
    (h : ∀ w os, T p q loose (start0 w os) (boot_heap w.params) H.obs N w = some (true, openGood q loose, H.val w)) :
    LeftO p q loose (fun s => xlAt q [] s && recOk [] s) H.obs H.val N true := by
  refine left_shot e1 hN f ?_
  rw [te]
  exact h
end Mine
end
section
open PySem PySem.W PyProof.Rows
set_option maxRecDepth 100000
set_option maxHeartbeats 8000000
lay_quick Mine.shotF
noncomputable section
namespace Mine
abbrev pw := PySem.Challenge.pw_km0038_04
def qv : Program := view pw [27]
def lo : List Str := ["_wall", "v4_int_to_packed", "v6_int_to_packed", "_IPAddressBase", "_gt_from_lt", "_le_from_lt", "_ge_from_lt", "_ge_from_le", "_lt_from_le", "_gt_from_le", "_lt_from_gt", "_ge_from_gt", "_le_from_gt", "_le_from_ge", "_gt_from_ge", "_lt_from_ge", "total_ordering", "_NOT_FOUND", "cached_property", "_BaseNetwork", "_BaseConstants", "_law_name"]
end Mine
end
set_option hygiene false
local macro_rules
  | `(tactic| o_head $H) => `(tactic| (
    refine PySem.W.holds_open (r := PySem.Challenge.rw_km0038_04.row) (q := Mine.qv) (loose := Mine.lo) (Xt := fun s => xlAt Mine.qv [] s && recOk [] s) (XP := XL Mine.qv []) (Yf := Hook.obs $H) (Ya := Hook.val $H) (YP := Hook.says $H) (N := 8000) ?hl (Hook.of $H) (Hook.keeps $H) (fun s e => xl_of s (Bool.and_eq_true_iff.mp e).1) XL.keeps (by rfl) (by rfl) (by rfl) (fun s e => recFacts_of (Bool.and_eq_true_iff.mp e).2) (by rfl) (by first | assumption | decide +kernel) (by decide +kernel) ⟨rfl, rfl, rfl, rfl, rfl, by decide +kernel⟩ ?hw ?hc;
    (case hl => (refine Mine.left_shotT $H (p := Mine.pw) _ PySem.W.Fast.te17940891641106722768 (by kernel_rfl) (by decide) (by intro s; kernel_rfl) ?_; intro w os; kernel_rfl))))
set_option hygiene true
namespace Mine
open_top hd for PySem.Challenge.rw_km0038_04
end Mine
end
section
open PySem PySem.W PyProof.Rows
namespace Mine
end Mine
namespace Mine
section
variable {prog : Program} {w : World} {A : Around} {E : Value → Shared → Prop} {s : Shared} {t : Tok} {Q : Value → Shared → Prop}
end
end Mine
namespace Mine
end Mine
namespace Mine
abbrev listObj (ps : List (Str × Tok)) (n : Nat) : Obj := { cls := .type "list", data := .seq (strValues ps).toArray n }
section
variable {prog : Program} {w : World} {A : Around} {E : Value → Shared → Prop} {s : Shared} {t u : Tok} {Q : Value → Shared → Prop} {h₀ : Heap} {L : Addr} {m : Str → Option Value} {news : List (Addr × Obj)} {d : Str}
end
end Mine
namespace Mine
end Mine
namespace Mine
end Mine
end
section
open PySem PySem.W PyProof.Rows PySem.Spec PySem.Calls
namespace Mine
section
variable {prog : Program} {w : World} {A₀ : Around} {E : Value → Shared → Prop} {s' : Shared} {base g g₀ G : Heap} {outer : List Env} {L a e t C : Addr} {m : Str → Option Value} {name : Str} {scope : Scope} {cd : Value}
  {vs : List Value} {n : Str} {b₀ : Stmt} {suite : List Stmt} {pos np : Pos} {rest : List ExceptHandler} {Q : Flow → Shared → Prop} {news : List (Addr × Obj)} {KF : Frag}
  {p : Program} {loose : List Str} {mean : ExcName → Option Value} {mg mb : Str → Option Value} {x : Str}
end
section
variable {prog : Program} {w : World} {A : Around} {E : Value → Shared → Prop} {s : Shared} {h₀ : Heap} {L e t C : Addr} {m : Str → Option Value} {news : List (Addr × Obj)} {d : Option Addr} {ws : Array Value} {sl : Array (Option Value)} {vs : List Value} {Q : Value → Shared → Prop}
end
end Mine
namespace Mine
section
variable {prog : Program} {w : World} {A : Around} {E : Value → Shared → Prop} {s : Shared} {h₀ : Heap} {L a b : Addr} {news : List (Addr × Obj)} {d : Option Addr} {sl : Array (Option Value)} {x y : Str} {t u : Tok} {n k : Nat} {Q : Value → Shared → Prop}
end
end Mine
namespace Mine
end Mine
namespace Mine
def Stop (p : Prop) : Prop := p
theorem stop_here {p : Prop} (h : Stop p) : p := h
section
variable {prog : Program} {w : World} {A : Around} {E : Value → Shared → Prop} {env : Env} {test : PySem.Expr} {body orelse : List Stmt} {Q : Flow → Shared → Prop}
def WPost (I : Nat → Shared → Prop) (n : Nat) (Q : Flow → Shared → Prop) (f : Flow) (s : Shared) : Prop := match f with
  | .next => ∃ n', n' < n ∧ I n' s
  | .cont => ∃ n', n' < n ∧ I n' s
  | .brk => Q .next s
  | .ret v => Q (.ret v) s
end
end Mine
namespace Mine
end Mine
end
section
open PySem PySem.W PyProof.Rows PySem.Spec PySem.Calls
namespace Mine
section
variable {prog : Program} {w : World} {A : Around} {E : Value → Shared → Prop} {s : Shared} {h₀ : Heap} {L a b : Addr} {news : List (Addr × Obj)} {ps qs : List (Str × Tok)} {n k : Nat} {vs : Array Value} {Q : Value → Shared → Prop}
end
section
open PySem.Spec PySem.Calls
end
section
open PySem.Spec PySem.Calls
end
end Mine
end
section
open PySem PySem.W PyProof.Rows
namespace Mine
section
variable {prog : Program} {w : World} {A : Around} {E : Value → Shared → Prop} {s : Shared} {t u : Tok} {Q : Value → Shared → Prop}
end
end Mine
end
section
open PySem PySem.W PyProof.Rows PySem.Spec PySem.Calls
namespace Mine
theorem sv_len (ps : List (Str × Tok)) : (strValues ps).length = ps.length := List.length_map ..
section
variable {prog : Program} {w : World} {A : Around} {E : Value → Shared → Prop} {s : Shared} {h₀ : Heap} {L D b : Addr} {m : Str → Option Value} {news news' : List (Addr × Obj)} {ps qs : List (Str × Tok)} {p : Str × Tok} {n k : Nat} {x y : Str} {t u : Tok}
theorem extend_strs {Q : Value → Shared → Prop} (F : Fr h₀ L s.heap m) (N : News h₀ L s.heap news) (hb : (b, listObj qs k) ∈ news) (hq : qs ≠ []) (hz : ps.length + qs.length ≤ 1000) (U : Upd D (listObj ps n) (listObj (ps ++ qs) (n + 1)) news news')
    (h : ∀ h', Fr h₀ L h' m → News h₀ L h' news' → Q .none { s with heap := h' }) : wpAny (model prog w) A (call (.builtin "list.extend") [.ref D, .ref b]) Q E s := by
  refine kl_extend (its := (strValues ps).toArray) (its2 := (strValues qs).toArray) (n := n) (n2 := k) (l := strValues (ps ++ qs)) F N hb ?_ ?_ U ?_ ?_ ?_ h
  · simp [strValues]
  · simpa [strValues] using hq
  · rw [List.size_toArray, List.size_toArray, sv_len, sv_len]
    have : Builtin.List.listTooLong (ps.length + qs.length) = false := by
      unfold Builtin.List.listTooLong
      have := sizeLine_eq
      simp
      omega
    rw [this]; simp
  · rw [List.toList_toArray, sv_len, sizeLine_eq]; omega
  · rw [List.size_toArray, List.size_toArray, sv_len, sv_len, sizeLine_eq]; omega
end
section
variable {prog : Program} {w : World} {A : Around} {E : Value → Shared → Prop} {s : Shared} {t u : Tok} {Q : Value → Shared → Prop}
end
theorem good_turn {c : ClaimW} {cl : Str → Option Addr} {mean : ExcName → Option Value} {args : List WData} {s₁ s' : Shared} {L : Addr} {m : Str → Option Value} {hb : Heap} {b : Bool}
    (T : KtsTurn [] s₁.heap hb) (F : Fr hb L s'.heap m) (hg : s'.gens = #[]) (hn : ∀ cls, c.raises args cls = false) (hp : c.post args (.bool b) args = true) (hos : s'.os = s₁.os := by rfl) : GoodW c cl mean args s₁ (.ok (.ret (.bool b))) s' :=
  ⟨.inl ⟨_, _, _, rfl, hn, .bool b, hp, unshared_nil⟩, fun a o e => F.keep a o (T.other a o e (by simp)), hos, hg⟩
end Mine
end
section
open PySem PySem.W PyProof.Rows PySem.Spec PySem.Calls
namespace Mine
section
open LCg
variable {prog : Program} {w : World} {A : Around} {E : Value → Shared → Prop} {s : Shared} {h₀ : Heap} {L : Addr} {m : Str → Option Value} {env : Env}
end
end Mine
end
section
open PySem PySem.W PyProof.Rows
namespace Mine
section
variable {prog : Program} {w : World} {A : Around} {E : Value → Shared → Prop} {s : Shared} {t u : Tok} {Q : Value → Shared → Prop}
end
end Mine
end
section
open PySem PySem.W PyProof.Rows PySem.Spec PySem.Calls
namespace Mine
section
variable {prog : Program} {w : World} {A : Around} {E : Value → Shared → Prop} {s : Shared} {h₀ : Heap} {L a : Addr} {news : List (Addr × Obj)} {vs : List Value} {n : Nat} {Q : Value → Shared → Prop}
end
end Mine
end
section
open PySem PySem.W PyProof.Rows PySem.Spec PySem.Calls
namespace Mine
section
open LCg
variable {prog : Program} {w : World} {A : Around} {E : Value → Shared → Prop} {s : Shared} {h₀ : Heap} {L : Addr} {m : Str → Option Value} {env : Env}
end
section
variable {prog : Program} {w : World} {A : Around} {E : Value → Shared → Prop} {s : Shared} {t : Tok} {Q : Value → Shared → Prop}
end
end Mine
end
section
open PySem PySem.W PyProof.Rows PySem.Spec PySem.Calls
set_option maxRecDepth 100000
namespace Mine
def HeldOk (hd : Option Value) (h : Heap) : Prop := hd = none ∨ ∃ e oe ve, hd = some (.ref e) ∧ h.get? e = some oe ∧ oe.data = .fields ve ∧ ve[2]? = some .none
theorem HeldOk.keeps {hd : Option Value} {h h' : Heap} (H : HeldOk hd h) (k : ∀ b o, h.get? b = some o → h'.get? b = some o) : HeldOk hd h' := by
  rcases H with H | ⟨e, oe, ve, h1, h2, h3, h4⟩
  · exact .inl H
  · exact .inr ⟨e, oe, ve, h1, k _ _ h2, h3, h4⟩
theorem heldOk_none (h : Heap) : HeldOk none h := .inl rfl
theorem entry_unchain : entryFor table "proto.unchain" = some Builtin.«proto.unchain» := entryFor_of_fast (by kernel_rfl)
section
variable {prog : Program} {w : World} {A : Around} {E : Value → Shared → Prop} {s : Shared}
theorem raiseNew_ok {α : Type} {a : Addr} {oa : Obj} {va : Array Value} {Q : α → Shared → Prop} (H : HeldOk A.handled s.heap) (ha : s.heap.get? a = some oa) (hda : oa.data = .fields va) (hsz : 2 < va.size) (hnew : ∀ e, A.handled = some (.ref e) → e ≠ a)
    (hE : ∀ h' o', (∀ b o, b ≠ a → s.heap.get? b = some o → h'.get? b = some o) → h'.get? a = some o' → o'.cls = oa.cls → E (.ref a) { s with heap := h' }) :
    wpAny (model prog w) A (raiseNew (.ref a) : Sem α) Q E s := by
  unfold raiseNew
  refine wpAny_bind (wpAny_handled ?_)
  rcases H with H | ⟨e, oe, ve, h1, h2, h3, h4⟩
  · rw [H]
    exact wpAny_bind (wpAny_pure (wpAny_throw (hE s.heap oa (fun _ _ _ e => e) ha rfl)))
  · rw [h1]
    have hne : (Value.ref e != Value.ref a) = true := by
      have := hnew e h1
      simpa using this
    show wpAny _ _ (if (Value.ref e != Value.ref a) = true then _ else _) _ _ s
    rw [if_pos hne]
    refine wpAny_bind ((wpAny_holding (wpAny_runValue (codeAny_builtin entry_unchain ?_))))
    show wpAny _ _ (field (.ref e) 2 >>= _) _ _ s
    refine wpAny_bind (wpAny_field h2 h3 h4 ?_)
    show wpAny _ _ (if (Value.none == Value.none) = true then _ else _) _ _ s
    rw [if_pos (show (Value.none == Value.none) = true from rfl)]
    refine wpAny_pure ?_
    show wpAny _ _ (updateField a 2 (Value.ref e) >>= _) _ _ s
    refine wpAny_bind (m := setField (.ref a) 2 (.ref e)) (wpAny_setField ha hda hsz (wpAny_throw ?_))
    have hd' := Obj.data_mapFields hda (·.setIfInBounds 2 (Value.ref e))
    exact hE _ _ (fun b o hb hg => (Heap.get?_update_other _ _ (Ne.symm hb)).trans hg) (Heap.get?_update_self _ ha (Obj.isFreed_of_fields hd')) (Obj.cls_mapFields _ _)
theorem HeldOk.but {hd : Option Value} {h h' : Heap} {it : Addr} (H : HeldOk hd h) (hne : ∀ e, hd = some (.ref e) → e ≠ it) (k : Heap.ExtBut it h h') : HeldOk hd h' := by
  rcases H with H | ⟨e, oe, ve, h1, h2, h3, h4⟩
  · exact .inl H
  · exact .inr ⟨e, oe, ve, h1, k _ _ (hne e h1) h2, h3, h4⟩
theorem HeldOk.old {hd : Option Value} {h : Heap} (H : HeldOk hd h) : ∀ e, hd = some (.ref e) → e < h.objs.size := by
  intro e he
  rcases H with H | ⟨e', oe, ve, h1, h2, h3, h4⟩
  · rw [H] at he; cases he
  · rw [h1] at he
    cases he
    exact Heap.lt_size h2
theorem stop_end {it : Addr} {h₀ : Heap} {Q : Fin → Shared → Prop} {E' : Value → Shared → Prop} (H : HeldOk A.handled s.heap)
    (hE : ∀ h' a o', (∀ b o, s.heap.get? b = some o → h'.get? b = some o) → h'.get? a = some o' → o'.cls = .type "StopIteration" → E' (.ref a) { s with heap := h' }) (_hx : Heap.ExtBut it h₀ s.heap) :
    wpAny (model prog w) A (newExc (.type "StopIteration") [] >>= fun e => raiseNew e) Q E' s := by
  refine wpAny_bind ?_
  simp only [newExc, newTuple]
  refine wpAny_bind (wpAny_newObj_type ?_ (by size_fits))
  refine wpAny_bind (m := firstArgMember _ _) (wpAny_of_eq (a := Value.none) (by first | rfl | (simp only [firstArgMember]; rfl)) ?_)
  refine wpAny_newObj_type ?_ (by size_fits)
  have up : ∀ (x y : Obj) b o, s.heap.get? b = some o → ((s.heap.push x).push y).get? b = some o := fun x y b o e => Heap.get?_push_of_some _ (Heap.get?_push_of_some _ e)
  refine raiseNew_ok (H.keeps (up _ _)) (Heap.get?_push_size _ rfl) rfl (by rw [Array.size_append]; exact Nat.lt_of_lt_of_le (by decide : 2 < 6) (Nat.le_add_right _ _)) (fun e he => ?_) fun h' o' hk hg hc => ?_
  · have := H.old e he
    have h2 : (s.heap.push { cls := .type "tuple", dict := none, data := .seq ([] : List Value).toArray }).objs.size = s.heap.objs.size + 1 := Heap.size_push ..
    intro hz
    have h3 : @LT.lt Nat _ e s.heap.objs.size := this
    have h4 : @Eq Nat e (s.heap.objs.size + 1) := by rw [← h2]; exact hz
    omega
  · refine hE h' _ o' (fun b o e => hk b o ?_ (up _ _ b o e)) hg hc
    have h2 : (s.heap.push { cls := .type "tuple", dict := none, data := .seq ([] : List Value).toArray }).objs.size = s.heap.objs.size + 1 := Heap.size_push ..
    have h3 : @LT.lt Nat _ b s.heap.objs.size := Heap.lt_size e
    intro hz
    have h4 : @Eq Nat b (s.heap.objs.size + 1) := by rw [← h2]; exact hz
    omega
theorem next_bytes_end {it : Addr} {b : Array UInt8} {t : Tok} {i : Nat} {Q : Option Value → Shared → Prop} (H : HeldOk A.handled s.heap) (hne : ∀ e, A.handled = some (.ref e) → e ≠ it)
    (hit : KBw.IsBytesIter s.heap it b t i) (hx : b[i]? = none)
    (hQ : ∀ h', Heap.ExtBut it s.heap h' → Q none { s with heap := h' }) : wpAny (model prog w) A (pyNext (.ref it)) Q E s := by
  obtain ⟨o, ho, hc, hd⟩ := id hit
  unfold pyNext
  refine wpAny_bind (wpAny_attempt (wpAny_callSpecial?_slot (name := PySem.Str.ofString "__next__") (KBw.iter_typeIs hit) KBw.slot_next
    (wpAny_call_entry KBw.slot_next (KBw.iter_typeIs hit) KBw.entry_next ?_ (KBw.args_next _))))
  show wpAny _ _ (field (.ref it) 0 >>= _) _ _ s
  refine wpAny_bind (wpAny_field ho hd (x := .bytes b t) rfl ?_)
  show wpAny _ _ (if (Value.bytes b t == Value.none) = true then _ else _) _ _ s
  rw [if_neg (show ¬ ((Value.bytes b t == Value.none) = true) from Bool.false_ne_true)]
  show wpAny _ _ (field (.ref it) 1 >>= _) _ _ s
  refine wpAny_bind (wpAny_field ho hd (x := .int i 0) rfl ?_)
  refine wpAny_bind (wpAny_of_eq (a := b) rfl ?_)
  simp only [Int.toNat_natCast, hx]
  refine wpAny_bind (wpAny_rule (wpAny_bind (wpAny_setField ho hd (by simp) ?_)))
  have hs := (Heap.SameBut.update s.heap it (Obj.mapFields (·.setIfInBounds 0 Value.none))).extBut
  refine stop_end (H.but hne hs) (fun h' a o' hk hg hc' => ?_) hs
  refine wpAny_bind (wpAny_isInstance (T := "StopIteration") (b := true) ⟨_, hg, hc'⟩ isSubtype_stop ?_)
  exact wpAny_pure (hQ _ fun b o hb e => hk b o (hs b o hb e))
end
def heldAt : Option Value → List Addr
  | some (.ref e) => [e]
  | _ => []
theorem mem_heldAt {hd : Option Value} {e : Addr} (h : hd = some (.ref e)) : e ∈ heldAt hd := by rw [h]; exact List.mem_singleton.mpr rfl
theorem heldAt_mem {hd : Option Value} {b : Addr} (h : b ∈ heldAt hd) : hd = some (.ref b) := by
  unfold heldAt at h
  split at h
  · rw [List.mem_singleton.mp h]
  · cases h
theorem HeldOk.at {hd : Option Value} {h h' : Heap} (H : HeldOk hd h) (k : ∀ b ∈ heldAt hd, ∀ o, h.get? b = some o → h'.get? b = some o) : HeldOk hd h' := by
  rcases H with H | ⟨e, oe, ve, h1, h2, h3, h4⟩
  · exact .inl H
  · exact .inr ⟨e, oe, ve, h1, k e (mem_heldAt h1) _ h2, h3, h4⟩
theorem HeldOk.there {hd : Option Value} {h : Heap} (H : HeldOk hd h) {b : Addr} (hb : b ∈ heldAt hd) : ∃ o, h.get? b = some o := by
  have h0 := heldAt_mem hb
  rcases H with H | ⟨e, oe, ve, h1, h2, h3, h4⟩
  · rw [H] at h0; cases h0
  · rw [h1] at h0; cases h0; exact ⟨_, h2⟩
theorem held_walks {prog : Program} {w : World} {A : Around} {I : Addr} {fp : List Addr} {n : Nat} {P : Nat → Value → Prop} {St : Nat → Heap → Prop} (hI : I ∈ fp) (hne : ∀ e, A.handled = some (.ref e) → e ≠ I)
    (frame : ∀ i h h', St i h → (∀ b ∈ fp, ∀ o, h.get? b = some o → h'.get? b = some o) → St i h')
    (item : ∀ i (s : Shared) (Q : Option Value → Shared → Prop) (E : Value → Shared → Prop), i < n → St i s.heap → (∀ v h' tk, P i v → St (i + 1) h' → Heap.ExtBut I s.heap h' → Q (some v) { s with heap := h', toks := tk }) → wpAny (model prog w) A (pyNext (.ref I)) Q E s)
    (done : ∀ (s : Shared) (Q : Option Value → Shared → Prop) (E : Value → Shared → Prop), HeldOk A.handled s.heap → St n s.heap → (∀ h', Heap.ExtBut I s.heap h' → Q none { s with heap := h' }) → wpAny (model prog w) A (pyNext (.ref I)) Q E s)
    (self : ∀ i (s : Shared) (Q : Value → Shared → Prop) (E : Value → Shared → Prop), St i s.heap → Q (.ref I) s → wpAny (model prog w) A (pyIter (.ref I)) Q E s) :
    Walks prog w A I (heldAt A.handled ++ fp) [I] n P (fun i h => St i h ∧ HeldOk A.handled h) where
  sub := fun b hb => by rw [List.mem_singleton.mp hb]; exact List.mem_append_right _ hI
  frame := fun i h h' st hk => ⟨frame i h h' st.1 fun b hb => hk b (List.mem_append_right _ hb), st.2.at fun b hb => hk b (List.mem_append_left _ hb)⟩
  item := fun i s Q E hi st hQ => item i s Q E hi st.1 fun v h' tk hp hs hx => hQ v h' tk hp ⟨hs, st.2.but hne hx⟩ fun b o hb e => hx b o (fun q => hb (List.mem_singleton.mpr q)) e
  done := fun s Q E st hQ => done s Q E st.2 st.1 fun h' hx => hQ h' s.toks fun b o hb e => hx b o (fun q => hb (List.mem_singleton.mpr q)) e
  self := fun i s Q E st hQ => self i s Q E st.1 hQ
section
variable {prog : Program} {w : World} {A : Around}
theorem walks_bytes (I : Addr) (hne : ∀ e, A.handled = some (.ref e) → e ≠ I) (b : Array UInt8) (t : Tok) :
    Walks prog w A I (heldAt A.handled ++ [I]) [I] b.size (fun i v => ∃ c u, b[i]? = some c ∧ v = .int (c.toNat : Int) u) (fun i h => KBw.IsBytesIter h I b t i ∧ HeldOk A.handled h) :=
  held_walks (List.mem_cons_self ..) hne (fun _ _ _ st hk => let ⟨o, ho, r⟩ := st; ⟨o, hk I (by simp) o ho, r⟩)
    (fun i s Q E hi st hQ => KBw.next_item st (c := b[i]) (by simp [hi]) fun h' hit' hs' => hQ _ h' (s.toks + 1) ⟨_, _, by simp [hi], rfl⟩ hit' hs'.extBut)
    (fun s Q E H st hQ => next_bytes_end H hne st (by simp) hQ) (fun _ _ _ _ st hQ => KBw.pyIter_self st hQ)
end
end Mine
end
section
open PySem PySem.W PyProof.Rows PySem.Spec PySem.Calls
set_option maxRecDepth 100000
namespace Mine
section
open LCg
variable {prog : Program} {w : World} {A : Around} {E : Value → Shared → Prop} {s : Shared} {h₀ : Heap} {L : Addr} {m : Str → Option Value} {env : Env}
theorem held_new {h : Heap} (F : Fr h₀ L h m) (HH : HeldOk A.handled h₀) : ∀ e, A.handled = some (.ref e) → e ≠ h.objs.size := fun e he =>
  Nat.ne_of_lt ((HH.keeps F.keep).old e he)
theorem held_lt {hd : Option Value} {h : Heap} {o : Obj} (HH : HeldOk hd h) {b : Addr} (hb : b ∈ heldAt hd ++ [h.objs.size]) : b < (h.push o).objs.size := by
  rw [Heap.size_push]
  rcases List.mem_append.mp hb with hb | hb
  · obtain ⟨o, e⟩ := HH.there hb
    exact Nat.lt_succ_of_lt (Heap.lt_size e)
  · rw [List.mem_singleton.mp hb]; exact Nat.lt_succ_self _
end
section
variable {prog : Program} {w : World} {A : Around} {E : Value → Shared → Prop} {s : Shared} {env : Env} {h₀ : Heap} {x : PySem.Str} {body : List Stmt} {Q : Flow → Shared → Prop}
end
end Mine
end
section
open PySem PySem.W PyProof.Rows PySem.Spec PySem.Calls
set_option maxRecDepth 100000
namespace Mine
section
open LCg
variable {prog : Program} {w : World} {A : Around} {E : Value → Shared → Prop} {s : Shared} {h₀ : Heap} {L : Addr} {m : Str → Option Value} {env : Env}
end
theorem ints_at : ∀ {vs : List Value} {ns : List Int}, IntsAre vs ns → ∀ {i : Nat} {v : Value}, vs[i]? = some v → ∃ k t, ns[i]? = some k ∧ v = .int k t
  | _, _, .nil, i, v, h => by simp at h
  | _, _, .cons n t hr, i, v, h => by
    cases i with
    | zero => exact ⟨n, t, rfl, by simpa using h.symm⟩
    | succ i => simpa using ints_at hr (by simpa using h)
theorem strs_of : ∀ (ys : List Value) (P : Nat → Str → Prop), (∀ i y, ys[i]? = some y → ∃ x t, y = .str x t ∧ P i x) → ∃ ps : List (Str × Tok), ys = strValues ps ∧ ∀ (i : Nat) p, ps[i]? = some p → P i p.1
  | [], P, _ => ⟨[], rfl, fun i p h => by simp at h⟩
  | y :: ys, P, h => by
    obtain ⟨ps, e, hp⟩ := strs_of ys (fun i x => P (i + 1) x) fun i y hy => h (i + 1) y (by simpa using hy)
    obtain ⟨x, t, rfl, hx⟩ := h 0 y rfl
    refine ⟨(x, t) :: ps, by rw [e]; rfl, fun i p hi => ?_⟩
    cases i with
    | zero => have : (x, t) = p := by simpa using hi
              subst this; exact hx
    | succ i => exact hp i p (by simpa using hi)
section
variable {prog : Program} {w : World} {A : Around} {E : Value → Shared → Prop} {s : Shared} {t : Tok} {Q : Value → Shared → Prop}
end
end Mine
end
section
open PySem PySem.W PyProof.Rows PySem.Spec PySem.Calls
set_option maxRecDepth 100000
namespace Mine
section
variable {prog : Program} {w : World} {A₀ A : Around} {s : Shared} {base h₀ g₀ : Heap} {outer : List Env} {env : Env} {L a : Addr} {m : Str → Option Value} {news : List (Addr × Obj)} {K : Frag} {p : Program} {loose : List Str} {mean : ExcName → Option Value} {mg mb : Str → Option Value}
  {R : Result → Shared → Prop} {name qual : Str} {params : Arguments} {body : List Stmt} {scope : Scope} {dV kV doc pm cdv ct oc : Value} {an od : Option Addr} {osl : Array (Option Value)} {f : Addr} {args : Args} {binds : List (Str × Value)}
end
end Mine
end
section
open PySem PySem.W PyProof.Rows PySem.Spec PySem.Calls
set_option maxRecDepth 100000
namespace Mine
section
variable {prog : Program} {w : World} {A : Around} {E : Value → Shared → Prop} {s : Shared} {env : Env} {x : Str} {px : Pos} {body : List Stmt} {it : Value} {Q : Flow → Shared → Prop}
def ForTurn (prog : Program) (w : World) (A : Around) (E : Value → Shared → Prop) (env : Env) (x : Str) (px : Pos) (body : List Stmt) (Q : Flow → Shared → Prop) (I : Nat → Shared → Prop) (n : Nat) (r : Option Value) (s₁ : Shared) : Prop := match r with
  | none => wpAny (model prog w) A (execs [] env) Q E s₁
  | some v => wpAny (model prog w) A (assign (.Name x px) env v) (fun _ s₂ => wpAny (model prog w) A (execs body env) (WPost I n Q) E s₂) E s₁
theorem for_ind (hE : PassesOwn (model prog w) A env E) (I : Nat → Shared → Prop) (turn : ∀ n s, I n s → wpAny (model prog w) A (pyNext it) (ForTurn prog w A E env x px body Q I n) E s) (n : Nat) (h : I n s)
    (ht : ∀ v, letOwnedTupleGo (.Name x px) it v = pure () := by intro _; rfl) :
    codeAny (model prog w) A (.forLoop (.Name x px) it body [] env) (fun r s' => match r with | .ok f => Q f s' | .error e => cameBackBy (model prog w) A env E e s') s := by
  refine codeAny_forLoop I (fun n s hI => wpAny_passesOwn hE (wpAny_mono (turn n s hI) (fun r s₁ hr => ?_) fun _ _ e => e)) n h ht
  cases r with
  | none => exact wpAny_passesOwn hE hr
  | some v =>
    refine wpAny_passesOwn hE (wpAny_mono hr (fun _ s₂ h₂ => wpAny_passesOwn hE (wpAny_mono h₂ (fun f s₃ h₃ => ?_) fun _ _ e => e)) fun _ _ e => e)
    cases f with
    | next => exact h₃
    | cont => exact h₃
    | brk => exact h₃
    | ret v => exact h₃
end
end Mine
end
section
open PySem PySem.W PyProof.Rows PySem.Spec PySem.Calls
set_option maxRecDepth 100000
namespace Mine
theorem iter_new {h₀ h : Heap} {L l : Addr} {m : Str → Option Value} {LED : List (Addr × Obj)} (F : Fr h₀ L h m) (N : News h₀ L h LED) :
    News h₀ L (h.push { cls := .type "list_iterator", data := .fields #[.ref l, .int 0 0] }) ((h.objs.size, { cls := .type "list_iterator", data := .fields #[.ref l, .int 0 0] }) :: LED) ∧ ∀ p ∈ LED, p.1 ≠ h.objs.size := by
  refine ⟨fun p hp => ?_, fun p hp => Nat.ne_of_lt (Heap.lt_size (N p hp).1)⟩
  rcases List.mem_cons.mp hp with rfl | hp
  · exact ⟨Heap.get?_push_size _ rfl, Ne.symm (Nat.ne_of_lt F.ns.lt), next_is_new F⟩
  · exact ⟨Heap.get?_push_of_some _ (N p hp).1, (N p hp).2⟩
theorem iter_step {h₀ h h' : Heap} {L I l : Addr} {m : Str → Option Value} {LED : List (Addr × Obj)} {oI : Obj} {i : Nat} (F : Fr h₀ L h m) (N : News h₀ L h ((I, oI) :: LED)) (off : ∀ p ∈ LED, p.1 ≠ I) (hit : h'.IsListIter I l i) (hs : Heap.SameBut I h h') :
    ∃ o', o'.cls = .type "list_iterator" ∧ o'.data = .fields #[.ref l, .int i 0] ∧ Fr h₀ L h' m ∧ News h₀ L h' ((I, o') :: LED) := by
  obtain ⟨o', h1, h2, h3⟩ := hit
  have hI := N (I, oI) List.mem_cons_self
  refine ⟨o', h2, h3, F.change hs hI.2.1 hI.2.2, fun p hp => ?_⟩
  rcases List.mem_cons.mp hp with rfl | hp
  · exact ⟨h1, hI.2⟩
  · exact ⟨(hs.2 _ (off p hp)).trans (N p (List.mem_cons_of_mem _ hp)).1, (N p (List.mem_cons_of_mem _ hp)).2⟩
theorem iter_at {h₀ h : Heap} {L I l : Addr} {LED : List (Addr × Obj)} {oI : Obj} {i : Nat} (N : News h₀ L h ((I, oI) :: LED)) (h1 : oI.cls = .type "list_iterator") (h2 : oI.data = .fields #[.ref l, .int i 0]) : h.IsListIter I l i :=
  ⟨oI, (N (I, oI) List.mem_cons_self).1, h1, h2⟩
end Mine
end
section
open PySem PySem.W PyProof.Rows
namespace Mine
abbrev P4 : Program := PySem.Challenge.rw_km0038_04.row.prog
abbrev atN (dp un : Nat) (gd : Option (List Code)) (env : Env) (outer : List Env) : Around := { handled := none, depth := dp, frames := some (env :: outer), guards := gd, units := un }
theorem divmod_K {prog : Program} {w : World} {A : Around} {E : Value → Shared → Prop} {s : Shared} {a b : Int} {t u : Tok} {Q : Value → Shared → Prop} {h₀ : Heap} {L : Addr} {m : Str → Option Value} {news : List (Addr × Obj)}
    (F : Fr h₀ L s.heap m) (N : News h₀ L s.heap news) (hb : b = 256 ∨ b = 16)
    (h : ∀ D h', Fr h₀ L h' m → News h₀ L h' ((D, { cls := .type "tuple", data := .seq #[.int (a.fdiv b) s.toks, .int (a.fmod b) (s.toks + 1)] }) :: news) → (∀ p ∈ news, p.1 < D) →
      Q (.ref D) { s with toks := s.toks + 1 + 1, heap := h' }) :
    wpAny (model prog w) A (call (.builtin "divmod") [.int a t, .int b u]) Q E s :=
  divmod_N F N (by omega) (fun h' F' N' => h _ h' F' N' fun p hp => Heap.lt_size (N p hp).1) (.inl (PyProof.noPylong_small (by omega)))
def nth : List Value → Nat → Option Value
  | [], _ => none
  | v :: _, 0 => some v
  | _ :: r, n + 1 => nth r n
theorem nth_eq : ∀ (l : List Value) (n : Nat), nth l n = l[n]?
  | [], n => by simp [nth]
  | v :: r, 0 => by simp [nth]
  | v :: r, n + 1 => by simp [nth, nth_eq r n]
theorem getItem_news {prog : Program} {w : World} {A : Around} {E : Value → Shared → Prop} {s : Shared} {k : Int} {t : Tok} {v : Value} {D : Addr} {st : List Value} {n : Nat} {Q : Value → Shared → Prop} {h₀ : Heap} {L : Addr} {news : List (Addr × Obj)}
    (N : News h₀ L s.heap news) (hm : (D, W.listOf st.toArray n) ∈ news) (h0 : 0 ≤ k) (hhi : k < 2 ^ 63) (hx : nth st k.toNat = some v) (h : Q v s) :
    wpAny (model prog w) A (getItem (.ref D) (.int k t)) Q E s :=
  wpAny_getItem_list (News.isList N hm) h0 hhi (by rw [List.getElem?_toArray, ← nth_eq]; exact hx) h
abbrev lamBody : Expr := (Expr.Name (Str.ofString "_law_name") { line := 359, col := 37, endLine := 359, endCol := 46 }).Call
          [Expr.Name (Str.ofString "thing") { line := 359, col := 47, endLine := 359, endCol := 52 },
            Expr.Name (Str.ofString "state") { line := 359, col := 54, endLine := 359, endCol := 59 }]
          [] { line := 359, col := 37, endLine := 359, endCol := 60 }
abbrev lamScope : Scope := Scope.mk ScopeKind.function [(Str.ofString "state", NameKind.free), (Str.ofString "thing", NameKind.free), (Str.ofString "_law_name", NameKind.globalImplicit)] false false []
abbrev lamObj (qual : Str) (c1 c2 c' : Addr) (pm ct : Value) : Obj := kla_obj (Str.ofString "<lambda>") qual
        { posonlyargs := [], args := [], vararg := none, kwonlyargs := [], kw_defaults := [], kwarg := none, defaults := [] }
        lamBody lamScope [(Str.ofString "thing", c2), (Str.ofString "state", c1)] pm c' ct
abbrev core (P : Params) (f c' S x d c2 c1 : Addr) (qual : Str) (pm ct : Value) (oc' o2 o1 : Obj) (tk : Tok) (st : List Value) : List (Addr × Obj) :=
  [(f, lamObj qual c1 c2 c' pm ct), (c', oc'), (S, W.listOf st.toArray 0), (x, instObj 563 d),
   (d, dictOf [{ hash := PyData.keyHash P (Str.ofString "_reverse_pointer"), key := Value.str (Str.ofString "_reverse_pointer") tk, val := Value.ref f }] 1), (c2, o2), (c1, o1)]
end Mine
local macro_rules | `(tactic| walk_at "mine pad") => `(tactic| skip)
local macro_rules | `(tactic| walk_at "mine pad") => `(tactic| skip)
local macro_rules | `(tactic| walk_at "mine pad") => `(tactic| skip)
local macro_rules | `(tactic| walk_at "mine pad") => `(tactic| skip)
local macro_rules | `(tactic| walk_at "mine pad") => `(tactic| skip)
local macro_rules | `(tactic| walk_at "mine pad") => `(tactic| skip)
local macro_rules | `(tactic| walk_at "mine pad") => `(tactic| skip)
local macro_rules | `(tactic| walk_at "mine pad") => `(tactic| skip)
local macro_rules | `(tactic| walk_at "mine pad") => `(tactic| skip)
local macro_rules | `(tactic| walk_at "mine pad") => `(tactic| skip)
local macro_rules | `(tactic| walk_at "mine pad") => `(tactic| skip)
local macro_rules | `(tactic| walk_at "mine pad") => `(tactic| skip)
local macro_rules | `(tactic| walk_at "mine pad") => `(tactic| skip)
local macro_rules | `(tactic| walk_at "mine pad") => `(tactic| skip)
local macro_rules | `(tactic| walk_at "mine pad") => `(tactic| skip)
local macro_rules | `(tactic| walk_at "mine pad") => `(tactic| skip)
local macro_rules | `(tactic| walk_at "mine pad") => `(tactic| skip)
local macro_rules | `(tactic| walk_at "mine pad") => `(tactic| skip)
local macro_rules | `(tactic| walk_at "mine pad") => `(tactic| skip)
local macro_rules | `(tactic| walk_at "mine pad") => `(tactic| skip)
local macro_rules | `(tactic| walk_at "mine pad") => `(tactic| skip)
local macro_rules | `(tactic| walk_at "mine pad") => `(tactic| skip)
local macro_rules | `(tactic| walk_at "mine pad") => `(tactic| skip)
local macro_rules | `(tactic| walk_at "mine pad") => `(tactic| skip)
local macro_rules | `(tactic| walk_at "mine pad") => `(tactic| skip)
local macro_rules | `(tactic| walk_at "mine pad") => `(tactic| skip)
local macro_rules | `(tactic| walk_at "mine pad") => `(tactic| skip)
local macro_rules | `(tactic| walk_at "mine pad") => `(tactic| skip)
local macro_rules | `(tactic| walk_at "mine pad") => `(tactic| skip)
local macro_rules | `(tactic| walk_at "mine pad") => `(tactic| skip)
local macro_rules | `(tactic| walk_at "mine pad") => `(tactic| skip)
local macro_rules | `(tactic| walk_at "mine pad") => `(tactic| skip)
local macro_rules | `(tactic| walk_at "mine pad") => `(tactic| skip)
local macro_rules | `(tactic| walk_at "mine pad") => `(tactic| skip)
local macro_rules | `(tactic| walk_at "callWith") => `(tactic| (k_here; (try dsimp only); k_dflt (first
  | (refine' callWith_F ?k1 ?_; (case k1 => exact FnAt.of (by k_asm) (by k_mem)); k_whole)
  | (refine' callWith_F0 ?k1 ?_; (case k1 => exact FnAt.of (by k_asm) (by k_mem)); k_whole; try dsimp only [List.nil_append, List.cons_append]))))
local macro_rules | `(tactic| walk_at "call ref") => `(tactic| (k_here; k_dflt (refine wpAny_call ?_; kla_enter)))
local macro_rules | `(tactic| walk_at "eval Name") => `(tactic| (k_here; k_dflt (refine' nameX_F ?N ?c ?m ?d ?_ ?a ?b; (case a => rfl); (case b => rfl); (case N => k_asm); (case c => rfl); (case m => k_mem); (case d => k_asm); k_whole)))
local macro_rules | `(tactic| walk_at "getAttr ref") => `(tactic| ((with_reducible show wpAny _ _ (getAttr (Value.ref _) (PySem.Str.ofString "reverse_pointer") _) _ _ _); refine Mine.stop_here ?_))
local macro_rules | `(tactic| walk_at "call builtin:divmod") => `(tactic| (k_here; k_dflt (refine' Mine.divmod_K ?F ?N ?b ?_; (case F => k_asm); (case N => k_asm); (case b => assumption)); intro D' h' F' N' l1; (try k_lt l1); (try k_sweep)))
local macro_rules | `(tactic| walk_at "getItem ref int") => `(tactic| (k_here; k_dflt (refine' Mine.getItem_news ?N ?m ?a ?b ?x ?_; (case N => k_asm); (case m => k_mem); (case a => decide); (case b => decide); (case x => rfl); k_whole)))
local macro_rules | `(tactic| k_all) => `(tactic| assumption)
local macro_rules | `(tactic| k_room) => `(tactic| ktr_room)
local macro_rules | `(tactic| ke_room) => `(tactic| ktr_units)
local macro_rules | `(tactic| k_units) => `(tactic| ktr_units)
namespace Mine
theorem news_in {h₀ h : Heap} {L : Addr} {a : Addr × Obj} {l1 l2 : List (Addr × Obj)} (N : News h₀ L h (a :: (l1 ++ l2))) : News h₀ L h (l1 ++ a :: l2) := fun p hp => N p (by
  rw [List.mem_append, List.mem_cons] at hp
  rw [List.mem_cons, List.mem_append]
  rcases hp with h | h | h
  · exact .inr (.inl h)
  · exact .inl h
  · exact .inr (.inr h))
theorem news_out {h₀ h : Heap} {L : Addr} {a : Addr × Obj} {l1 l2 : List (Addr × Obj)} (N : News h₀ L h (l1 ++ a :: l2)) : News h₀ L h (a :: (l1 ++ l2)) := fun p hp => N p (by
  rw [List.mem_cons, List.mem_append] at hp
  rw [List.mem_append, List.mem_cons]
  rcases hp with h | h | h
  · exact .inr (.inl h)
  · exact .inl h
  · exact .inr (.inr h))
theorem dec_len {f : Int} (h0 : 0 ≤ f) (h1 : f < 256) : (Str.ofString (toString f)).length ≤ 3 := by
  obtain ⟨m, rfl⟩ := Int.eq_ofNat_of_zero_le h0
  have k : ∀ m : Fin 256, (Str.ofString (toString ((m.val : Nat) : Int))).length ≤ 3 := by decide +kernel
  exact k ⟨m, by omega⟩
theorem hex_len {f : Int} (h0 : 0 ≤ f) (h1 : f < 16) : (Txt.item (Str.ofString "0123456789abcdef") f).length ≤ 3 := by
  obtain ⟨m, rfl⟩ := Int.eq_ofNat_of_zero_le h0
  have k : ∀ m : Fin 16, (Txt.item (Str.ofString "0123456789abcdef") ((m.val : Nat) : Int)).length ≤ 3 := by decide +kernel
  exact k ⟨m, by omega⟩
def label (b f : Int) : Str := if b = 256 then Str.ofString (toString f) else Txt.item (Str.ofString "0123456789abcdef") f
def told : Nat → Int → Int → Str → Str
  | 0, _, _, fin => fin
  | k + 1, n, b, fin => label b (n.fmod b) ++ Str.ofString "." ++ told k (n.fdiv b) b fin
def lead : Nat → Int → Int → Int
  | 0, n, _ => n
  | k + 1, n, b => lead k (n.fdiv b) b
def NameSpec (w : World) (k : Nat) : Prop :=
  ∀ (mean : ExcName → Option Value) (mg mb : Str → Option Value) (kk n b c : Int) (fin : Str) (t1 t2 t3 t4 t5 tk0 : Tok) (dp un : Nat) (gd : Option (List Code)) (env : Env) (outer : List Env) (A₀ : Around) (base h₀ : Heap) (L : Addr) (m : Str → Option Value)
    (f c' S x d c2 c1 : Addr) (qual : Str) (pm ct : Value) (oc' o2 o1 : Obj) (vs' : Array Value) (tq : Tok) (rest : List (Addr × Obj)) (s : Shared) (Q E : Value → Shared → Prop) (pgm : Program) (loose : List Str)
    (B : Below A₀ base outer h₀) (F : Fr h₀ L s.heap m) (X : (hd.heap_39 w.params).In h₀) (N : News h₀ L s.heap (core w.params f c' S x d c2 c1 qual pm ct oc' o2 o1 tk0 [.int n t1, .int b t2, .int kk t3, .str fin t4, .int c t5] ++ rest))
    (T : Top pgm loose mean mg mb h₀) (hfX : env.frame = some L) (hk : env.scope.kind = .function) (hkk : kk = (k : Int))
    (hord : @LT.lt Nat _ c1 c2 ∧ @LT.lt Nat _ c2 d ∧ @LT.lt Nat _ d x ∧ @LT.lt Nat _ x S ∧ @LT.lt Nat _ S c' ∧ @LT.lt Nat _ c' f) (hrest : ∀ p ∈ rest, p.1 ≠ S)
    (d1 : oc'.data = .fields vs') (d2 : vs'[1]? = some (.str qual tq)) (e2 : o2.data = .cell (some (.ref x))) (e1 : o1.data = .cell (some (.ref S)))
    (hb : b = 256 ∨ b = 16) (hfin : fin.length ≤ 100) (hk32 : k ≤ 32) (hdp : dp + 10 + 3 * k < recursionLimit) (hu : un + 400 + 100 * k < cLine)
    (rS : ∀ h' tk' t' u1 u3 u5, Fr h₀ L h' m → News h₀ L h' (core w.params f c' S x d c2 c1 qual pm ct oc' o2 o1 tk0 [.int (lead k n b) u1, .int b t2, .int 0 u3, .str fin t4, .int (c + k + 1) u5] ++ rest) →
      (told k n b fin).length ≤ 100 + 20 * k → Q (.str (told k n b fin) t') { s with heap := h', toks := tk' }),
    wpAny (model P4 w) (atN dp un gd env outer) (getAttr (.ref x) (Str.ofString "reverse_pointer") true) Q E s
set_option maxRecDepth 100000 in
set_option maxHeartbeats 8000000 in
theorem name_step (w : World) (k : Nat) (IH : ∀ j, j + 1 = k → NameSpec w j) : NameSpec w k := by
  intro mean mg mb kk n b c fin t1 t2 t3 t4 t5 tk0 dp un gd env outer A₀ base h₀ L m f c' S x d c2 c1 qual pm ct oc' o2 o1 vs' tq rest s Q E pgm loose B F X N T hfX hk hkk hord hrest d1 d2 e2 e1 hb hfin hk32 hdp hu rS
  have hq : PySem.Challenge.rw_km0038_04 = PySem.Challenge.rw_km0038_04 ∧ hd.heap_39 = hd.heap_39 := ⟨rfl, rfl⟩
  revert hq
  k_fill
  intro hq
  w_on
  simp only [core, List.cons_append, List.nil_append] at N
  have hm0 : 0 ≤ n.fmod b := Int.fmod_nonneg_of_pos _ (by omega)
  have hm1 : n.fmod b < b := Int.fmod_lt_of_pos _ (by omega)
  obtain ⟨o1', o2', o3', o4', o5', o6'⟩ := hord
  have hall : ∀ p ∈ (x, instObj 563 d) :: (d, dictOf [{ hash := PyData.keyHash w.params (Str.ofString "_reverse_pointer"), key := Value.str (Str.ofString "_reverse_pointer") tk0, val := Value.ref f }] 1) :: (c2, o2) :: (c1, o1) :: rest, p.1 ≠ S := by
    intro p hp
    simp only [List.mem_cons] at hp
    rcases hp with rfl | rfl | rfl | rfl | hp
    · exact Nat.ne_of_lt o4'
    · exact Nat.ne_of_lt (Nat.lt_trans o3' o4')
    · exact Nat.ne_of_lt (Nat.lt_trans o2' (Nat.lt_trans o3' o4'))
    · exact Nat.ne_of_lt (Nat.lt_trans o1' (Nat.lt_trans o2' (Nat.lt_trans o3' o4')))
    · exact hrest p hp
  k_dflt (refine' get_prop ?k1 ?k2 ?k3 ?k4 ?k5 ?k6 ?k7 ?k8 ?k9 ?_; (case k1 => k_asm); (case k2 => k_asm); (case k3 => k_inst); (case k4 => k_is); (case k5 => k_is); (case k6 => k_is); (case k7 => k_is); (case k8 => k_is); (case k9 => k_is); k_whole)
  k_dflt (refine' PySem.W.code_def ?k1 ?k2 ?k3 ?k4 ?k5 ?kA ?kF ?kK ?k6 ?k7 ?k8 ?k9 ?kB ?_ ?c2 ?c3 ?c4 ?c5; (case kA => exact rfl); (case kF => exact hfX); (case kK => exact hk); (case k1 => k_asm); (case k2 => k_asm); (case k3 => k_asm); (case k4 => k_asm); (case k5 => k_asm); (case k6 => k_is); (case k7 => k_is); (case k8 => k_room); (case k9 => first | exact BindsTo.of_eq rfl | exact binds_K (by k_in) rfl (by k_is) rfl rfl rfl); (case c5 => decide); (case kB => exact locs rfl); (case c2 => exact rfl); (case c3 => exact rfl); (case c4 => exact rfl); k_whole; intro g' L' h' FG' F' N' B' X' T'; (try dsimp only); (try k_lift B'); (try k_fold))
  w_strict k_steps
  · rename kk = 0 => hk0
    subst hk0
    have hk' : k = 0 := by omega
    subst hk'
    rename Fr h₀ L _ _ => F3
    rename News h₀ L _ _ => N3
    rw [show c + 1 = c + ((0 : Nat) : Int) + 1 by omega] at N3
    exact rS _ _ _ t1 t3 _ F3 N3 (by show fin.length ≤ _; omega)
  · unfold Stop
    rename kk ≠ 0 => hk0
    obtain ⟨j, rfl⟩ : ∃ j, k = j + 1 := ⟨k - 1, by omega⟩
    rename News _ _ _ ((_, _) :: _) => N3
    rename @LT.lt Nat _ f _ ∧ _ => l3
    have N4 := news_in (l1 := core w.params f c' S x d c2 c1 qual pm ct oc' o2 o1 tk0 [_, _, _, _, _]) (l2 := rest) N3
    with_unfolding_all refine' IH j rfl mean mg mb (kk - 1) (n.fdiv b) b (c + 1) fin _ _ _ _ _ tk0 _ _ _ _ _ _ _ _ _ _ f c' S x d c2 c1 qual pm ct oc' o2 o1 vs' tq (_ :: rest) _ _ _ pgm loose ?B ?F ?X ?N ?T ?hf ?hk ?kk ⟨o1', o2', o3', o4', o5', o6'⟩ ?hr d1 d2 e2 e1 hb hfin ?k ?dp ?u ?rS
    (case B => k_asm)
    (case F => k_asm)
    (case X => k_asm)
    (case N => exact N4)
    (case T => k_asm)
    (case hf => exact rfl)
    (case hk => exact rfl)
    (case kk => omega)
    (case hr => intro p hp; rcases List.mem_cons.mp hp with rfl | hp; exact Nat.ne_of_gt (by omega); exact hrest p hp)
    (case k => omega)
    (case dp => ktr_room)
    (case u => ktr_units)
    intro h4 tk4 t4' u1 u3 u5 F4 N5 hlen
    have N6 := news_out N5
    simp only [core, List.cons_append, List.nil_append] at N6
    dsimp only
    have hlab : (Str.ofString (toString (n.fmod b))).length ≤ 3 := dec_len hm0 (by omega)
    w_strict k_steps
    have hl : label b (n.fmod b) = Str.ofString (toString (n.fmod b)) := if_pos (by assumption)
    have et : told (j + 1) n b fin = label b (n.fmod b) ++ Str.ofString "." ++ told j (n.fdiv b) b fin := rfl
    rw [← hl]
    rename Fr h₀ L _ _ => F9
    rename News h₀ L _ _ => N9
    rw [show c + 1 + (j : Int) + 1 = c + ((j + 1 : Nat) : Int) + 1 by omega] at N9
    rw [← hl] at hlab
    refine rS _ _ _ _ _ _ F9 (News.tail' N9) ?_
    rw [et, Str.length_append, Str.length_append, show (Str.ofString ".").length = 1 by decide +kernel]
    omega
  · unfold Stop
    rename kk ≠ 0 => hk0
    obtain ⟨j, rfl⟩ : ∃ j, k = j + 1 := ⟨k - 1, by omega⟩
    rename News _ _ _ ((_, _) :: _) => N3
    rename @LT.lt Nat _ f _ ∧ _ => l3
    have N4 := news_in (l1 := core w.params f c' S x d c2 c1 qual pm ct oc' o2 o1 tk0 [_, _, _, _, _]) (l2 := rest) N3
    with_unfolding_all refine' IH j rfl mean mg mb (kk - 1) (n.fdiv b) b (c + 1) fin _ _ _ _ _ tk0 _ _ _ _ _ _ _ _ _ _ f c' S x d c2 c1 qual pm ct oc' o2 o1 vs' tq (_ :: rest) _ _ _ pgm loose ?B2z ?F2z ?X2z ?N2z ?T2z ?hf2z ?hk2z ?kk2z ⟨o1', o2', o3', o4', o5', o6'⟩ ?hr2z d1 d2 e2 e1 hb hfin ?k2z ?dp2z ?u2z ?rS2z
    (case B2z => k_asm)
    (case F2z => k_asm)
    (case X2z => k_asm)
    (case N2z => exact N4)
    (case T2z => k_asm)
    (case hf2z => exact rfl)
    (case hk2z => exact rfl)
    (case kk2z => omega)
    (case hr2z => intro p hp; rcases List.mem_cons.mp hp with rfl | hp; exact Nat.ne_of_gt (by omega); exact hrest p hp)
    (case k2z => omega)
    (case dp2z => ktr_room)
    (case u2z => ktr_units)
    intro h4 tk4 t4' u1 u3 u5 F4 N5 hlen
    have N6 := news_out N5
    simp only [core, List.cons_append, List.nil_append] at N6
    dsimp only
    have hlab : (Txt.item (Str.ofString "0123456789abcdef") (n.fmod b)).length ≤ 3 := hex_len hm0 (by omega)
    w_strict k_steps
    have hl : label b (n.fmod b) = Txt.item (Str.ofString "0123456789abcdef") (n.fmod b) := if_neg (by assumption)
    have et : told (j + 1) n b fin = label b (n.fmod b) ++ Str.ofString "." ++ told j (n.fdiv b) b fin := rfl
    rw [← hl]
    rename Fr h₀ L _ _ => F9
    rename News h₀ L _ _ => N9
    rw [show c + 1 + (j : Int) + 1 = c + ((j + 1 : Nat) : Int) + 1 by omega] at N9
    rw [← hl] at hlab
    refine rS _ _ _ _ _ _ F9 (News.tail' N9) ?_
    rw [et, Str.length_append, Str.length_append, show (Str.ofString ".").length = 1 by decide +kernel]
    omega
theorem name_spec (w : World) : ∀ k, NameSpec w k
  | 0 => name_step w 0 fun _ h => nomatch h
  | k + 1 => name_step w (k + 1) fun j h => (Nat.succ.inj h) ▸ name_spec w k
end Mine
end
section
open PySem PySem.W PyProof.Rows
set_option maxRecDepth 100000
namespace Mine
open PySem.Builtin
section
variable {prog : Program} {w : World} {A : Around} {E : Value → Shared → Prop} {s : Shared} {x B : Int} {k : Nat} {t u : Tok}
theorem args_tb (a b : Value) : argsOk "int.to_bytes" ⟨[a, b], []⟩ := by unfold argsOk; kernel_rfl
theorem to_big1 {Q : Value → Shared → Prop} (hk : k ≤ 100) (hB : (256 : Int) ^ k = B) (h0 : 0 ≤ x) (h1 : x < B) (h : ∀ (b : Array UInt8) t' k', KBw.bInts b = (KTBy.little k x).reverse → (KTBy.little k x).reverse.length = k → Q (.bytes b t') { s with toks := k' }) :
    wpAny (model prog w) A (call (.builtin "int.to_bytes") [.int x t, .int (k : Int) u]) Q E s := by
  have hl : (KTBy.little k x).reverse.length = k := by rw [List.length_reverse, KTBy.little_length]
  refine wpAny_call_entry KTBy.slot (typeIs_int s x t) KTBy.entry ?_ (args_tb _ _)
  have hb := KTBy.bits_le hB h0 h1
  have h1' : x < 256 ^ k := by rw [hB]; exact h1
  show wpAny _ _ (Builtin.Int.intOfSelf (.int x t) >>= fun y => _) _ _ s
  refine wpAny_bind (wpAny_of_eq (a := x) rfl ?_)
  show wpAny _ _ (Builtin.Int.intBindNamed "to_bytes" ["length", "byteorder", "signed"] 0 2 [.int (k : Int) u] [] >>= fun l => _) _ _ s
  refine wpAny_bind (wpAny_of_eq (a := [some (.int (k : Int) u), none, none]) (by kernel_rfl) ?_)
  show wpAny _ _ (Builtin.Int.intIndex "int.to_bytes" (.int (k : Int) u) >>= fun n => _) _ _ s
  refine wpAny_bind (wpAny_of_eq (a := (k : Int)) rfl ?_)
  refine KTBy.if_not (by show (decide ((k : Int) < -(2 ^ 63 : Int)) || decide ((k : Int) ≥ 2 ^ 63)) = false; rw [decide_eq_false (show ¬ ((k : Int) < -(2 ^ 63 : Int)) by omega), decide_eq_false (show ¬ ((k : Int) ≥ 2 ^ 63) by omega)]; rfl) ?_
  refine wpAny_bind (wpAny_of_eq (a := PySem.Str.ofString "big") (by kernel_rfl) ?_)
  refine wpAny_bind (wpAny_of_eq (a := false) rfl ?_)
  refine wpAny_bind (wpAny_of_eq (a := false) (by kernel_rfl) ?_)
  refine wpAny_ite_false (decide_eq_false (show ¬ ((k : Int) < 0) by omega)) ?_
  refine wpAny_ite_false (decide_eq_false (show ¬ ((k : Int) > 2 ^ 63 - 1 - 33) by omega)) ?_
  refine wpAny_ite_false (decide_eq_false (show ¬ ((k : Int) > (sizeLine : Int)) by rw [sizeLine_eq]; omega)) ?_
  refine KTBy.if_not (by show (decide (x < 0) && !false) = false; rw [decide_eq_false (show ¬ x < 0 by omega)]; rfl) ?_
  refine KTBy.if_not (by show (_ && decide ((Builtin.Int.intBits x : Int) > 8 * (k : Int))) = false; rw [decide_eq_false (show ¬ ((Builtin.Int.intBits x : Int) > 8 * (k : Int)) by omega), Bool.and_false]) ?_
  refine wpAny_bind (wpAny_mkBytes (wpAny_pure ⟨_, rfl, h _ _ _ ?_ hl⟩) (by show (List.reverse (KTBy.low x (Int.toNat (k : Int)))).length ≤ sizeLine; rw [List.length_reverse, KTBy.low_length, Int.toNat_natCast, sizeLine_eq]; omega))
  show (List.map (fun c : UInt8 => ((c.toNat : Nat) : Int)) (List.reverse (KTBy.low x (Int.toNat (k : Int))))) = (KTBy.little k x).reverse
  rw [Int.toNat_natCast, List.map_reverse, KTBy.low_ints h0 h1', ← KTBy.little_eq]
end
end Mine
local macro_rules | `(tactic| walk_at "mine pad") => `(tactic| skip)
local macro_rules | `(tactic| walk_at "mine pad") => `(tactic| skip)
local macro_rules | `(tactic| walk_at "mine pad") => `(tactic| skip)
local macro_rules | `(tactic| walk_at "mine pad") => `(tactic| skip)
local macro_rules | `(tactic| walk_at "mine pad") => `(tactic| skip)
local macro_rules | `(tactic| walk_at "mine pad") => `(tactic| skip)
local macro_rules | `(tactic| walk_at "mine pad") => `(tactic| skip)
local macro_rules | `(tactic| walk_at "mine pad") => `(tactic| skip)
local macro_rules | `(tactic| walk_at "mine pad") => `(tactic| skip)
local macro_rules | `(tactic| walk_at "mine pad") => `(tactic| skip)
local macro_rules | `(tactic| walk_at "mine pad") => `(tactic| skip)
local macro_rules | `(tactic| walk_at "mine pad") => `(tactic| skip)
local macro_rules | `(tactic| walk_at "mine pad") => `(tactic| skip)
local macro_rules | `(tactic| walk_at "mine pad") => `(tactic| skip)
local macro_rules | `(tactic| walk_at "mine pad") => `(tactic| skip)
local macro_rules | `(tactic| walk_at "mine pad") => `(tactic| skip)
local macro_rules | `(tactic| walk_at "mine pad") => `(tactic| skip)
local macro_rules | `(tactic| walk_at "mine pad") => `(tactic| skip)
local macro_rules | `(tactic| walk_at "mine pad") => `(tactic| skip)
local macro_rules | `(tactic| walk_at "mine pad") => `(tactic| skip)
local macro_rules | `(tactic| walk_at "mine pad") => `(tactic| skip)
local macro_rules | `(tactic| walk_at "mine pad") => `(tactic| skip)
local macro_rules | `(tactic| walk_at "mine pad") => `(tactic| skip)
local macro_rules | `(tactic| walk_at "mine pad") => `(tactic| skip)
local macro_rules | `(tactic| walk_at "mine pad") => `(tactic| skip)
local macro_rules | `(tactic| walk_at "mine pad") => `(tactic| skip)
local macro_rules | `(tactic| walk_at "mine pad") => `(tactic| skip)
local macro_rules | `(tactic| walk_at "mine pad") => `(tactic| skip)
local macro_rules | `(tactic| walk_at "mine pad") => `(tactic| skip)
local macro_rules | `(tactic| walk_at "mine pad") => `(tactic| skip)
local macro_rules | `(tactic| walk_at "mine pad") => `(tactic| skip)
local macro_rules | `(tactic| walk_at "mine pad") => `(tactic| skip)
local macro_rules | `(tactic| walk_at "mine pad") => `(tactic| skip)
local macro_rules | `(tactic| walk_at "mine pad") => `(tactic| skip)
local macro_rules | `(tactic| walk_at "mine pad") => `(tactic| skip)
local macro_rules | `(tactic| walk_at "mine pad") => `(tactic| skip)
local macro_rules | `(tactic| walk_at "mine pad") => `(tactic| skip)
local macro_rules | `(tactic| walk_at "mine pad") => `(tactic| skip)
local macro_rules | `(tactic| walk_at "mine pad") => `(tactic| skip)
local macro_rules | `(tactic| walk_at "mine pad") => `(tactic| skip)
local macro_rules | `(tactic| walk_at "mine pad") => `(tactic| skip)
local macro_rules | `(tactic| walk_at "mine pad") => `(tactic| skip)
local macro_rules | `(tactic| walk_at "mine pad") => `(tactic| skip)
local macro_rules | `(tactic| walk_at "mine pad") => `(tactic| skip)
local macro_rules | `(tactic| walk_at "mine pad") => `(tactic| skip)
local macro_rules | `(tactic| walk_at "mine pad") => `(tactic| skip)
local macro_rules | `(tactic| walk_at "mine pad") => `(tactic| skip)
local macro_rules | `(tactic| walk_at "mine pad") => `(tactic| skip)
local macro_rules | `(tactic| walk_at "mine pad") => `(tactic| skip)
local macro_rules | `(tactic| walk_at "mine pad") => `(tactic| skip)
local macro_rules | `(tactic| walk_at "call builtin:int.to_bytes") => `(tactic| (k_here; (try dsimp only [List.cons_append, List.nil_append]); k_dflt (refine Mine.to_big1 (k := 4) (B := 4294967296) (by decide) (by decide) (by assumption) (by assumption) ?_); intro _ _ _ _ _))
local macro_rules | `(tactic| k_all) => `(tactic| assumption)
local macro_rules | `(tactic| k_room) => `(tactic| ktr_room)
local macro_rules | `(tactic| ke_room) => `(tactic| ktr_units)
local macro_rules | `(tactic| k_units) => `(tactic| ktr_units)
namespace Mine
set_option maxRecDepth 100000 in
set_option maxHeartbeats 8000000 in
theorem pack4_spec (w : World) {mean : ExcName → Option Value} {mg mb : Str → Option Value} {n : Int} {t : Tok} {dp un : Nat} {gd : Option (List Code)} {env : Env} {outer : List Env} {A₀ : Around} {base h₀ : Heap} {L : Addr} {m : Str → Option Value}
    {news : List (Addr × Obj)} {s : Shared} {Q E : Value → Shared → Prop} {loose : List Str} {pgm : Program}
    (B : Below A₀ base outer h₀) (F : Fr h₀ L s.heap m) (X : (hd.heap_39 w.params).In h₀) (N : News h₀ L s.heap news)
    (T : Top pgm loose mean mg mb h₀) (hfX : env.frame = some L) (hk : env.scope.kind = .function) (h0 : 0 ≤ n) (h1 : n < 4294967296)
    (hdp : dp + 10 < recursionLimit) (hu : un + 400 < cLine)
    (rS : ∀ h' tk' bs t', Fr h₀ L h' m → News h₀ L h' news → KBw.bInts bs = (KTBy.little 4 n).reverse → Q (.bytes bs t') { s with heap := h', toks := tk' }) :
    wpAny (model P4 w) (atN dp un gd env outer) (call (.ref 28) [.int n t]) Q E s := by
  have hq : PySem.Challenge.rw_km0038_04 = PySem.Challenge.rw_km0038_04 ∧ hd.heap_39 = hd.heap_39 := ⟨rfl, rfl⟩
  revert hq
  k_fill
  intro hq
  w_on
  refine wpAny_call ?_
  k_dflt (refine' PySem.W.code_def ?k1 ?k2 ?k3 ?k4 ?k5 ?kA ?kF ?kK ?k6 ?k7 ?k8 ?k9 ?kB ?_ ?c2 ?c3 ?c4 ?c5; (case kA => exact rfl); (case kF => exact hfX); (case kK => exact hk); (case k1 => k_asm); (case k2 => k_asm); (case k3 => k_asm); (case k4 => k_asm); (case k5 => k_asm); (case k6 => k_is); (case k7 => k_is); (case k8 => k_room); (case k9 => first | exact BindsTo.of_eq rfl | exact binds_K (by k_in) rfl (by k_is) rfl rfl rfl); (case c5 => decide); (case kB => exact locs rfl); (case c2 => exact rfl); (case c3 => exact rfl); (case c4 => exact rfl); k_whole; intro g' L' h' FG' F' N' B' X' T'; (try dsimp only); (try k_lift B'); (try k_fold))
  w_strict k_steps
  rename Fr h₀ L _ _ => F9
  rename News h₀ L _ _ => N9
  exact rS _ _ _ _ F9 N9 (by assumption)
end Mine
local macro_rules | `(tactic| walk_at "call builtin:int.to_bytes") => `(tactic| (k_here; (try dsimp only [List.cons_append, List.nil_append]); k_dflt (refine Mine.to_big1 (k := 16) (B := 340282366920938463463374607431768211456) (by decide) (by decide) (by assumption) (by assumption) ?_); intro _ _ _ _ _))
namespace Mine
set_option maxRecDepth 100000 in
set_option maxHeartbeats 8000000 in
theorem pack16_spec (w : World) {mean : ExcName → Option Value} {mg mb : Str → Option Value} {n : Int} {t : Tok} {dp un : Nat} {gd : Option (List Code)} {env : Env} {outer : List Env} {A₀ : Around} {base h₀ : Heap} {L : Addr} {m : Str → Option Value}
    {news : List (Addr × Obj)} {s : Shared} {Q E : Value → Shared → Prop} {loose : List Str} {pgm : Program}
    (B : Below A₀ base outer h₀) (F : Fr h₀ L s.heap m) (X : (hd.heap_39 w.params).In h₀) (N : News h₀ L s.heap news)
    (T : Top pgm loose mean mg mb h₀) (hfX : env.frame = some L) (hk : env.scope.kind = .function) (h0 : 0 ≤ n) (h1 : n < 340282366920938463463374607431768211456)
    (hdp : dp + 10 < recursionLimit) (hu : un + 400 < cLine)
    (rS : ∀ h' tk' bs t', Fr h₀ L h' m → News h₀ L h' news → KBw.bInts bs = (KTBy.little 16 n).reverse → Q (.bytes bs t') { s with heap := h', toks := tk' }) :
    wpAny (model P4 w) (atN dp un gd env outer) (call (.ref 35) [.int n t]) Q E s := by
  have hq : PySem.Challenge.rw_km0038_04 = PySem.Challenge.rw_km0038_04 ∧ hd.heap_39 = hd.heap_39 := ⟨rfl, rfl⟩
  revert hq
  k_fill
  intro hq
  w_on
  refine wpAny_call ?_
  k_dflt (refine' PySem.W.code_def ?k1 ?k2 ?k3 ?k4 ?k5 ?kA ?kF ?kK ?k6 ?k7 ?k8 ?k9 ?kB ?_ ?c2 ?c3 ?c4 ?c5; (case kA => exact rfl); (case kF => exact hfX); (case kK => exact hk); (case k1 => k_asm); (case k2 => k_asm); (case k3 => k_asm); (case k4 => k_asm); (case k5 => k_asm); (case k6 => k_is); (case k7 => k_is); (case k8 => k_room); (case k9 => first | exact BindsTo.of_eq rfl | exact binds_K (by k_in) rfl (by k_is) rfl rfl rfl); (case c5 => decide); (case kB => exact locs rfl); (case c2 => exact rfl); (case c3 => exact rfl); (case c4 => exact rfl); k_whole; intro g' L' h' FG' F' N' B' X' T'; (try dsimp only); (try k_lift B'); (try k_fold))
  w_strict k_steps
  rename Fr h₀ L _ _ => F9
  rename News h₀ L _ _ => N9
  exact rS _ _ _ _ F9 N9 (by assumption)
end Mine
end
section
open PySem PySem.W PyProof.Rows PySem.Spec PySem.Calls
set_option maxRecDepth 100000
namespace Mine
section
open LCg
variable {prog : Program} {w : World} {A : Around} {E : Value → Shared → Prop} {s : Shared} {h₀ : Heap} {L : Addr} {m : Str → Option Value} {env : Env}
theorem bytes_st {I : Addr} {b : Array UInt8} {t : Tok} : ∀ i (h h' : Heap) (o : Obj) (nw : List (Addr × Obj)), KBw.IsBytesIter h I b t i → h.get? I = some o → h'.get? I = some o → (∀ b o, h₀.get? b = some o → h'.get? b = some o) → News h₀ L h' nw → True → KBw.IsBytesIter h' I b t i :=
  fun i h h' o nw st e e' _ _ _ => by
    obtain ⟨o', q, r⟩ := st
    rw [e] at q; cases q
    exact ⟨o, e', r⟩
theorem listcomp_bytesH {elt iter : Expr} {x : Str} {px : Pos} {scope : Scope} {cl : List (Str × Addr)} {pos : Pos} {Q : Value → Shared → Prop} (_F₀ : Fr h₀ L s.heap m) (HH : HeldOk A.handled h₀)
    (hclos : closureFor scope env = pure cl) (hcell : ∀ y ∈ scope.names, y.2 ≠ .cell) (hkind : scope.kind = .function)
    (hnames : ∀ y ∈ scope.names, y.2 = .local → scope.names.lookup y.1 = some .local) (hx : scope.names.lookup x = some .local)
    (h : wpAny (model prog w) A (eval iter env) (fun xv s₁ => ∃ (b : Array UInt8) (t : Tok) (news : List (Addr × Obj)), xv = .bytes b t ∧ Fr h₀ L s₁.heap m ∧ News h₀ L s₁.heap news ∧ b.size ≤ sizeLine ∧
      ∀ s₂ : Shared, (∃ h, s₂ = { s₁ with heap := h }) → CompRest prog w A h₀ L m env elt x scope cl s₂ (fun _ => True) (fun i v => ∃ (n : UInt8) (u : Tok), b[i]? = some n ∧ v = .int n.toNat u) (FinE h₀ L m s₂ Q) b.size 0 [] news) E s)
    (hs : ∀ x, foldedSetIterable iter env x = pure x := by intro _; rfl) :
    wpAny (model prog w) A (eval (.ListComp elt [⟨.Name x px, iter, [], 0⟩] scope pos) env) Q E s := by
  rw [eval_ListComp]
  refine wpAny_comprehension_free (use := none) rfl hs hclos hkind hnames (wpAny_mono h (fun xv s₁ h₁ => ?_) fun _ _ e => e)
  obtain ⟨b, t, news, rfl, F, N, hsz, R⟩ := h₁
  have fin : ∀ (o : Obj), ∀ D C (h : Heap) tk m' ys news', Fr h₀ L h m → News h₀ L h ((D, lst ys) :: news') → Off1 D news' → h.Ns C m' → h₀.get? C = none → h₀.get? D = none → C ≠ L → D ≠ L → C ≠ D → (∀ p ∈ news', p.1 ≠ C) → FinE h₀ L m { s₁ with heap := s₁.heap.push o } Q ys news' →
      ∃ m', h.Ns C m' ∧ ∀ h'', Heap.SameBut C h h'' → Q (.ref D) { s₁ with heap := h'', toks := tk } := by
    intro o D C h tk m' ys news' F' N' o1 hn hC₀ hD₀ hCL hDL hCD offC fin
    refine ⟨m', hn, fun h'' hs'' => fin D h'' tk (F'.change hs'' hCL hC₀) (fun p hp => ?_) o1⟩
    refine ⟨hs''.extBut _ _ ?_ (N' p hp).1, (N' p hp).2⟩
    rcases List.mem_cons.mp hp with rfl | hp
    · exact Ne.symm hCD
    · exact offC p hp
  refine KBw.pyIter_bytes ?_
  refine block_U (walks_bytes s₁.heap.objs.size (held_new F HH) b t) hsz (fun i h st => by obtain ⟨o, e, _⟩ := st.1; exact ⟨o, e⟩) (fun i h h' o nw st e1 e2 k n z => ⟨bytes_st i h h' o nw st.1 e1 e2 k n z, HH.keeps k⟩) hcell hkind hx ⟨⟨_, Heap.get?_push_size _ rfl, rfl, rfl⟩, (HH.keeps F.keep).keeps fun _ _ e => Heap.get?_push_of_some _ e⟩ (fun b hb => ?_)
    (F.keeps fun _ _ e => Heap.get?_push_of_some _ e) (N.grown fun _ _ e => Heap.get?_push_of_some _ e) (Nat.ne_of_lt F.ns.lt) (next_is_new F) (fun p hp => Nat.ne_of_lt (Heap.lt_size (N p hp).1)) trivial (R _ ⟨_, rfl⟩) (fun D C h tk m' ys news' a b c d e f g i j k l => fin _ D C h tk m' ys news' a b c d e f g i j k l)
  exact held_lt (HH.keeps F.keep) hb
end
end Mine
end
section
open PySem PySem.W PyProof.Rows PySem.Spec PySem.Calls
set_option maxRecDepth 100000
namespace Mine
section
open LCg
variable {prog : Program} {w : World} {A : Around} {E : Value → Shared → Prop} {s : Shared} {h₀ : Heap} {L : Addr} {m : Str → Option Value} {env : Env}
theorem comp_relP {elt : Expr} {x : Str} {scope : Scope} {cl : List (Str × Addr)} {Fin : List Value → List (Addr × Obj) → Prop} {news : List (Addr × Obj)} {S : List (Addr × Obj) → Prop} {P : Nat → Value → Prop} {n : Nat} (Rel : Nat → Value → Prop)
    (turn : ∀ (i : Nat) v I oI C oC D m₂ ys h tk (E' : Value → Shared → Prop), P i v → NsObj oC m₂ → m₂ x = some v → Fr h₀ L h m → News h₀ L h ((I, oI) :: (C, oC) :: (D, lst ys) :: news) → Off3 I C D news → ((@Ne Nat I C) ∧ (@Ne Nat I D) ∧ (@Ne Nat C D)) →
      wpAny (model prog w) A (eval elt (compEnvC scope cl C env)) (CompEnd h₀ L m { s with heap := h, toks := tk } I oI C oC D (lst ys) S (fun y news' => news' = news ∧ Rel i y)) E' { s with heap := h, toks := tk })
    (fin : ∀ ys : List Value, ys.length = n → (∀ i y, ys[i]? = some y → Rel i y) → Fin ys news) : CompRest prog w A h₀ L m env elt x scope cl s S P Fin n 0 [] news := by
  have key : ∀ (j i : Nat) (ys : List Value), i + j = n → ys.length = i → (∀ k y, ys[k]? = some y → Rel k y) → CompRest prog w A h₀ L m env elt x scope cl s S P Fin j i ys news := by
    intro j
    induction j with
    | zero =>
      intro i ys hi hl hr
      exact CompRest.zero (fin ys (by omega) hr)
    | succ j ih =>
      intro i ys hi hl hr
      refine CompRest.succ ?_
      intro v I oI C oC D m₂ h tk E' hv hC hx F N off ne
      refine wpAny_mono (turn i v I oI C oC D m₂ _ h tk E' hv hC hx F N off ne) (fun v s₂ hq => ?_) fun _ _ e => e
      obtain ⟨h', tk', nw, e, F', N', off', hS, hn, hy'⟩ := hq
      rw [hn] at N' off' hS
      refine ⟨h', tk', news, e, F', N', off', hS, ?_⟩
      refine ih (i + 1) _ (by omega) (by simp [hl]) fun k y hk => ?_
      by_cases hlt : k < ys.length
      · rw [List.getElem?_append_left hlt] at hk
        exact hr k y hk
      · rw [List.getElem?_append_right (by omega)] at hk
        have hk0 : k - ys.length = 0 := by
          rcases Nat.eq_zero_or_pos (k - ys.length) with h | h
          · exact h
          · rw [List.getElem?_eq_none (by simp only [List.length_singleton]; exact h)] at hk; cases hk
        rw [hk0] at hk
        have : v = y := by simpa using hk
        subst this
        have : k = i := by omega
        subst this
        exact hy'
  exact key n 0 [] (by omega) rfl (fun k y hk => by simp at hk)
end
section
variable {h₀ h : Heap} {L : Addr} {m : Str → Option Value}
theorem fr_name (F : Fr h₀ L h m) : ∃ m', m' = m ∧ Fr h₀ L h m' := ⟨_, rfl, F⟩
theorem fr_ext {m' : Str → Option Value} (F : Fr h₀ L h m) (e : ∀ y, m' y = m y) : Fr h₀ L h m' := by
  have : m' = m := funext e
  rw [this]; exact F
theorem fr_two {a b : Str} (F : Fr h₀ L h m) : Fr h₀ L h (fun y => if y = a then m a else if y = b then m b else m y) := fr_ext F fun y => by
  by_cases h1 : y = a
  · rw [if_pos h1, h1]
  · rw [if_neg h1]
    by_cases h2 : y = b
    · rw [if_pos h2, h2]
    · rw [if_neg h2]
theorem off1_mem {D : Addr} : ∀ {l : List (Addr × Obj)}, LCg.Off1 D l → ∀ p ∈ l, p.1 ≠ D
  | [], _, _, h => nomatch h
  | q :: r, h, p, hp => by
    rcases List.mem_cons.mp hp with rfl | hp
    · exact h.1
    · exact off1_mem h.2 p hp
theorem allLt_mem {d : Addr} : ∀ {l : List (Addr × Obj)}, AllLt d l → ∀ p ∈ l, @LT.lt Nat _ p.1 d
  | [], _, _, h => nomatch h
  | q :: r, h, p, hp => by
    rcases List.mem_cons.mp hp with rfl | hp
    · exact h.1
    · exact allLt_mem h.2 p hp
theorem fr_turn {a b : Str} {A B u1 u2 : Option Value} {m : Str → Option Value} (F : Fr h₀ L h (fun y => if y = a then A else if y = b then B else if y = a then u2 else if y = b then u1 else m y)) : Fr h₀ L h (fun y => if y = a then A else if y = b then B else m y) := fr_ext F fun y => by
  by_cases h1 : y = a
  · rw [if_pos h1, if_pos h1]
  · rw [if_neg h1, if_neg h1]
    by_cases h2 : y = b
    · rw [if_pos h2, if_pos h2]
    · rw [if_neg h2, if_neg h2, if_neg h1, if_neg h2]
theorem news_turn {a b i d : Addr × Obj} {R : Addr} {rv : List Value} {v : Value} {z : Nat} {made LED : List (Addr × Obj)} (N : News h₀ L h (a :: b :: i :: d :: (R, W.listOf (rv.toArray.push v) z) :: (made ++ LED))) : News h₀ L h (i :: d :: (R, W.listOf (rv ++ [v]).toArray z) :: ((a :: b :: made) ++ LED)) := by
  rw [List.push_toArray] at N
  refine fun p hp => N p ?_
  simp only [List.cons_append, List.mem_cons] at hp ⊢
  rcases hp with h | h | h | h | h | h
  · exact .inr (.inr (.inl h))
  · exact .inr (.inr (.inr (.inl h)))
  · exact .inr (.inr (.inr (.inr (.inl h))))
  · exact .inl h
  · exact .inr (.inl h)
  · exact .inr (.inr (.inr (.inr (.inr h))))
theorem iter_end {h' : Heap} {I : Addr} {oI : Obj} {LED : List (Addr × Obj)} (F : Fr h₀ L h m) (N : News h₀ L h ((I, oI) :: LED)) (off : ∀ p ∈ LED, p.1 ≠ I) (he : Heap.ExtBut I h h') : Fr h₀ L h' m ∧ News h₀ L h' LED := by
  have hI9 := N (I, oI) List.mem_cons_self
  exact ⟨⟨F.ns.at' fun o e => he _ _ (fun z => hI9.2.1 z.symm) e, fun b o e => he _ _ (fun z => by rw [z, hI9.2.2] at e; cases e) (F.keep b o e), F.above⟩,
    fun p hp => ⟨he _ _ (off p hp) (N p (List.mem_cons_of_mem _ hp)).1, (N p (List.mem_cons_of_mem _ hp)).2⟩⟩
theorem news_name {LED : List (Addr × Obj)} (N : News h₀ L h LED) : ∃ LED', LED' = LED ∧ News h₀ L h LED' := ⟨_, rfl, N⟩
theorem fr_oneT {a b : Str} {A : Option Value} (F : Fr h₀ L h m) (e : m a = A) : Fr h₀ L h (fun y => if y = a then A else if y = b then m b else m y) := fr_ext F fun y => by
  by_cases h1 : y = a
  · rw [if_pos h1, h1, e]
  · rw [if_neg h1]
    by_cases h2 : y = b
    · rw [if_pos h2, h2]
    · rw [if_neg h2]
theorem arg_name {a : Addr} {vs : List Value} {scr : List Int} (hL : h.IsList a vs.toArray) (hI : IntsAre vs scr) : ∃ a' vs', a' = a ∧ vs' = vs ∧ h.IsList a' vs'.toArray ∧ IntsAre vs' scr := ⟨_, _, rfl, rfl, hL, hI⟩
theorem bytes_new {b : Array UInt8} {t : Tok} {LED : List (Addr × Obj)} (F : Fr h₀ L h m) (N : News h₀ L h LED) :
    News h₀ L (h.push { cls := .type "bytes_iterator", data := .fields #[.bytes b t, .int 0 0] }) ((h.objs.size, { cls := .type "bytes_iterator", data := .fields #[.bytes b t, .int 0 0] }) :: LED) ∧ ∀ p ∈ LED, p.1 ≠ h.objs.size := by
  refine ⟨fun p hp => ?_, fun p hp => Nat.ne_of_lt (Heap.lt_size (N p hp).1)⟩
  rcases List.mem_cons.mp hp with rfl | hp
  · exact ⟨Heap.get?_push_size _ rfl, Ne.symm (Nat.ne_of_lt F.ns.lt), next_is_new F⟩
  · exact ⟨Heap.get?_push_of_some _ (N p hp).1, (N p hp).2⟩
theorem bytes_step {h' : Heap} {I : Addr} {b : Array UInt8} {t : Tok} {LED : List (Addr × Obj)} {oI : Obj} {i : Nat} (F : Fr h₀ L h m) (N : News h₀ L h ((I, oI) :: LED)) (off : ∀ p ∈ LED, p.1 ≠ I) (hit : KBw.IsBytesIter h' I b t i) (hs : Heap.SameBut I h h') :
    ∃ o', o'.cls = .type "bytes_iterator" ∧ o'.data = .fields #[.bytes b t, .int i 0] ∧ Fr h₀ L h' m ∧ News h₀ L h' ((I, o') :: LED) := by
  obtain ⟨o', h1, h2, h3⟩ := hit
  have hI := N (I, oI) List.mem_cons_self
  refine ⟨o', h2, h3, F.change hs hI.2.1 hI.2.2, fun p hp => ?_⟩
  rcases List.mem_cons.mp hp with rfl | hp
  · exact ⟨h1, hI.2⟩
  · exact ⟨(hs.2 _ (off p hp)).trans (N p (List.mem_cons_of_mem _ hp)).1, (N p (List.mem_cons_of_mem _ hp)).2⟩
theorem bytes_at {I : Addr} {b : Array UInt8} {t : Tok} {LED : List (Addr × Obj)} {oI : Obj} {i : Nat} (N : News h₀ L h ((I, oI) :: LED)) (h1 : oI.cls = .type "bytes_iterator") (h2 : oI.data = .fields #[.bytes b t, .int i 0]) : KBw.IsBytesIter h I b t i :=
  ⟨oI, (N (I, oI) List.mem_cons_self).1, h1, h2⟩
theorem fr_one {a : Str} (F : Fr h₀ L h m) : Fr h₀ L h (fun y => if y = a then m a else m y) := fr_ext F fun y => by
  by_cases h1 : y = a
  · rw [if_pos h1, h1]
  · rw [if_neg h1]
theorem fr_turn1 {a : Str} {A u1 : Option Value} {m : Str → Option Value} (F : Fr h₀ L h (fun y => if y = a then A else if y = a then u1 else m y)) : Fr h₀ L h (fun y => if y = a then A else m y) := fr_ext F fun y => by
  by_cases h1 : y = a
  · rw [if_pos h1, if_pos h1]
  · rw [if_neg h1, if_neg h1, if_neg h1]
theorem head_name {a : Addr} {o : Obj} {LED : List (Addr × Obj)} (N : News h₀ L h ((a, o) :: LED)) : ∃ a', a' = a ∧ News h₀ L h ((a', o) :: LED) := ⟨_, rfl, N⟩
theorem unr_tail {I : Addr} {it : Obj} {rest : (Str → Option Value) → List (Addr × Obj) → Prop} {s₁ : Shared} {h' : Heap} {tk : Nat} {m' : Str → Option Value} {news' : List (Addr × Obj)} (F : Fr h₀ L h' m') (N : News h₀ L h' ((I, it) :: news')) (off : AllLt I news') (r : rest m' news') :
    UnrEnd h₀ L s₁ I it rest { s₁ with heap := h', toks := tk } := UnrEnd.intro F N news' (fun _ hp => hp) (fun p hp => Nat.ne_of_lt (allLt_mem off p hp)) r
theorem fr_k5 {a b : Str} {A1 A2 A3 A4 A5 B u1 u2 : Option Value} {m : Str → Option Value} (F : Fr h₀ L h (fun y => if y = a then A1 else if y = a then A2 else if y = a then A3 else if y = a then A4 else if y = a then A5 else if y = b then B else if y = a then u2 else if y = b then u1 else m y)) :
    Fr h₀ L h (fun y => if y = a then A1 else if y = b then B else m y) := fr_ext F fun y => by
  by_cases h1 : y = a
  · simp only [if_pos h1]
  · by_cases h2 : y = b
    · simp only [if_neg h1, if_pos h2]
    · simp only [if_neg h1, if_neg h2]
theorem led4 {D l T R : Addr} {o1 o2 o3 o4 : Obj} {LED : List (Addr × Obj)} (N : News h₀ L h ((D, o1) :: (l, o2) :: (T, o3) :: (R, o4) :: LED)) :
    ∃ D' R' LED', D' = D ∧ R' = R ∧ LED' = LED ∧ News h₀ L h ((D', o1) :: (R', o4) :: LED') :=
  ⟨_, _, _, rfl, rfl, rfl, fun p hp => N p (by
    rcases List.mem_cons.mp hp with rfl | hp
    · exact .head _
    · exact .tail _ (.tail _ (.tail _ hp)))⟩
end
end Mine
end
section
open PySem PySem.W PyProof.Rows
set_option maxRecDepth 100000
namespace Mine
def digits : Nat → Int → Int → List Int
  | 0, _, _ => []
  | k + 1, n, b => n.fmod b :: digits k (n.fdiv b) b
theorem told_join (b : Int) (fin : Str) : ∀ (k : Nat) (n : Int), told k n b fin = Txt.join (Str.ofString ".") ((digits k n b).map (label b) ++ [fin]) := by
  have g : ∀ l, Txt.join (Str.ofString ".") l = Str.join (Str.ofString ".") l := fun l => StrLaws.glued_eq_join _ _
  intro k
  induction k with
  | zero => intro n; rw [g]; rfl
  | succ k ih =>
    intro n
    have e : told (k + 1) n b fin = label b (n.fmod b) ++ Str.ofString "." ++ told k (n.fdiv b) b fin := rfl
    rw [e, ih, g, g]
    show _ = Str.join _ (label b (n.fmod b) :: ((digits k (n.fdiv b) b).map (label b) ++ [fin]))
    cases hd : (digits k (n.fdiv b) b).map (label b) ++ [fin] with
    | nil => simp at hd
    | cons y r => rfl
theorem digits_len (b : Int) : ∀ (k : Nat) (n : Int), (digits k n b).length = k
  | 0, _ => rfl
  | k + 1, n => by simp [digits, digits_len b k]
theorem digits_256 : ∀ (k : Nat) (n : Int), digits k n 256 = KTBy.little k n
  | 0, _ => rfl
  | k + 1, n => by
    show n.fmod 256 :: _ = n % 256 :: _
    rw [digits_256 k, Int.fmod_eq_emod_of_nonneg _ (by decide), Int.fdiv_eq_ediv_of_nonneg _ (by decide)]
theorem digits_16 : ∀ (k : Nat) (n : Int), digits (2 * k) n 16 = (KTBy.little k n).flatMap fun x => [x.fmod 16, x.fdiv 16]
  | 0, _ => rfl
  | k + 1, n => by
    show n.fmod 16 :: (n.fdiv 16).fmod 16 :: digits (2 * k) ((n.fdiv 16).fdiv 16) 16 = _
    show _ = [(n % 256).fmod 16, (n % 256).fdiv 16] ++ _
    rw [digits_16 k]
    have e1 : ∀ a : Int, a.fmod 16 = a % 16 := fun a => Int.fmod_eq_emod_of_nonneg _ (by decide)
    have e2 : ∀ a : Int, a.fdiv 16 = a / 16 := fun a => Int.fdiv_eq_ediv_of_nonneg _ (by decide)
    have e3 : ((n.fdiv 16).fdiv 16) = n / 256 := by rw [e2, e2]; omega
    rw [e3]
    simp only [e1, e2, List.cons_append, List.nil_append, List.cons.injEq]
    refine ⟨by omega, by omega, rfl⟩
abbrev tupObj (vs : Array Value) : Obj := { cls := .type "tuple", data := .seq vs }
def Row (made : List (Addr × Obj)) (v : Value) : Prop :=
  ∃ (a l : Addr) (n b : Int) (k : Nat) (fin : Str) (ps : List (Str × Tok)) (t1 t2 t3 t4 t5 : Tok) (z : Nat), v = .ref a ∧ (a, tupObj #[.int n t1, .int b t2, .int (k : Int) t3, .str fin t4, .int 0 t5, .ref l]) ∈ made ∧
    (l, W.listOf (strValues ps).toArray z) ∈ made ∧ (b = 256 ∨ b = 16) ∧ k ≤ 32 ∧ fin.length ≤ 100 ∧ ps.length = k ∧ (∀ p ∈ ps, p.1.length ≤ 3) ∧
    told k n b fin = Txt.join (Str.ofString ".") ((ps.map (·.1)).reverse ++ [fin])
theorem Row.more {made made' : List (Addr × Obj)} {v : Value} (h : ∀ p ∈ made, p ∈ made') (r : Row made v) : Row made' v := by
  obtain ⟨a, l, n, b, k, fin, ps, t1, t2, t3, t4, t5, z, h1, h2, h3, hr⟩ := r
  exact ⟨a, l, n, b, k, fin, ps, t1, t2, t3, t4, t5, z, h1, h _ h2, h _ h3, hr⟩
def RowsOk (made : List (Addr × Obj)) (rv : List Value) : Prop := ∀ v ∈ rv, Row made v
theorem row4 {made : List (Addr × Obj)} {a l : Addr} {n : Int} {bs : Array UInt8} {ys : List Value} {t1 t2 t3 t4 t5 : Tok} {z : Nat} (hbs : KBw.bInts bs = (KTBy.little 4 n).reverse) (hlen : ys.length = bs.size)
    (hrel : ∀ (i : Nat) (y : Value), ys[i]? = some y → ∃ (n : UInt8) (u : Tok), bs[i]? = some n ∧ y = Value.str (Str.ofString (toString ((n.toNat : Nat) : Int))) u)
    (h1 : (a, tupObj #[.int n t1, .int 256 t2, .int 4 t3, .str (Str.ofString "in-addr.arpa") t4, .int 0 t5, .ref l]) ∈ made) (h2 : (l, W.listOf ys.toArray z) ∈ made) : Row made (.ref a) := by
  obtain ⟨ps, rfl, hps⟩ := strs_of ys (fun i x => ∃ (n : UInt8), bs[i]? = some n ∧ x = Str.ofString (toString ((n.toNat : Nat) : Int))) fun i y hy => by
    obtain ⟨n, u, h1, h2⟩ := hrel i y hy
    exact ⟨_, u, h2, n, h1, rfl⟩
  have hl : ps.length = bs.size := by rw [← hlen]; exact (List.length_map ..).symm
  have hb4 : bs.size = 4 := by rw [← KBw.ints_length, hbs, List.length_reverse, KTBy.little_length]
  have key : ps.map (·.1) = (KBw.bInts bs).map (fun x => Str.ofString (toString x)) := by
    refine List.ext_getElem? fun i => ?_
    rw [List.getElem?_map, List.getElem?_map]
    cases hp : ps[i]? with
    | none =>
      have : (KBw.bInts bs)[i]? = none := by
        rw [List.getElem?_eq_none_iff] at hp ⊢
        rw [KBw.ints_length]; omega
      rw [this]; rfl
    | some p =>
      obtain ⟨n, h1, h2⟩ := hps i p hp
      rw [KBw.ints_get h1, Option.map_some, Option.map_some, h2]
  refine ⟨a, l, n, 256, 4, _, ps, t1, t2, t3, t4, t5, z, rfl, h1, h2, .inl rfl, by decide, by decide +kernel, by omega, fun p hp => ?_, ?_⟩
  · obtain ⟨i, hi, rfl⟩ := List.getElem_of_mem hp
    obtain ⟨n, _, h2⟩ := hps i _ (List.getElem?_eq_getElem hi)
    rw [h2]
    exact dec_len (by omega) (by have := n.toNat_lt; omega)
  · rw [told_join, key, digits_256, hbs, List.map_reverse, List.reverse_reverse]
    rfl
theorem row16 {made : List (Addr × Obj)} {a l : Addr} {n : Int} {bs : Array UInt8} {ps : List (Str × Tok)} {t1 t2 t3 t4 t5 : Tok} {z : Nat} (hbs : KBw.bInts bs = (KTBy.little 16 n).reverse)
    (hps : ps.map (·.1) = ((KBw.bInts bs).take bs.size).flatMap (fun x => [label 16 (x.fdiv 16), label 16 (x.fmod 16)]))
    (h1 : (a, tupObj #[.int n t1, .int 16 t2, .int 32 t3, .str (Str.ofString "ip6.arpa") t4, .int 0 t5, .ref l]) ∈ made) (h2 : (l, W.listOf (strValues ps).toArray z) ∈ made) : Row made (.ref a) := by
  rw [← KBw.ints_length, List.take_length] at hps
  have e : (ps.map (·.1)).reverse = (digits 32 n 16).map (label 16) := by
    rw [hps, hbs, show (32 : Nat) = 2 * 16 from rfl, digits_16, List.reverse_flatMap, List.reverse_reverse, List.map_flatMap]
    rfl
  have hl : ps.length = 32 := by
    have := congrArg List.length e
    simpa [digits_len] using this
  refine ⟨a, l, n, 16, 32, _, ps, t1, t2, t3, t4, t5, z, rfl, h1, h2, .inr rfl, by decide, by decide +kernel, hl, fun p hp => ?_, ?_⟩
  · have hm : p.1 ∈ ps.map (·.1) := List.mem_map_of_mem hp
    rw [hps, List.mem_flatMap] at hm
    obtain ⟨x, hx, hm⟩ := hm
    have hb := KBw.ints_in hx
    have e1 : x.fmod 16 = x % 16 := Int.fmod_eq_emod_of_nonneg _ (by decide)
    have e2 : x.fdiv 16 = x / 16 := Int.fdiv_eq_ediv_of_nonneg _ (by decide)
    have lb : ∀ y : Int, label 16 y = Txt.item (Str.ofString "0123456789abcdef") y := fun y => if_neg (by decide)
    simp only [List.mem_cons, List.not_mem_nil, or_false] at hm
    rcases hm with hm | hm
    · rw [hm, lb]; exact hex_len (by omega) (by omega)
    · rw [hm, lb]; exact hex_len (by omega) (by omega)
  · rw [told_join, e]
section
variable {h₀ h : Heap} {L : Addr}
theorem to_core {p1 p2 p3 p4 f c S x d c2 c1 : Addr × Obj} {rest : List (Addr × Obj)} (N : News h₀ L h (p1 :: p2 :: p3 :: p4 :: f :: c :: S :: x :: d :: c2 :: c1 :: rest)) : News h₀ L h ([f, c, S, x, d, c2, c1] ++ (p1 :: p2 :: p3 :: p4 :: rest)) :=
  fun p hp => N p (by simp only [List.cons_append, List.nil_append, List.mem_cons] at hp ⊢; grind)
theorem of_core {p1 p2 p3 p4 f c S x d c2 c1 : Addr × Obj} {rest : List (Addr × Obj)} (N : News h₀ L h ([f, c, S, x, d, c2, c1] ++ (p1 :: p2 :: p3 :: p4 :: rest))) : News h₀ L h (p1 :: p2 :: p3 :: p4 :: f :: c :: S :: x :: d :: c2 :: c1 :: rest) :=
  fun p hp => N p (by simp only [List.cons_append, List.nil_append, List.mem_cons] at hp ⊢; grind)
theorem loop4_led {T Lb D R f c' T2 S x d c2 c1 tb : Addr × Obj} {made : List (Addr × Obj)} (N : News h₀ L h (T :: Lb :: D :: R :: (made ++ [f, c', T2, S, x, d, c2, c1, tb]))) :
    News h₀ L h (R :: f :: c' :: S :: x :: d :: c2 :: c1 :: tb :: (T :: Lb :: made)) :=
  fun p hp => N p (by simp only [List.mem_append, List.mem_cons] at hp ⊢; grind)
theorem add_texts {prog : Program} {w : World} {A : Around} {E : Value → Shared → Prop} {s : Shared} {m : Str → Option Value} {news : List (Addr × Obj)} {a b : Addr} {ps : List (Str × Tok)} {y : Str} {t : Tok} {z z2 : Nat} {Q : Value → Shared → Prop}
    (F : Fr h₀ L s.heap m) (N : News h₀ L s.heap news) (ha : (a, W.listOf (strValues ps).toArray z) ∈ news) (hb : (b, W.listOf #[.str y t] z2) ∈ news) (hz : ps.length ≤ 1000)
    (hQ : ∀ D h', Fr h₀ L h' m → News h₀ L h' ((D, W.listOf (strValues (ps ++ [(y, t)])).toArray 0) :: news) → Q (.ref D) { s with heap := h' }) : wpAny (model prog w) A (binaryOp .Add (.ref a) (.ref b)) Q E s :=
  kmk_add_lit (zs := strValues (ps ++ [(y, t)])) F N (News.isList N ha) (News.isList N hb) (by simp [strValues]) (fun D h' F' N' _ => hQ D h' F' N') (by
    have e : (strValues ps).length = ps.length := List.length_map ..
    rw [List.toList_toArray, e, sizeLine_eq]
    show ps.length + 1 ≤ _
    omega)
theorem join_row {prog : Program} {w : World} {A : Around} {E : Value → Shared → Prop} {s : Shared} {news : List (Addr × Obj)} {D : Addr} {ps : List (Str × Tok)} {fin x : Str} {t t0 : Tok} {z : Nat} {Q : Value → Shared → Prop}
    (N : News h₀ L s.heap news) (ha : (D, W.listOf (strValues (ps.reverse ++ [(fin, t)])).toArray z) ∈ news) (hx : x = Txt.join (Str.ofString ".") ((ps.map (·.1)).reverse ++ [fin])) (hz : ps.length ≤ 32) (h3 : ∀ p ∈ ps, p.1.length ≤ 3) (hf : fin.length ≤ 100)
    (hQ : ∀ t' n, Q (.str x t') { s with toks := n }) : wpAny (model prog w) A (call (.builtin "str.join") [.str (Str.ofString ".") t0, .ref D]) Q E s := by
  subst hx
  have e : (ps.reverse ++ [(fin, t)]).map (·.1) = (ps.map (·.1)).reverse ++ [fin] := by simp
  refine SC.join (News.isList N ha) e (joinOk_of_weight ?_ (by decide +kernel)) hQ
  have key : ∀ l : List (Str × Tok), (∀ p ∈ l, p.1.length ≤ 3) → ((l.map (·.1)).map (·.length)).sum ≤ 3 * l.length := by
    intro l
    induction l with
    | nil => intro _; simp
    | cons p l ih =>
      intro h
      have h1 := h p (.head _)
      have h2 := ih fun q hq => h q (.tail _ hq)
      simp only [List.map_cons, List.sum_cons, List.length_cons]
      omega
  have k := key ps h3
  simp only [List.map_append, List.map_reverse, List.sum_append, List.sum_reverse, List.map_cons, List.map_nil, List.sum_cons, List.sum_nil, List.length_append, List.length_reverse, List.length_map, List.length_cons, List.length_nil]
  omega
theorem ne_same {prog : Program} {w : World} {A : Around} {E : Value → Shared → Prop} {s : Shared} {x : Str} {t u : Tok} {Q : Value → Shared → Prop} (h : Q (.bool false) s) : wpAny (model prog w) A (compareOp .NotEq (.str x t) (.str x u)) Q E s :=
  ne_str (by rw [bne_self_eq_false]; exact h)
theorem pack_rows {T Lb R f c' S x d c2 c1 tb : Addr × Obj} {made : List (Addr × Obj)} {v : Value} {rv : List Value} (N : News h₀ L h (R :: f :: c' :: S :: x :: d :: c2 :: c1 :: tb :: (T :: Lb :: made))) (hrow : Row (T :: Lb :: made) v) (hok : RowsOk made rv)
    (h1 : T.1 ≠ S.1) (h2 : Lb.1 ≠ S.1) (h3 : ∀ p ∈ made, p.1 ≠ S.1) : ∃ made', News h₀ L h (R :: f :: c' :: S :: x :: d :: c2 :: c1 :: tb :: made') ∧ RowsOk made' (rv ++ [v]) ∧ ∀ p ∈ made', p.1 ≠ S.1 := by
  refine ⟨_, N, fun u hu => ?_, fun p hp => ?_⟩
  · rcases List.mem_append.mp hu with hu | hu
    · exact (hok u hu).more fun p hp => .tail _ (.tail _ hp)
    · rw [List.mem_singleton.mp hu]; exact hrow
  · rcases List.mem_cons.mp hp with rfl | hp
    · exact h1
    · rcases List.mem_cons.mp hp with rfl | hp
      · exact h2
      · exact h3 p hp
end
end Mine
end
section
open PySem PySem.W PyProof.Rows
local macro_rules | `(tactic| walk_at "mine pad") => `(tactic| skip)
local macro_rules | `(tactic| walk_at "mine pad") => `(tactic| skip)
local macro_rules | `(tactic| walk_at "mine pad") => `(tactic| skip)
local macro_rules | `(tactic| walk_at "mine pad") => `(tactic| skip)
local macro_rules | `(tactic| walk_at "mine pad") => `(tactic| skip)
local macro_rules | `(tactic| walk_at "mine pad") => `(tactic| skip)
local macro_rules | `(tactic| walk_at "mine pad") => `(tactic| skip)
local macro_rules | `(tactic| walk_at "mine pad") => `(tactic| skip)
local macro_rules | `(tactic| walk_at "mine pad") => `(tactic| skip)
local macro_rules | `(tactic| walk_at "mine pad") => `(tactic| skip)
local macro_rules | `(tactic| walk_at "mine pad") => `(tactic| skip)
local macro_rules | `(tactic| walk_at "mine pad") => `(tactic| skip)
local macro_rules | `(tactic| walk_at "mine pad") => `(tactic| skip)
local macro_rules | `(tactic| walk_at "mine pad") => `(tactic| skip)
local macro_rules | `(tactic| walk_at "mine pad") => `(tactic| skip)
local macro_rules | `(tactic| walk_at "mine pad") => `(tactic| skip)
local macro_rules | `(tactic| walk_at "mine pad") => `(tactic| skip)
local macro_rules | `(tactic| walk_at "mine pad") => `(tactic| skip)
local macro_rules | `(tactic| walk_at "mine pad") => `(tactic| skip)
local macro_rules | `(tactic| walk_at "mine pad") => `(tactic| skip)
local macro_rules | `(tactic| walk_at "mine pad") => `(tactic| skip)
local macro_rules | `(tactic| walk_at "mine pad") => `(tactic| skip)
local macro_rules | `(tactic| walk_at "mine pad") => `(tactic| skip)
local macro_rules | `(tactic| walk_at "mine pad") => `(tactic| skip)
local macro_rules | `(tactic| walk_at "mine pad") => `(tactic| skip)
local macro_rules | `(tactic| walk_at "mine pad") => `(tactic| skip)
local macro_rules | `(tactic| walk_at "mine pad") => `(tactic| skip)
local macro_rules | `(tactic| walk_at "mine pad") => `(tactic| skip)
local macro_rules | `(tactic| walk_at "mine pad") => `(tactic| skip)
local macro_rules | `(tactic| walk_at "mine pad") => `(tactic| skip)
local macro_rules | `(tactic| walk_at "mine pad") => `(tactic| skip)
local macro_rules | `(tactic| walk_at "mine pad") => `(tactic| skip)
local macro_rules | `(tactic| walk_at "mine pad") => `(tactic| skip)
local macro_rules | `(tactic| walk_at "mine pad") => `(tactic| skip)
local macro_rules | `(tactic| walk_at "mine pad") => `(tactic| skip)
local macro_rules | `(tactic| walk_at "mine pad") => `(tactic| skip)
local macro_rules | `(tactic| walk_at "mine pad") => `(tactic| skip)
local macro_rules | `(tactic| walk_at "mine pad") => `(tactic| skip)
local macro_rules | `(tactic| walk_at "mine pad") => `(tactic| skip)
local macro_rules | `(tactic| walk_at "mine pad") => `(tactic| skip)
local macro_rules | `(tactic| walk_at "mine pad") => `(tactic| skip)
local macro_rules | `(tactic| walk_at "mine pad") => `(tactic| skip)
local macro_rules | `(tactic| walk_at "mine pad") => `(tactic| skip)
local macro_rules | `(tactic| walk_at "mine pad") => `(tactic| skip)
local macro_rules | `(tactic| walk_at "mine pad") => `(tactic| skip)
local macro_rules | `(tactic| k_all) => `(tactic| assumption)
local macro_rules | `(tactic| k_room) => `(tactic| ktr_room)
local macro_rules | `(tactic| ke_room) => `(tactic| ktr_units)
local macro_rules | `(tactic| k_units) => `(tactic| ktr_units)
local macro_rules | `(tactic| walk_at "eval ListComp") => `(tactic| (refine Mine.stop_here ?_))
local macro_rules | `(tactic| walk_at "pyIter ref") => `(tactic| ((with_reducible show wpAny _ _ (pyIter _) (fun it s₂ => PySem.codeAny _ _ _ _ _) _ _); refine Mine.stop_here ?_))
local macro_rules | `(tactic| walk_at "exec For Name BinOp cons nil") => `(tactic| (refine Mine.stop_here ?_))
local macro_rules | `(tactic| walk_at "exec For Name Name cons nil") => `(tactic| (refine Mine.stop_here ?_))
local macro_rules | `(tactic| walk_at "exec For Name Call cons nil") => `(tactic| ((with_reducible show wpAny _ _ (PySem.exec (.For (.Name (PySem.Str.ofString "octet") _) _ _ _ _) _) _ _ _); refine Mine.stop_here ?_))
local macro_rules | `(tactic| walk_at "call builtin:list.append") => `(tactic| (refine Mine.stop_here ?_))
local macro_rules | `(tactic| walk_at "call ref") => `(tactic| ((with_reducible show wpAny _ _ (call (Value.ref 28) _) _ _ _); refine Mine.stop_here ?_))
local macro_rules | `(tactic| walk_at "call ref") => `(tactic| ((with_reducible show wpAny _ _ (call (Value.ref 35) _) _ _ _); refine Mine.stop_here ?_))
local macro_rules | `(tactic| walk_at "pyIter bytes") => `(tactic| (refine Mine.stop_here ?_))
local macro_rules | `(tactic| walk_at "call builtin:list.extend") => `(tactic| (refine Mine.stop_here ?_))
local macro_rules | `(tactic| walk_at "getAttr ref") => `(tactic| ((with_reducible show wpAny _ _ (getAttr (Value.ref _) (PySem.Str.ofString "reverse_pointer") _) _ _ _); refine Mine.stop_here ?_))
local macro_rules | `(tactic| walk_at "UnrEnd") => `(tactic| (refine Mine.unr_tail (by assumption) (by assumption) (by first | assumption | (simp only [AllLt]; assumption)) ?_))
local macro_rules | `(tactic| walk_at "subscriptTail") => `(tactic| ((with_reducible show wpAny _ _ (subscriptTail _ (PySem.Expr.Slice none none (some _) _) (Value.ref _) (Value.ref _)) _ _ _); refine Mine.stop_here ?_))
local macro_rules | `(tactic| walk_at "subscriptTail Subscript Slice ref ref") => `(tactic| ((with_reducible show wpAny _ _ (subscriptTail _ (PySem.Expr.Slice none none (some _) _) (Value.ref _) (Value.ref _)) _ _ _); refine Mine.stop_here ?_))
local macro_rules | `(tactic| walk_at "binaryOp Add ref ref") => `(tactic| (k_here; k_dflt (refine' Mine.add_texts ?F ?N ?a ?b ?z ?_; (case F => k_asm); (case N => k_asm); (case a => k_mem); (case b => k_mem); (case z => (rw [List.length_reverse]; omega))); intro D' h' F' N'))
local macro_rules | `(tactic| walk_at "call builtin:str.join") => `(tactic| (k_here; k_dflt (refine' Mine.join_row ?N ?a ?x ?z ?h ?f ?_; (case N => k_asm); (case a => k_mem); (case x => assumption); (case z => omega); (case h => assumption); (case f => assumption)); intro t' n'))
local macro_rules | `(tactic| walk_at "compareOp NotEq str str") => `(tactic| (k_here; refine' Mine.ne_same ?_))
local macro_rules | `(tactic| walk_at "compareOp NotEq str") => `(tactic| (k_here; refine' Mine.ne_same ?_))
local macro_rules | `(tactic| walk_at "WPost") => `(tactic| (refine Mine.stop_here ?_))
namespace Mine
set_option maxRecDepth 100000 in
set_option maxHeartbeats 8000000 in
set_option pp.deepTerms false in
set_option pp.deepTerms.threshold 8 in
theorem fin04 : PySem.Challenge.rw_km0038_04.Holds := hd (by
  w_on
  w_strict (k_go0; (all_goals try k_fold); k_steps)
  unfold Stop
  refine wpAny_For ?_
  w_strict k_steps
  unfold Stop
  rename Fr _ _ _ _ => F1
  rename News _ _ _ _ => N1
  rename List Int => scr
  rename IntsAre _ (_ ++ _) => hI1
  rename List Value => ws
  rename IntsAre _ scr => hI0a
  rename Heap.IsList (ghostOf _ _) _ _ => hLs0
  obtain ⟨sa, vs, hsa, hvs, hLs, hI0⟩ := arg_name hLs0 hI0a
  clear hLs0 hI0a
  subst hsa
  subst hvs
  rename PySem.Shared => s1
  obtain ⟨m₀, hm₀, F1b⟩ := fr_name F1
  obtain ⟨D, R, LED, hD, hR, hLED, N1b⟩ := led4 N1
  clear F1 N1
  subst hD
  subst hR
  rename PySem.World => w
  obtain ⟨f, c', T2, S, x, d, qual, pm, ct, oc', oT2, o2, o1, tk0, v0, v1, v2, v3, v4, vs', tq, tv, hE, e2, e1, d1, d2, hord⟩ : ∃ (f c' T2 S x d : Addr) (qual : Str) (pm ct : Value) (oc' oT2 o2 o1 : Obj) (tk0 : Tok) (v0 v1 v2 v3 v4 : Value) (vs' : Array Value) (tq : Tok) (tv : Array Value),
      LED = [(f, lamObj qual (s1.heap.objs.size + 1) (s1.heap.objs.size + 1 + 1) c' pm ct), (c', oc'), (T2, oT2), (S, W.listOf #[v0, v1, v2, v3, v4] 0), (x, instObj 563 d),
        (d, dictOf [{ hash := PyData.keyHash w.params (Str.ofString "_reverse_pointer"), key := Value.str (Str.ofString "_reverse_pointer") tk0, val := Value.ref f }] 1), (s1.heap.objs.size + 1 + 1, o2), (s1.heap.objs.size + 1, o1), (594, tabObj tv)] ∧
      o2.data = .cell (some (.ref x)) ∧ o1.data = .cell (some (.ref S)) ∧ oc'.data = .fields vs' ∧ vs'[1]? = some (.str qual tq) ∧
      @LT.lt Nat _ (s1.heap.objs.size + 1) (s1.heap.objs.size + 1 + 1) ∧ @LT.lt Nat _ (s1.heap.objs.size + 1 + 1) d ∧ @LT.lt Nat _ d x ∧ @LT.lt Nat _ x S ∧ @LT.lt Nat _ S c' ∧ @LT.lt Nat _ c' f ∧ @LT.lt Nat _ 594 S ∧ @LT.lt Nat _ f R :=
    ⟨_, _, _, _, _, _, _, _, _, _, _, _, _, _, _, _, _, _, _, _, _, _, hLED, by assumption, by assumption, by assumption, by assumption, by omega, by omega, by omega, by omega, by omega, by omega, by omega, by omega⟩
  have hoff : ∀ p ∈ LED, p.1 ≠ R := by
    subst hLED
    intro p hp
    simp only [List.mem_cons, List.not_mem_nil, or_false] at hp
    rcases hp with rfl | rfl | rfl | rfl | rfl | rfl | rfl | rfl | rfl <;> exact Nat.ne_of_lt (by dsimp only; omega)
  have hall : ∀ p ∈ LED, p.1 ≠ R := hoff
  have hRD : @LT.lt Nat _ R D := by omega
  have hwl : ws.length ≤ 64 := by
    have := hI1.length
    rw [List.length_append, List.length_singleton] at this
    omega
  have hL1 := News.isList N1b (.head _)
  refine wpAny_pyIter_list hL1 ?_
  (try dsimp only)
  obtain ⟨N2, off2⟩ := iter_new (l := D) F1b N1b
  have F2 := F1b.push { cls := .type "list_iterator", data := .fields #[.ref D, .int 0 0] }
  rename PySem.Heap => hh
  generalize hI9 : hh.objs.size = I at N2 off2
  refine for_ind ?hE (fun n s' => ∃ (i : Nat) (h : Heap) (tk : Nat) (u1 u2 : Option Value) (oI : Obj) (rv : List Value) (made : List (Addr × Obj)) (z : Nat), n + i = ws.length ∧ s' = { s1 with heap := h, toks := tk } ∧
      Fr (ghostOf s1.heap [(596, 594)]) s1.heap.objs.size h (fun y => if y = Str.ofString "number" then u2 else if y = Str.ofString "x" then u1 else m₀ y) ∧
      News (ghostOf s1.heap [(596, 594)]) s1.heap.objs.size h ((I, oI) :: (D, W.listOf ws.toArray 0) :: (R, W.listOf rv.toArray z) :: (made ++ LED)) ∧ oI.cls = .type "list_iterator" ∧ oI.data = .fields #[.ref D, .int i 0] ∧
      (∀ p ∈ made, p.1 ≠ I ∧ p.1 ≠ R ∧ ∀ q ∈ LED, p.1 ≠ q.1) ∧ rv.length = i ∧ RowsOk made rv) ?turn ws.length ?start
  case hE => first | passes_own | with_unfolding_all passes_own
  case start => exact ⟨0, _, _, _, _, _, [], [], 0, rfl, rfl, fr_two F2, N2, rfl, rfl, fun p hp => absurd hp (by simp), rfl, fun v hv => absurd hv (by simp)⟩
  case turn =>
    intro n s' hIs
    obtain ⟨i, h, tk, u1, u2, oI, rv, made, zr, hni, rfl, hF, hN, ho1, ho2, hmd, hrl, hok⟩ := hIs
    have hLi : h.IsList D ws.toArray := News.isList hN (.tail _ (.head _))
    by_cases hi : i < ws.length
    · refine wpAny_pyNext_list_item (iter_at hN ho1 ho2) hLi (x := ws[i]) (by simp [hi]) fun h' hit' hs' => ?_
      have off3 : ∀ p ∈ (D, W.listOf ws.toArray 0) :: (R, W.listOf rv.toArray zr) :: (made ++ LED), p.1 ≠ I := by
        intro p hp
        simp only [List.mem_cons, List.mem_append] at hp
        rcases hp with rfl | rfl | hp | hp
        · exact off2 (D, W.listOf ws.toArray 0) (.head _)
        · exact off2 (R, W.listOf #[] 0) (.tail _ (.head _))
        · exact (hmd p hp).1
        · exact off2 p (.tail _ (.tail _ hp))
      obtain ⟨o', ho1', ho2', hF', hN'⟩ := iter_step hF hN off3 hit' hs'
      obtain ⟨k9, t9, hk9, e9⟩ := ints_at hI1 (List.getElem?_eq_getElem hi)
      rw [e9]
      dsimp only [ForTurn]
      refine wpAny_assign_Name ?_
      clear hF hN N1b F1b N2 F2
      subst hm₀
      w_strict k_steps
      unfold Stop
      rename Fr _ _ _ _ => F3
      rename News _ _ _ _ => N3
      have hn0 : 0 ≤ k9.fmod (2 ^ Int.toNat 32) := Int.fmod_nonneg_of_pos _ (by decide)
      have hn1 : k9.fmod (2 ^ Int.toNat 32) < 4294967296 := Int.fmod_lt_of_pos _ (by decide)
      rename Below _ _ _ _ => B3
      rename PySem.W.Frag.In _ _ => X3
      rename Top _ _ _ _ _ (ghostOf _ _) => T3
      refine listcomp_bytesH F3 (heldOk_none _) (by with_unfolding_all rfl) (by decide) (by rfl) (by decide) (by rfl) ?_
      w_strict k_steps
      unfold Stop
      refine pack4_spec _ (outer := []) B3 F3 X3 N3 T3 (by rfl) (by rfl) hn0 hn1 ?dp ?un ?rS
      (case dp => ktr_room)
      (case un => ktr_units)
      intro h4 tk4 bs tb F4 N4 hbs
      clear F3 N3
      dsimp only
      have hbz : bs.size = 4 := by rw [← KBw.ints_length, hbs, List.length_reverse, KTBy.little_length]
      refine ⟨bs, tb, _, rfl, F4, N4, by rw [hbz, sizeLine_eq]; decide, fun s₂ ⟨g9, e9⟩ => ?_⟩
      subst e9
      refine comp_relP (fun i y => ∃ (n : UInt8) (u : Tok), bs[i]? = some n ∧ y = .str (Str.ofString (toString ((n.toNat : Nat) : Int))) u) ?_ ?_
      · intro i v I oI C oC D m₂ ys h tk E' hv hC hmx F5 N5 off ne
        obtain ⟨n5, u5, hn5, rfl⟩ := hv
        have hn5a : (0 : Int) ≤ (n5.toNat : Int) := by omega
        have hn5b : (n5.toNat : Int) < 256 := by have := n5.toNat_lt; omega
        w_strict k_steps
        exact LCg.CompEnd.intro F5 N5 _ (fun p hp => hp) off trivial ⟨rfl, _, _, hn5, rfl⟩
      · intro ys hlen hrel D3 h5 tk5 F5 N5 o5
        (try dsimp only)
        clear F4 N4
        w_strict k_steps
        unfold Stop
        rename Fr _ _ _ _ => F6
        rename News _ _ _ _ => N6
        rename @LT.lt Nat _ D3 _ ∧ _ => l6
        rename Addr => T6
        have o5' := o5
        simp only [LCg.Off1] at o5'
        have off5 : ∀ p ∈ made ++ LED, p.1 ≠ D3 := fun p hp => off1_mem o5'.2.2.2 p hp
        have off6 : ∀ p ∈ made ++ LED, p.1 ≠ T6 := fun p hp => Nat.ne_of_lt (allLt_mem l6.2.2.2.2 p hp)
        have hmR : ∀ p ∈ made ++ LED, p.1 ≠ R := fun p hp => by
          rcases List.mem_append.mp hp with hp | hp
          · exact (hmd p hp).2.1
          · exact hall p hp
        have hIR : I ≠ R := fun e => off3 (R, W.listOf rv.toArray zr) (.tail _ (.head _)) e.symm
        have hDR : D ≠ R := Nat.ne_of_gt hRD
        refine append_K F6 N6 (.tail (Nat.ne_of_gt l6.2.2.2.1) (.tail (Ne.symm o5'.2.2.1) (.tail hIR (.tail hDR (.head hmR))))) (fun h7 F7 N7 => ?_) (by rw [List.size_toArray, hrl, sizeLine_eq]; omega)
        w_strict k_steps
        unfold Stop
        dsimp only [WPost]
        refine ⟨n - 1, by omega, i + 1, _, _, _, _, o', rv ++ [.ref T6], _, zr + 1, by omega, rfl, fr_turn F7, news_turn N7, ho1', ho2', fun p hp => ?_, by rw [List.length_append, hrl]; rfl, fun v hv => ?_⟩
        · rcases List.mem_cons.mp hp with rfl | hp
          · exact ⟨Nat.ne_of_gt l6.2.1, Nat.ne_of_gt l6.2.2.2.1, fun q hq => Ne.symm (off6 q (List.mem_append_right _ hq))⟩
          · rcases List.mem_cons.mp hp with rfl | hp
            · exact ⟨Ne.symm o5'.1, Ne.symm o5'.2.2.1, fun q hq => Ne.symm (off5 q (List.mem_append_right _ hq))⟩
            · exact hmd p hp
        · rcases List.mem_append.mp hv with hv | hv
          · exact (hok v hv).more fun p hp => .tail _ (.tail _ hp)
          · rw [List.mem_singleton.mp hv]
            exact row4 hbs hlen hrel (.head _) (.tail _ (.head _))
    · have hie : i = ws.length := by omega
      subst hie
      refine wpAny_pyNext_list_end rfl (iter_at hN ho1 ho2) hLi (by simp) fun h' he => ?_
      have off3 : ∀ p ∈ (D, W.listOf ws.toArray 0) :: (R, W.listOf rv.toArray zr) :: (made ++ LED), p.1 ≠ I := by
        intro p hp
        simp only [List.mem_cons, List.mem_append] at hp
        rcases hp with rfl | rfl | hp | hp
        · exact off2 (D, W.listOf ws.toArray 0) (.head _)
        · exact off2 (R, W.listOf #[] 0) (.tail _ (.head _))
        · exact (hmd p hp).1
        · exact off2 p (.tail _ (.tail _ hp))
      obtain ⟨F5, N5⟩ := iter_end hF hN off3 he
      clear hF hN N1b F1b N2 F2
      subst hm₀
      dsimp only [ForTurn]
      w_strict k_steps
      unfold Stop
      refine wpAny_For ?_
      w_strict k_steps
      unfold Stop
      rename Fr _ _ _ _ => F6
      rename News _ _ _ _ => N6
      obtain ⟨m₁, hm₁, F7⟩ := fr_name F6
      obtain ⟨LD, hLD, N7⟩ := news_name N6
      clear F6 N6
      have hL2 := hLs.at (F7.keep _)
      have hvl : vs.length ≤ 63 := by
        have := hI0.length
        omega
      refine wpAny_pyIter_list hL2 ?_
      (try dsimp only)
      obtain ⟨N8, off8⟩ := iter_new (l := sa) F7 N7
      have F8 := F7.push { cls := .type "list_iterator", data := .fields #[.ref sa, .int 0 0] }
      generalize hI8 : h'.objs.size = I2 at N8 off8
      refine for_ind ?hE2 (fun n s' => ∃ (i : Nat) (h : Heap) (tk : Nat) (u1 : Option Value) (W : Int) (t : Tok) (oI : Obj), n + i = vs.length ∧ s' = { s1 with heap := h, toks := tk } ∧
          Fr (ghostOf s1.heap [(596, 594)]) s1.heap.objs.size h (fun y => if y = Str.ofString "whole" then some (.int W t) else if y = Str.ofString "x" then u1 else m₁ y) ∧
          News (ghostOf s1.heap [(596, 594)]) s1.heap.objs.size h ((I2, oI) :: LD) ∧ oI.cls = .type "list_iterator" ∧ oI.data = .fields #[.ref sa, .int i 0] ∧
          0 ≤ W ∧ W < 340282366920938463463374607431768211456) ?turn2 vs.length ?start2
      case hE2 => first | passes_own | with_unfolding_all passes_own
      case start2 => exact ⟨0, _, _, _, 42540766411282592856903984951653826561, _, _, rfl, rfl, fr_oneT F8 (by subst hm₁; rfl), N8, rfl, rfl, by decide, by decide⟩
      case turn2 =>
        intro n s' hIs
        obtain ⟨i, h, tk, u1, W, t, oI, hni, rfl, hF, hN, ho1, ho2, hW0, hW1⟩ := hIs
        have hLi : h.IsList sa vs.toArray := hLs.at (hF.keep _)
        by_cases hi : i < vs.length
        · refine wpAny_pyNext_list_item (iter_at hN ho1 ho2) hLi (x := vs[i]) (by simp [hi]) fun h' hit' hs' => ?_
          obtain ⟨o', ho1', ho2', hF', hN'⟩ := iter_step hF hN off8 hit' hs'
          obtain ⟨k9, t9, hk9, e9⟩ := ints_at hI0 (List.getElem?_eq_getElem hi)
          rw [e9]
          dsimp only [ForTurn]
          refine wpAny_assign_Name ?_
          clear hF hN F7 N7 F8 N8
          w_strict k_steps
          unfold Stop
          dsimp only [WPost]
          rename Fr _ _ _ _ => F9
          rename News _ _ _ _ => N9
          exact ⟨n - 1, by omega, i + 1, _, _, _, _, _, o', by omega, rfl, fr_turn F9, N9, ho1', ho2', Int.fmod_nonneg_of_pos _ (by decide), Int.fmod_lt_of_pos _ (by decide)⟩
        · have hie : i = vs.length := by omega
          subst hie
          refine wpAny_pyNext_list_end rfl (iter_at hN ho1 ho2) hLi (by simp) fun h' he => ?_
          obtain ⟨F9, N9⟩ := iter_end hF hN off8 he
          clear hF hN F7 N7 F8 N8
          subst hm₁
          dsimp only [ForTurn]
          w_strict k_steps
          unfold Stop
          refine wpAny_For ?_
          w_strict k_steps
          unfold Stop
          rename Fr _ _ _ _ => F10
          rename News _ _ _ _ => N10
          rename Below _ _ _ _ => B10
          rename PySem.W.Frag.In _ _ => X10
          rename Top _ _ _ _ _ (ghostOf _ _) => T10
          refine pack16_spec _ (outer := []) B10 F10 X10 N10 T10 (by rfl) (by rfl) hW0 hW1 ?dp2 ?un2 ?rS2
          (case dp2 => ktr_room)
          (case un2 => ktr_units)
          intro h11 tk11 bs tb F11 N11 hbs
          clear F10 N10
          dsimp only
          w_strict k_steps
          unfold Stop
          obtain ⟨Lb, hLb0, N11b⟩ := head_name N11
          clear N11
          subst hLb0
          rename ∀ p ∈ LD, p.1 < Lb => lLb
          have hLb : ∀ p ∈ LD, p.1 ≠ Lb := fun p hp => Nat.ne_of_lt (lLb p hp)
          refine KBw.pyIter_bytes ?_
          (try dsimp only)
          obtain ⟨m₂, hm₂, F12⟩ := fr_name F11
          clear F11
          obtain ⟨N13, off13⟩ := bytes_new (b := bs) (t := tb) F12 N11b
          have F13 := F12.push { cls := .type "bytes_iterator", data := .fields #[.bytes bs tb, .int 0 0] }
          generalize hI13 : h11.objs.size = I3 at N13 off13
          have hbz : bs.size = 16 := by rw [← KBw.ints_length, hbs, List.length_reverse, KTBy.little_length]
          have hLbI : @Ne Nat Lb I3 := off13 (Lb, _) (.head _)
          refine for_ind ?hE3 (fun n s' => ∃ (i : Nat) (h : Heap) (tk : Nat) (u1 : Option Value) (ps : List (Str × Tok)) (z : Nat) (oI : Obj), n + i = bs.size ∧ s' = { s1 with heap := h, toks := tk } ∧
              Fr (ghostOf s1.heap [(596, 594)]) s1.heap.objs.size h (fun y => if y = Str.ofString "octet" then u1 else m₂ y) ∧
              News (ghostOf s1.heap [(596, 594)]) s1.heap.objs.size h ((I3, oI) :: (Lb, listObj ps z) :: LD) ∧ oI.cls = .type "bytes_iterator" ∧ oI.data = .fields #[.bytes bs tb, .int i 0] ∧
              ps.map (·.1) = ((KBw.bInts bs).take i).flatMap (fun x => [label 16 (x.fdiv 16), label 16 (x.fmod 16)])) ?turn3 bs.size ?start3
          case hE3 => first | passes_own | with_unfolding_all passes_own
          case start3 => exact ⟨0, _, _, _, [], 0, _, rfl, rfl, fr_one F13, N13, rfl, rfl, rfl⟩
          case turn3 =>
            intro n s' hIs
            obtain ⟨i, h, tk, u1, ps, z, oI, hni, rfl, hF, hN, ho1, ho2, hps⟩ := hIs
            have off3 : ∀ p ∈ (Lb, listObj ps z) :: LD, p.1 ≠ I3 := by
              intro p hp
              rcases List.mem_cons.mp hp with rfl | hp
              · exact hLbI
              · exact off13 p (.tail _ hp)
            have hpl : ps.length = 2 * i ∧ i ≤ 16 := by
              have e := congrArg List.length hps
              rw [List.length_map] at e
              rw [e]
              have : ∀ l : List Int, (l.flatMap (fun x => [label 16 (x.fdiv 16), label 16 (x.fmod 16)])).length = 2 * l.length := by
                intro l
                induction l with
                | nil => rfl
                | cons a l ih => simp only [List.flatMap_cons, List.length_append, List.length_cons, List.length_nil, ih]; omega
              rw [this, List.length_take, KBw.ints_length]
              omega
            by_cases hi : i < bs.size
            · refine KBw.next_item (bytes_at hN ho1 ho2) (c := bs[i]) (by simp [hi]) fun h' hit' hs' => ?_
              obtain ⟨o', ho1', ho2', hF', hN'⟩ := bytes_step hF hN off3 hit' hs'
              have hbi : (KBw.bInts bs)[i]? = some (bs[i].toNat : Int) := KBw.ints_get (by simp [hi])
              have hc0 : (0 : Int) ≤ (bs[i].toNat : Int) := by omega
              have hc1 : (bs[i].toNat : Int) < 256 := by have := bs[i].toNat_lt; omega
              generalize (bs[i].toNat : Int) = c at hbi hc0 hc1
              have hd0 : 0 ≤ c.fdiv 16 ∧ c.fdiv 16 < 16 := by rw [Int.fdiv_eq_ediv_of_nonneg _ (by decide)]; omega
              have hm0 : 0 ≤ c.fmod 16 := Int.fmod_nonneg_of_pos _ (by decide)
              have hm1 : c.fmod 16 < 16 := Int.fmod_lt_of_pos _ (by decide)
              dsimp only [ForTurn]
              refine wpAny_assign_Name ?_
              clear hF hN F12 F13 N13 N11b
              subst hm₂
              w_strict k_steps
              unfold Stop
              rename Fr _ _ _ _ => F14
              rename News _ _ _ _ => N14
              obtain ⟨T14, hT14, N14b⟩ := head_name N14
              clear N14
              subst hT14
              rename @LT.lt Nat _ I3 _ ∧ _ => l14
              refine extend_strs (qs := [(Txt.item (Str.ofString "0123456789abcdef") (c.fdiv 16), _), (Txt.item (Str.ofString "0123456789abcdef") (c.fmod 16), _)]) F14 N14b (.head _) (by simp) (by simp only [List.length_cons, List.length_nil]; omega)
                (.tail (Nat.ne_of_gt l14.2.1) (.tail (Ne.symm hLbI) (.head hLb))) fun h15 F15 N15 => ?_
              w_strict k_steps
              unfold Stop
              dsimp only [WPost]
              refine ⟨n - 1, by omega, i + 1, _, _, _, _, z + 1, o', by omega, rfl, fr_turn1 F15, News.tail' N15, ho1', ho2', ?_⟩
              rw [List.map_append, hps, List.take_add_one, hbi, List.flatMap_append]
              rfl
            · have hie : i = bs.size := by omega
              subst hie
              refine KBw.next_end rfl (bytes_at hN ho1 ho2) (by simp) fun h' he => ?_
              obtain ⟨F9, N9⟩ := iter_end hF hN off3 he
              clear hF hN F12 F13 N13 N11b
              subst hm₂
              subst hLD
              dsimp only [ForTurn]
              w_strict k_steps
              unfold Stop
              rename Fr _ _ _ _ => F16
              rename News _ _ _ _ => N16
              obtain ⟨T16, hT16, N16b⟩ := head_name N16
              clear N16
              subst hT16
              rename @LT.lt Nat _ Lb _ ∧ _ => l16
              have hmR : ∀ p ∈ made ++ LED, p.1 ≠ R := fun p hp => by
                rcases List.mem_append.mp hp with hp | hp
                · exact (hmd p hp).2.1
                · exact hall p hp
              have hLbR : @Ne Nat Lb R := Ne.symm (hLb (R, PySem.W.listOf rv.toArray zr) (.tail _ (.head _)))
              refine append_K F16 N16b (.tail (Nat.ne_of_gt l16.2.2.1) (.tail hLbR (.tail (Nat.ne_of_gt hRD) (.head hmR)))) (fun h17 F17 N17 => ?_) (by rw [List.size_toArray, hrl, sizeLine_eq]; omega)
              clear F16 N16b
              rw [List.push_toArray] at N17
              have hLEDoff : ∀ p ∈ made, p.1 ≠ S := fun p hp => (hmd p hp).2.2 (S, _) (by rw [hE]; exact .tail _ (.tail _ (.tail _ (.head _))))
              have hLbS : @Ne Nat Lb S := Ne.symm (hLb (S, PySem.W.listOf #[v0, v1, v2, v3, v4] 0) (.tail _ (.tail _ (List.mem_append_right _ (by rw [hE]; exact .tail _ (.tail _ (.tail _ (.head _))))))))
              have hTS : @LT.lt Nat _ S T16 := allLt_mem l16.2.2.2 (S, PySem.W.listOf #[v0, v1, v2, v3, v4] 0) (List.mem_append_right _ (by rw [hE]; exact .tail _ (.tail _ (.tail _ (.head _)))))
              rw [hE] at N17
              have N18 := loop4_led N17
              obtain ⟨made4, N19, hok4, hmS⟩ := pack_rows N18 (row16 hbs hps (.head _) (.tail _ (.head _))) hok (Nat.ne_of_gt hTS) hLbS hLEDoff
              clear N17 N18
              dsimp only at hmS
              have hSR : @LT.lt Nat _ S R := by omega
              clear hok hmd off2 off13 off8 hoff hall hmR
              subst hE
              clear l16
              w_strict k_steps
              unfold Stop
              refine wpAny_For ?_
              w_strict k_steps
              unfold Stop
              rename Fr _ _ _ _ => F20
              rename News _ _ _ _ => N20
              obtain ⟨m₃, hm₃, F21⟩ := fr_name F20
              clear F20
              have hrl4 : (rv ++ [Value.ref T16]).length ≤ 65 := by rw [List.length_append, hrl, List.length_singleton]; omega
              generalize rv ++ [Value.ref T16] = rw4 at N20 hok4 hrl4
              generalize zr + 1 = z4 at N20
              have hL4 := News.isList N20 (.head _)
              refine wpAny_pyIter_list hL4 ?_
              (try dsimp only)
              obtain ⟨N22, off22⟩ := iter_new (l := R) F21 N20
              have F22 := F21.push { cls := .type "list_iterator", data := .fields #[.ref R, .int 0 0] }
              generalize hI22 : h17.objs.size = I4 at N22 off22
              clear N20 F21
              refine for_ind ?hE4 (fun n s' => ∃ (i : Nat) (h : Heap) (tk : Nat) (u1 u2 : Option Value) (v0 v1 v2 v3 v4 : Value) (oI : Obj), n + i = rw4.length ∧ s' = { s1 with heap := h, toks := tk } ∧
                  Fr (ghostOf s1.heap [(596, 594)]) s1.heap.objs.size h (fun y => if y = Str.ofString "k" then u2 else if y = Str.ofString "row" then u1 else m₃ y) ∧
                  News (ghostOf s1.heap [(596, 594)]) s1.heap.objs.size h ((I4, oI) :: (R, PySem.W.listOf rw4.toArray z4) :: (f, lamObj qual (s1.heap.objs.size + 1) (s1.heap.objs.size + 1 + 1) c' pm ct) :: (c', oc') :: (S, PySem.W.listOf #[v0, v1, v2, v3, v4] 0) :: (x, instObj 563 d) ::
                    (d, dictOf [{ hash := PyData.keyHash w.params (Str.ofString "_reverse_pointer"), key := Value.str (Str.ofString "_reverse_pointer") tk0, val := Value.ref f }] 1) :: (s1.heap.objs.size + 1 + 1, o2) :: (s1.heap.objs.size + 1, o1) :: (594, tabObj tv) :: made4) ∧
                  oI.cls = .type "list_iterator" ∧ oI.data = .fields #[.ref R, .int i 0]) ?turn4 rw4.length ?start4
              case hE4 => first | passes_own | with_unfolding_all passes_own
              case start4 => exact ⟨0, _, _, _, _, _, _, _, _, _, _, rfl, rfl, fr_two F22, N22, rfl, rfl⟩
              case turn4 =>
                intro n s' hIs
                obtain ⟨i, h, tk, u1, u2, v0, v1, v2, v3, v4, oI, hni, rfl, hF, hN, ho1, ho2⟩ := hIs
                have hLi : h.IsList R rw4.toArray := News.isList hN (.tail _ (.head _))
                have off4 : ∀ p ∈ (R, PySem.W.listOf rw4.toArray z4) :: (f, lamObj qual (s1.heap.objs.size + 1) (s1.heap.objs.size + 1 + 1) c' pm ct) :: (c', oc') :: (S, PySem.W.listOf #[v0, v1, v2, v3, v4] 0) :: (x, instObj 563 d) ::
                    (d, dictOf [{ hash := PyData.keyHash w.params (Str.ofString "_reverse_pointer"), key := Value.str (Str.ofString "_reverse_pointer") tk0, val := Value.ref f }] 1) :: (s1.heap.objs.size + 1 + 1, o2) :: (s1.heap.objs.size + 1, o1) :: (594, tabObj tv) :: made4, p.1 ≠ I4 := by
                  intro p hp
                  by_cases hq : p.1 = S
                  · rw [hq]; exact off22 (S, _) (.tail _ (.tail _ (.tail _ (.head _))))
                  · refine off22 p ?_
                    simp only [List.mem_cons] at hp ⊢
                    grind
                have hSI : @Ne Nat S I4 := off22 (S, _) (.tail _ (.tail _ (.tail _ (.head _))))
                by_cases hi : i < rw4.length
                · refine wpAny_pyNext_list_item (iter_at hN ho1 ho2) hLi (x := rw4[i]) (by simp [hi]) fun h' hit' hs' => ?_
                  obtain ⟨o', ho1', ho2', hF', hN'⟩ := iter_step hF hN off4 hit' hs'
                  obtain ⟨a, l, nn, b, k, fin, ps, t1, t2, t3, t4, t5, z, hv, hm1, hm2, hb, hk32, hfin, hpk, hp3, htold⟩ := hok4 rw4[i] (List.getElem_mem hi)
                  rw [hv]
                  have hN2 : News (ghostOf s1.heap [(596, 594)]) s1.heap.objs.size h' ((a, tupObj #[.int nn t1, .int b t2, .int (k : Int) t3, .str fin t4, .int 0 t5, .ref l]) :: (l, PySem.W.listOf (strValues ps).toArray z) :: (I4, o') :: (R, PySem.W.listOf rw4.toArray z4) :: (f, lamObj qual (s1.heap.objs.size + 1) (s1.heap.objs.size + 1 + 1) c' pm ct) :: (c', oc') :: (S, PySem.W.listOf #[v0, v1, v2, v3, v4] 0) :: (x, instObj 563 d) ::
                      (d, dictOf [{ hash := PyData.keyHash w.params (Str.ofString "_reverse_pointer"), key := Value.str (Str.ofString "_reverse_pointer") tk0, val := Value.ref f }] 1) :: (s1.heap.objs.size + 1 + 1, o2) :: (s1.heap.objs.size + 1, o1) :: (594, tabObj tv) :: made4) := by
                    intro p hp
                    refine hN' p ?_
                    simp only [List.mem_cons] at hp ⊢
                    grind
                  have haS : @Ne Nat a S := hmS _ hm1
                  have hlS : @Ne Nat l S := hmS _ hm2
                  dsimp only [ForTurn]
                  refine wpAny_assign_Name ?_
                  clear hF hN F22 N22 hN'
                  subst hm₃
                  w_strict k_steps
                  unfold Stop
                  rename Fr _ _ _ _ => F24
                  rename News _ _ _ _ => N24
                  rename Below _ _ _ _ => B24
                  rename PySem.W.Frag.In _ _ => X24
                  rename Top _ _ _ _ _ (ghostOf _ _) => T24
                  have N25 := to_core N24
                  refine name_spec w k _ _ _ _ nn b 0 fin t1 t2 t3 t4 t5 tk0 _ _ _ _ [] _ _ _ _ _ f c' S x d _ _ qual pm ct oc' o2 o1 vs' tq _ _ _ _ _ _ B24 F24 X24 N25 T24 (by rfl) (by rfl) rfl ⟨hord.1, hord.2.1, hord.2.2.1, hord.2.2.2.1, hord.2.2.2.2.1, hord.2.2.2.2.2.1⟩ ?hr5 d1 d2 e2 e1 hb hfin hk32 ?dp5 ?un5 ?rS5
                  case hr5 =>
                    intro p hp
                    simp only [List.mem_cons] at hp
                    rcases hp with rfl | rfl | rfl | rfl | rfl | hp
                    · exact haS
                    · exact hlS
                    · exact Ne.symm hSI
                    · exact Nat.ne_of_gt hSR
                    · exact Nat.ne_of_lt hord.2.2.2.2.2.2.1
                    · exact hmS p hp
                  case dp5 => ktr_room
                  case un5 => ktr_units
                  intro h26 tk26 tt u1' u3' u5' F26 N26 hlen
                  have N27 := of_core N26
                  clear F24 N24 N25 N26
                  dsimp only
                  w_strict k_steps
                  unfold Stop
                  have hl := News.isList N27 (.tail _ (.head _))
                  refine kba_turn (value' := PySem.Expr.Name (PySem.Str.ofString "q") ⟨0, 0, 0, 0⟩) (fun _ => rfl) ?_
                  refine krv_lit (zs := strValues ps.reverse) F26 N27 hl (IsPart.int _ _) (by simp [strValues]) ?_ (by with_unfolding_all rfl) (by intro _; with_unfolding_all rfl) (by rw [List.size_toArray, sv_len, sizeLine_eq]; omega)
                  intro D28 h28 F28 N28 l28
                  clear F26 N27
                  w_strict k_steps
                  · exfalso
                    rename ¬ _ = _ => hbad
                    omega
                  · unfold Stop
                    dsimp only [WPost]
                    rename Fr _ _ _ _ => F30
                    rename News _ _ _ _ => N30
                    clear haS hlS hv hm1 hm2
                    exact ⟨n - 1, by omega, i + 1, _, _, _, _, _, _, _, _, _, o', by omega, rfl, fr_k5 F30, News.tail' (News.tail' (News.tail' (News.tail' (News.tail' N30)))), ho1', ho2'⟩
                · have hie : i = rw4.length := by omega
                  subst hie
                  refine wpAny_pyNext_list_end rfl (iter_at hN ho1 ho2) hLi (by simp) fun h' he => ?_
                  obtain ⟨F40, N40⟩ := iter_end hF hN off4 he
                  clear hF hN F22 N22
                  subst hm₃
                  dsimp only [ForTurn]
                  iterate 4 walk1
                  (try dsimp only)
                  refine ⟨good_turn KtsTurn.refl F40 (by assumption) (raisesW_false ?_) ?_, GrownAt.of N40 (by k_mem), True.intro⟩
                  · wrow_none_raised
                  · wrow_post)
end Mine
end
set_option maxRecDepth 100000 in
set_option maxHeartbeats 8000000 in
theorem PySem.Challenge.cw_km0038_04_holds : PySem.Challenge.rw_km0038_04.Holds := by
  exact Mine.fin04
