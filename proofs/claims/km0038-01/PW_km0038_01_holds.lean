import PyProof.Rows.All
import Wide.All
import OpenK.AllK
import Wide.FinOn
import PySem.Challenge.RW_km0038_01
set_option Elab.async false
namespace Mine
open PySem PySem.W PyProof.Rows
set_option maxRecDepth 100000
set_option maxHeartbeats 8000000
open_top hd for PySem.Challenge.rw_km0038_01
end Mine
section
open PySem PySem.W PyProof.Rows
namespace Mine
/-- the signs that the law's texts are made of: / 0 1 8 9 : . -/
def okSign (c : Nat) : Bool := c == 47 || c == 48 || c == 49 || c == 56 || c == 57 || c == 58 || c == 46
def Okd (d : Str) : Prop := d.length ≤ 100 ∧ ∀ c ∈ d.cps.toList, okSign c = true
theorem reprChar_ok {c : Nat} (h : okSign c = true) : Builtin.Str.reprChar 39 c = [c] := by
  simp only [okSign, Bool.or_eq_true, beq_iff_eq] at h
  rcases h with (((((h | h) | h) | h) | h) | h) | h <;> subst h <;> decide +kernel
theorem repr_fold_ok : ∀ (l : List Nat) (acc : Array Nat), (∀ c ∈ l, okSign c = true) → l.foldl (fun out c => out ++ (Builtin.Str.reprChar 39 c).toArray) acc = acc ++ l.toArray
  | [], acc, _ => by simp
  | c :: r, acc, h => by
    rw [List.foldl_cons, reprChar_ok (h c (List.mem_cons_self ..)), repr_fold_ok r _ fun x hx => h x (List.mem_cons_of_mem _ hx)]
    simp
theorem reprQuote_ok {d : Str} (h : ∀ c ∈ d.cps.toList, okSign c = true) : reprQuote d = 39 := by
  unfold reprQuote
  have : d.cps.contains 39 = false := by
    cases hc : d.cps.contains 39 with
    | false => rfl
    | true =>
      rw [Array.contains_iff_mem] at hc
      have := h 39 (Array.mem_toList_iff.mpr hc)
      exact absurd this (by decide)
  rw [this]; rfl
theorem reprText_ok {d : Str} (h : ∀ c ∈ d.cps.toList, okSign c = true) : reprText d = ⟨(39 :: (d.cps.toList ++ [39])).toArray⟩ := by
  unfold reprText
  rw [reprQuote_ok h, ← Array.foldl_toList, repr_fold_ok _ _ h]
  simp

/-- the pieces between the slashes -/
def sp : List Nat → List (List Nat)
  | [] => [[]]
  | c :: r => if c = 47 then [] :: sp r else match sp r with
    | p :: ps => (c :: p) :: ps
    | [] => [[c]]
theorem sp_ne : ∀ l, sp l ≠ []
  | [] => by simp [sp]
  | c :: r => by
    unfold sp
    split
    · simp
    · split <;> simp
theorem sp_length : ∀ l, (sp l).length = l.count 47 + 1
  | [] => rfl
  | c :: r => by
    have ih := sp_length r
    unfold sp
    by_cases h : c = 47
    · subst h; simp [ih]
    · rw [if_neg h]
      have e : (c :: r).count 47 = r.count 47 := by rw [List.count_cons]; simp [h]
      rw [e]
      split
      · rename_i p ps q; rw [q] at ih; simpa using ih
      · rename_i q; exact absurd q (sp_ne r)
theorem sp_cons_slash {c : Nat} {r : List Nat} (h : c = 47) : sp (c :: r) = [] :: sp r := by
  show (if c = 47 then _ else _) = _
  rw [if_pos h]
theorem sp_cons_other {c : Nat} {r p : List Nat} {ps : List (List Nat)} (h : c ≠ 47) (q : sp r = p :: ps) : sp (c :: r) = (c :: p) :: ps := by
  show (if c = 47 then _ else _) = _
  rw [if_neg h, q]
theorem sp_app : ∀ (a b : List Nat), sp (a ++ 47 :: b) = sp a ++ sp b
  | [], b => by simp [sp]
  | c :: r, b => by
    have ih := sp_app r b
    rw [List.cons_append]
    by_cases h : c = 47
    · rw [sp_cons_slash h, sp_cons_slash h, ih, List.cons_append]
    · cases q : sp r with
      | nil => exact absurd q (sp_ne r)
      | cons p ps =>
        rw [sp_cons_other h (p := p) (ps := ps ++ sp b) (by rw [ih, q]; rfl), sp_cons_other h q]
        rfl
theorem sp_free : ∀ (l : List Nat), 47 ∉ l → sp l = [l]
  | [], _ => rfl
  | c :: r, h => by
    have h1 : c ≠ 47 := fun e => h (by rw [e]; exact List.mem_cons_self ..)
    have h2 : 47 ∉ r := fun e => h (List.mem_cons_of_mem _ e)
    unfold sp
    rw [if_neg h1, sp_free r h2]
/-- pieces free of the slash, put together by slashes -/
def glue : List (List Nat) → List Nat
  | [] => []
  | [p] => p
  | p :: q :: r => p ++ 47 :: glue (q :: r)
theorem sp_glue : ∀ (ps : List (List Nat)), ps ≠ [] → (∀ p ∈ ps, 47 ∉ p) → sp (glue ps) = ps
  | [], h, _ => absurd rfl h
  | [p], _, h => sp_free p (h p (List.mem_cons_self ..))
  | p :: q :: r, _, h => by
    show sp (p ++ 47 :: glue (q :: r)) = _
    rw [sp_app, sp_free p (h p (List.mem_cons_self ..)), sp_glue (q :: r) (by simp) fun x hx => h x (List.mem_cons_of_mem _ hx)]
    rfl
theorem join_glue : ∀ (ps : List Str), (Str.join ⟨#[47]⟩ ps).cps.toList = glue (ps.map (·.cps.toList))
  | [] => rfl
  | [p] => rfl
  | p :: q :: r => by
    have ih := join_glue (q :: r)
    show (p ++ (⟨#[47]⟩ : Str) ++ Str.join ⟨#[47]⟩ (q :: r)).cps.toList = _
    show (p.cps ++ #[47] ++ (Str.join ⟨#[47]⟩ (q :: r)).cps).toList = _
    rw [Array.toList_append, Array.toList_append, ih]
    simp [glue]
theorem split_ne (d : Str) (y : Str) : Txt.split d y ≠ [] := by
  unfold Txt.split
  split
  · simp
  · split
    · simp
    · unfold Builtin.Str.partsBetween
      intro h
      have := congrArg List.length h
      simp at this
theorem split_sp (d : Str) : (Txt.split d ⟨#[47]⟩).map (·.cps.toList) = sp d.cps.toList := by
  have h1 := StrLaws.join_split d ⟨#[47]⟩
  have h2 := StrLaws.split_free d 47
  have h3 : d.cps.toList = glue ((Txt.split d ⟨#[47]⟩).map (·.cps.toList)) := by rw [← join_glue, h1]
  rw [h3, sp_glue]
  · simpa using split_ne d ⟨#[47]⟩
  · intro p hp
    obtain ⟨x, hx, rfl⟩ := List.mem_map.mp hp
    exact h2 x hx
theorem slash_eq : Str.ofString "/" = ⟨#[47]⟩ := by decide +kernel
theorem split_len (d : Str) : (Txt.split d (Str.ofString "/")).length = d.cps.toList.count 47 + 1 := by
  rw [slash_eq, ← sp_length, ← split_sp, List.length_map]
theorem occ_count (d : Str) : (Builtin.Str.occurrences d (Str.ofString "/") 0 d.length 1).isEmpty = decide (d.cps.toList.count 47 = 0) := by
  have := StrLaws.found_one d 47
  rw [slash_eq]
  cases h : (Builtin.Str.occurrences d ⟨#[47]⟩ 0 d.length 1).isEmpty with
  | true =>
    rw [h] at this
    simp only [Bool.not_true] at this
    have := of_decide_eq_false this.symm
    symm; rw [decide_eq_true_eq]
    exact List.count_eq_zero.mpr this
  | false =>
    rw [h] at this
    simp only [Bool.not_false] at this
    have := of_decide_eq_true this.symm
    symm; rw [decide_eq_false_iff_not]
    exact fun e => (List.count_eq_zero.mp e) this
end Mine
namespace Mine
theorem split_sum {d : Str} : (((Txt.split d ⟨#[47]⟩).map (·.length)).sum) + (Txt.split d ⟨#[47]⟩).length = d.length + 1 := by
  have key : ∀ l : List Nat, ((sp l).map List.length).sum + (sp l).length = l.length + 1 := by
    intro l
    induction l with
    | nil => rfl
    | cons c r ih =>
      by_cases h : c = 47
      · rw [sp_cons_slash h]; simp only [List.map_cons, List.sum_cons, List.length_cons, List.length_nil] at ih ⊢; omega
      · cases q : sp r with
        | nil => exact absurd q (sp_ne r)
        | cons p ps =>
          rw [sp_cons_other h q]
          rw [q] at ih
          simp only [List.map_cons, List.sum_cons, List.length_cons] at ih ⊢
          omega
  have := key d.cps.toList
  rw [← split_sp, List.map_map, List.length_map] at this
  have e : (List.length ∘ fun x : Str => x.cps.toList) = fun x : Str => x.length := by
    funext x; simp [Str.length]
  rw [e] at this
  simpa [Str.length] using this
theorem join_txt (d : Str) : Txt.join (Str.ofString "/") (Txt.split d (Str.ofString "/")) = d := by
  show Builtin.Str.glued _ _ = d
  rw [StrLaws.glued_eq_join, StrLaws.join_split]
section
variable {prog : Program} {w : World} {A : Around} {E : Value → Shared → Prop} {s : Shared} {t : Tok} {Q : Value → Shared → Prop}
theorem join_told {d : Str} {D : Addr} {l : List (Str × Tok)} (hl : s.heap.IsList D (strValues l).toArray) (ht : l.map (·.1) = Txt.split d (Str.ofString "/")) (hd : Okd d)
    (hq : ∀ t' k, Q (.str d t') { s with toks := k }) : wpAny (model prog w) A (call (.builtin "str.join") [.str (Str.ofString "/") t, .ref D]) Q E s := by
  refine SC.join hl ht ?_ (by rw [join_txt]; exact hq)
  refine joinOk_of_weight ?_ (by decide +kernel)
  rw [slash_eq, split_sum]
  have := hd.1
  omega
theorem repr_ok {d : Str} {u : Tok} (hd : Okd d) (h : ∀ x t' k, x.cps.toList = 39 :: (d.cps.toList ++ [39]) → x.length ≤ 102 → Q (.str x t') { s with toks := k }) : wpAny (model prog w) A (pyReprObj (.str d u)) Q E s := by
  have hl : (⟨(39 :: (d.cps.toList ++ [39])).toArray⟩ : Str).length ≤ 102 := by
    have := hd.1
    show ((39 :: (d.cps.toList ++ [39])).toArray).size ≤ 102
    have e : d.cps.size = d.length := rfl
    simp only [List.size_toArray, List.length_cons, List.length_append, List.length_nil, Array.length_toList]
    omega
  refine pyReprObj_str (by rw [reprText_ok hd.2]; exact h _ _ _ rfl hl) ?_
  rw [reprText_ok hd.2, sizeLine_eq]
  omega
end
end Mine
namespace Mine
theorem okd_lt {d : Str} (h : Okd d) : ∀ c ∈ d.cps.toList, c < 0x110000 := by
  intro c hc
  have := h.2 c hc
  simp only [okSign, Bool.or_eq_true, beq_iff_eq] at this
  omega
end Mine
namespace Mine
abbrev listObj (ps : List (Str × Tok)) (n : Nat) : Obj := { cls := .type "list", data := .seq (strValues ps).toArray n }
section
variable {prog : Program} {w : World} {A : Around} {E : Value → Shared → Prop} {s : Shared} {t u : Tok} {Q : Value → Shared → Prop} {h₀ : Heap} {L : Addr} {m : Str → Option Value} {news : List (Addr × Obj)} {d : Str}
theorem split_told (F : Fr h₀ L s.heap m) (N : News h₀ L s.heap news) (hd : Okd d)
    (h : ∀ D ps h' k, ps.map (·.1) = Txt.split d (Str.ofString "/") → ps.length = d.cps.toList.count 47 + 1 → Fr h₀ L h' m → News h₀ L h' ((D, listObj ps 0) :: news) → AllLt D news → h'.IsList D (strValues ps).toArray → Q (.ref D) { s with heap := h', toks := k }) :
    wpAny (model prog w) A (call (.builtin "str.split") [.str d t, .str (Str.ofString "/") u]) Q E s := by
  refine splitN1 F N (by decide +kernel) (fun l h' k e F' N' => h _ l h' k e ?_ F' N' (allLt_of fun p hp => Heap.lt_size (N p hp).1) (News.isList N' (.head _))) ?_
  · rw [← split_len, ← e, List.length_map]
  · have := hd.1; rw [sizeLine_eq]; omega
end
end Mine
namespace Mine
theorem slice_take {x : Str} {k : Int} (h0 : 0 ≤ k) (h1 : k ≤ x.length) : (Txt.slice x none (some k)).cps.toList = x.cps.toList.take k.toNat := by
  have := eq_of_beq (slice_closes_toL h0 h1)
  rw [this]
  simp
theorem slice_drop {x : Str} {k : Int} (h0 : 0 ≤ k) (h1 : k ≤ x.length) : (Txt.slice x (some k) none).cps.toList = x.cps.toList.drop k.toNat := by
  rw [slice_from_eq h0 h1 rfl]
  have e2 : x.length = x.cps.toList.length := by simp [Str.length]
  simp only []
  rw [List.take_of_length_le]
  rw [List.length_drop]; omega
theorem okd_of_sub {d x : Str} (hd : Okd d) (hl : x.cps.toList.length ≤ d.cps.toList.length) (hs : ∀ c ∈ x.cps.toList, c ∈ d.cps.toList) : Okd x := by
  have e (y : Str) : y.length = y.cps.toList.length := by simp [Str.length]
  exact ⟨by rw [e]; have := hd.1; rw [e] at this; omega, fun c hc => hd.2 c (hs c hc)⟩
theorem okd_take {d : Str} {k : Int} (hd : Okd d) (h0 : 0 ≤ k) (h1 : k ≤ d.length) : Okd (Txt.slice d none (some k)) :=
  okd_of_sub hd (by rw [slice_take h0 h1]; simp; omega) (by rw [slice_take h0 h1]; exact fun c hc => List.mem_of_mem_take hc)
theorem okd_drop {d : Str} {k : Int} (hd : Okd d) (h0 : 0 ≤ k) (h1 : k ≤ d.length) : Okd (Txt.slice d (some k) none) :=
  okd_of_sub hd (by rw [slice_drop h0 h1]; simp) (by rw [slice_drop h0 h1]; exact fun c hc => List.mem_of_mem_drop hc)
end Mine
namespace Mine
theorem fdiv2 (a : Int) : a.fdiv 2 = a / 2 := Int.fdiv_eq_ediv_of_nonneg a (by decide)
end Mine
end
section
open PySem PySem.W PyProof.Rows PySem.Spec PySem.Calls
namespace Mine
abbrev excAt (C : Addr) (d : Option Addr) (ws : Array Value) (sl : Array (Option Value)) : Obj := ⟨.ref C, d, .fields ws, sl⟩
abbrev tupAt (d : Option Addr) (vs : List Value) (n : Nat) (sl : Array (Option Value)) : Obj := ⟨.type "tuple", d, .seq vs.toArray n, sl⟩
section
variable {prog : Program} {w : World} {A₀ : Around} {E : Value → Shared → Prop} {s' : Shared} {base g g₀ G : Heap} {outer : List Env} {L a e t C : Addr} {m : Str → Option Value} {name : Str} {scope : Scope} {cd : Value}
  {vs : List Value} {n : Str} {b₀ : Stmt} {suite : List Stmt} {pos np : Pos} {rest : List ExceptHandler} {Q : Flow → Shared → Prop} {news : List (Addr × Obj)} {KF : Frag}
  {p : Program} {loose : List Str} {mean : ExcName → Option Value} {mg mb : Str → Option Value} {x : Str}
theorem caught_own (R : RaisedS base G (envOf name scope L a cd :: outer) e (.ref C) t vs news s'.heap) (F : Fr g L G m) (K : Below A₀ base outer g) (hsm : G.UpToSlots s'.heap) (XB : KF.In base) (TB : Top p loose mean mg mb base)
    (D : KtsDicts (outer.filterMap (·.frame)) g) (T0 : KtsTurn (outer.filterMap (·.frame)) g₀ g)
    (ex : nsIn KF mainGlobals x = some (some (.ref C))) (q : ktsIn KF C "BaseException" = true)
    (k : ∀ h' g' tk d₁ ws sl₁ d₂ nt sl₂, KtsTurn (outer.filterMap (·.frame)) g₀ g' → Fr g' L h' (fun y => if y = n then some (.ref e) else m y) → News g' L h' ((e, excAt C d₁ ws sl₁) :: (t, tupAt d₂ vs nt sl₂) :: news) → ws[0]? = some (.ref t) →
      Below A₀ base outer g' → KF.In g' → Top p loose mean mg mb g' → KtsDicts (outer.filterMap (·.frame)) g' →
      wpAny (model prog w) ((A₀.deeper (envOf name scope L a cd)).mark (some (.ref e))) (execs (b₀ :: suite) (envOf name scope L a cd))
        (fun f s₄ => wpAny (model prog w) (A₀.deeper (envOf name scope L a cd)) (do bindName (envOf name scope L a cd) n .none; unbindBehindTheSuite (envOf name scope L a cd) n pos) (fun _ s₅ => Q f s₅) E s₄)
        (AsSuiteRaised (model prog w) ((A₀.deeper (envOf name scope L a cd)).mark (some (.ref e))) (envOf name scope L a cd) n pos (notedBy (model prog w) ((A₀.deeper (envOf name scope L a cd)).mark (some (.ref e))) (envOf name scope L a cd) (cameBackBy (model prog w) (A₀.deeper (envOf name scope L a cd)) (envOf name scope L a cd) E)))
        { s' with heap := h', toks := tk })
    (hk : scope.kind = .function := by rfl) (hlo : (envOf name scope L a cd).kindOf n = some .local := by rfl) (hx : (envOf name scope L a cd).kindOf x = some .globalImplicit := by rfl) (hd : (x == ("__debug__" : Str)) = false := by decide) :
    wpAny (model prog w) (A₀.deeper (envOf name scope L a cd)) (noteFrame (.ref e) (envOf name scope L a cd))
      (fun _ s₂ => wpAny (model prog w) (A₀.deeper (envOf name scope L a cd)) (setFlight (.ref e) none) (fun _ s₃ =>
        wpAny (model prog w) (A₀.deeper (envOf name scope L a cd)) (handleBy (.ref e) (envOf name scope L a cd) (.ExceptHandler (some (.Name x np)) (some n) (b₀ :: suite) pos :: rest)) Q E s₃) E s₂) E s' := by
  refine caught_SOB R F K hsm XB TB D T0 ex q (fun h' g' news₂ tk T' F' N₂ G' N' K' X' P' D' => ?_) hk hlo hx hd
  obtain ⟨⟨c1, d1, dt1, sl1⟩, ⟨c2, d2, dt2, sl2⟩, ws, nt, h1, h2, h3, h4, h5, h6, h7⟩ := G'
  dsimp only at h3 h4 h6 h7
  subst h3 h4 h6 h7
  refine k h' g' tk d1 ws sl1 d2 nt sl2 T' F' ?_ h5 K' X' P' D'
  intro p hp
  rcases List.mem_cons.mp hp with rfl | hp
  · exact N₂ _ h1
  · rcases List.mem_cons.mp hp with rfl | hp
    · exact N₂ _ h2
    · exact N' _ hp
end
section
variable {prog : Program} {w : World} {A : Around} {E : Value → Shared → Prop} {s : Shared} {h₀ : Heap} {L e t C : Addr} {m : Str → Option Value} {news : List (Addr × Obj)} {d : Option Addr} {ws : Array Value} {sl : Array (Option Value)} {vs : List Value} {Q : Value → Shared → Prop}
theorem type_exc (N : News h₀ L s.heap news) (h : (e, excAt C d ws sl) ∈ news) (hq : Q (.ref C) s) : wpAny (model prog w) A (call (.type "type") [.ref e]) Q E s := by
  obtain ⟨hh, g, dr, tk, os⟩ := s
  exact call_type_obj (N.get h) rfl hq
theorem args_exc {bmB : List Value} {B : String} {expr : Bool} {p : Program} {loose : List Str} {mean : ExcName → Option Value} {mg mb : Str → Option Value} {o : OwnSpec} (FB : ExcAttrBase B bmB) (F : Fr h₀ L s.heap m) (T : Top p loose mean mg mb h₀)
    (ho : o ∈ ownsOf p) (hb : o.bm = bmB) {K : Frag} (X : K.In h₀) (hK : nsIn K mainGlobals o.name = some (some (.ref C)))
    (N : News h₀ L s.heap news) (h : (e, excAt C d ws sl) ∈ news) (h0 : ws[0]? = some (.ref t)) (hq : Q (.ref t) { s with toks := s.toks + 1 }) : wpAny (model prog w) A (getAttr (.ref e) "args" expr) Q E s := by
  obtain ⟨C', O, _⟩ := T.own o ho
  have e1 := mg_of X T.g hK
  rw [O.bound] at e1
  cases e1
  subst hb
  obtain ⟨hh, g, dr, tk, os⟩ := s
  exact args_of_own FB (O.keeps F.keep) (N.get h) rfl rfl h0 hq
end
end Mine
namespace Mine
theorem words_eq {x d : Str} (hx : x.cps.toList = 39 :: (d.cps.toList ++ [39])) : Str.empty ++ Str.ofString "Only one '/' permitted in " ++ x = Str.ofString "Only one '/' permitted in '" ++ d ++ Str.ofString "'" := by
  have e1 : (Str.ofString "Only one '/' permitted in ").cps.toList = [79, 110, 108, 121, 32, 111, 110, 101, 32, 39, 47, 39, 32, 112, 101, 114, 109, 105, 116, 116, 101, 100, 32, 105, 110, 32] := by decide +kernel
  have e2 : (Str.ofString "Only one '/' permitted in '").cps.toList = [79, 110, 108, 121, 32, 111, 110, 101, 32, 39, 47, 39, 32, 112, 101, 114, 109, 105, 116, 116, 101, 100, 32, 105, 110, 32, 39] := by decide +kernel
  have e3 : (Str.ofString "'").cps.toList = [39] := by decide +kernel
  have app : ∀ a b : Str, (a ++ b).cps.toList = a.cps.toList ++ b.cps.toList := fun a b => Array.toList_append
  have inj : ∀ a b : Str, a.cps.toList = b.cps.toList → a = b := fun a b h => by cases a; cases b; congr; exact Array.toList_inj.mp h
  refine inj _ _ ?_
  rw [app, app, app, app, e1, e2, e3, hx]
  show ([] ++ _) ++ _ = _
  simp
section
variable {prog : Program} {w : World} {A : Around} {E : Value → Shared → Prop} {s : Shared} {h₀ : Heap} {L a b : Addr} {news : List (Addr × Obj)} {d : Option Addr} {sl : Array (Option Value)} {x y : Str} {t u : Tok} {n k : Nat} {Q : Value → Shared → Prop}
theorem eq_tup1 (N : News h₀ L s.heap news) (h1 : (a, tupAt d [.str x t] n sl) ∈ news) (h2 : (b, ({ cls := .type "tuple", data := .seq #[.str y u] k } : Obj)) ∈ news) (hxy : x = y) (hx : PyData.canLay0 (.str x) = true) (hu : A.units + 64 < cLine)
    (h : Q (.bool true) s) : wpAny (model prog w) A (compareOp .Eq (.ref a) (.ref b)) Q E s := by
  subst hxy
  have sh : SeqAt.shaped (.tuple [.str x]) = true := by
    unfold SeqAt.shaped
    have e : PyData.canLay0 (.tuple [.str x]) = true := by simp only [PyData.canLay0, PyData.canLayAll0, Bool.and_true]; simpa only [PyData.canLay0] using hx
    rw [e]; rfl
  refine eq_dataH (reads_tuple_at (N.get h1) rfl rfl (.cons (.str _ _) .nil)) (reads_tuple_at (N.get h2) rfl rfl (.cons (.str _ _) .nil)) sh sh hu ?_
  simpa [PyData.eqv, PyData.eqvAll] using h
end
end Mine
namespace Mine
theorem strOk_of_list {x : Str} (h : ∀ c ∈ x.cps.toList, c < 0x110000) : PyData.canLay0 (.str x) = true := by
  show PyData.strOk x = true
  unfold PyData.strOk
  rw [Array.all_eq_true']
  intro c hc
  simpa using h c (Array.mem_toList_iff.mpr hc)
theorem words_ok {x d : Str} (hd : ∀ c ∈ d.cps.toList, c < 0x110000) (hx : x.cps.toList = 39 :: (d.cps.toList ++ [39])) : PyData.canLay0 (.str (Str.empty ++ Str.ofString "Only one '/' permitted in " ++ x)) = true := by
  refine strOk_of_list fun c hc => ?_
  have app : ∀ a b : Str, (a ++ b).cps.toList = a.cps.toList ++ b.cps.toList := fun a b => Array.toList_append
  rw [app, app, List.mem_append, List.mem_append, hx] at hc
  have e1 : (Str.ofString "Only one '/' permitted in ").cps.toList.all (· < 0x110000) = true := by decide +kernel
  rcases hc with (hc | hc) | hc
  · cases hc
  · simpa using List.all_eq_true.mp e1 c hc
  · rcases List.mem_cons.mp hc with rfl | hc
    · decide
    · rcases List.mem_append.mp hc with hc | hc
      · exact hd c hc
      · rw [List.mem_singleton.mp hc]; decide
end Mine
namespace Mine
/-- a place where the walk is to rest -/
def Stop (p : Prop) : Prop := p
theorem stop_here {p : Prop} (h : Stop p) : p := h
section
variable {prog : Program} {w : World} {A : Around} {E : Value → Shared → Prop} {env : Env} {test : PySem.Expr} {body orelse : List Stmt} {Q : Flow → Shared → Prop}
def WPost (I : Nat → Shared → Prop) (n : Nat) (Q : Flow → Shared → Prop) (f : Flow) (s : Shared) : Prop := match f with
  | .next => ∃ n', n' < n ∧ I n' s
  | .cont => ∃ n', n' < n ∧ I n' s
  | .brk => Q .next s
  | .ret v => Q (.ret v) s
theorem while_ind (hE : PassesOwn (model prog w) A env E) (I : Nat → Shared → Prop)
    (turn : ∀ n s, I n s → wpAny (model prog w) A (isTrue test env (eval test env)) (fun b s₂ => WhlIf b (wpAny (model prog w) A (execs body env) (WPost I n Q) E s₂) (wpAny (model prog w) A (execs orelse env) Q E s₂)) E s)
    {pos : Pos} (n : Nat) {s : Shared} (h : I n s) : wpAny (model prog w) A (exec (.While test body orelse pos) env) Q E s := by
  refine whl_start 0 ?_
  have key : ∀ N n s, n < N → I n s → WhlRest prog w A E env test body orelse Q 1 s := by
    intro N
    induction N with
    | zero => intro n s hn; exact absurd hn (Nat.not_lt_zero _)
    | succ N ih =>
      intro n s hn hI
      refine whl_turn hE (wpAny_mono (turn n s hI) (fun b s₂ hb => ?_) fun _ _ e => e)
      unfold WhlIf at hb ⊢
      cases b with
      | false => exact hb
      | true =>
        refine wpAny_mono hb (fun f s₃ hf => ?_) fun _ _ e => e
        have go : (∃ n', n' < n ∧ I n' s₃) → WhlRest prog w A E env test body orelse Q 0 s₃ := fun ⟨n', l, i⟩ => ih n' s₃ (Nat.lt_of_lt_of_le l (Nat.le_of_lt_succ hn)) i
        cases f with
        | next => exact go hf
        | cont => exact go hf
        | brk => exact hf
        | ret v => exact hf
  exact key (n + 1) n s (Nat.lt_succ_self _) h
end
end Mine
namespace Mine
theorem whlif_cases {b : Bool} {T F : Prop} (h1 : b = true → T) (h2 : b = false → F) : WhlIf b T F := by
  unfold WhlIf
  cases b with
  | true => exact h1 rfl
  | false => exact h2 rfl
end Mine
end
section
open PySem PySem.W PyProof.Rows PySem.Spec PySem.Calls
namespace Mine
theorem reads_strs {h : Heap} : ∀ (ps : List (Str × Tok)), ReadsAll h (strValues ps) (ps.map fun p => PyData.str p.1) []
  | [] => .nil
  | p :: ps => readsAll_cons_val (.str _ _) (reads_strs ps)
theorem lay_strs : ∀ (ps : List (Str × Tok)), (∀ p ∈ ps, ∀ c ∈ p.1.cps.toList, c < 0x110000) → PyData.canLayAll0 (ps.map fun p => PyData.str p.1) = true
  | [], _ => by simp [PyData.canLayAll0]
  | p :: ps, h => by
    simp only [List.map_cons, PyData.canLayAll0, Bool.and_eq_true]
    exact ⟨strOk_of_list (h p (List.mem_cons_self ..)), lay_strs ps fun q hq => h q (List.mem_cons_of_mem _ hq)⟩
theorem depth_strs : ∀ (ps : List (Str × Tok)), PyData.depthAll (ps.map fun p => PyData.str p.1) = 0
  | [] => by simp [PyData.depthAll]
  | p :: ps => by simp [PyData.depthAll, PyData.depth, depth_strs ps]
theorem shaped_strs {ps : List (Str × Tok)} (h : ∀ p ∈ ps, ∀ c ∈ p.1.cps.toList, c < 0x110000) : SeqAt.shaped (.list (ps.map fun p => PyData.str p.1)) = true := by
  unfold SeqAt.shaped
  rw [Bool.and_eq_true]
  refine ⟨by rw [PyData.canLay0]; exact lay_strs ps h, ?_⟩
  rw [decide_eq_true_eq, PyData.depth, depth_strs]
  decide
theorem eqv_strs : ∀ (ps qs : List (Str × Tok)), PyData.eqvAll (ps.map fun p => PyData.str p.1) (qs.map fun p => PyData.str p.1) = decide (ps.map (·.1) = qs.map (·.1))
  | [], [] => by simp [PyData.eqvAll]
  | [], q :: qs => by simp [PyData.eqvAll]
  | p :: ps, [] => by simp [PyData.eqvAll]
  | p :: ps, q :: qs => by
    simp only [List.map_cons, PyData.eqvAll, PyData.eqv, eqv_strs ps qs, List.cons.injEq, Bool.decide_and]
    congr 1
section
variable {prog : Program} {w : World} {A : Around} {E : Value → Shared → Prop} {s : Shared} {h₀ : Heap} {L a b : Addr} {news : List (Addr × Obj)} {ps qs : List (Str × Tok)} {n k : Nat} {vs : Array Value} {Q : Value → Shared → Prop}
theorem eq_strs (N : News h₀ L s.heap news) (h1 : (a, listObj ps n) ∈ news) (h2 : (b, ({ cls := .type "list", data := .seq vs k } : Obj)) ∈ news) (hv : vs.toList = strValues qs) (hp : ∀ p ∈ ps, ∀ c ∈ p.1.cps.toList, c < 0x110000) (hq : ∀ p ∈ qs, ∀ c ∈ p.1.cps.toList, c < 0x110000) (hu : A.units + 64 < cLine)
    (h : Q (.bool (decide (ps.map (·.1) = qs.map (·.1)))) s) : wpAny (model prog w) A (compareOp .Eq (.ref a) (.ref b)) Q E s := by
  refine eq_dataH (reads_list_at (N.get h1) rfl rfl (reads_strs ps)) (reads_list_at (N.get h2) rfl rfl (by rw [hv]; exact reads_strs qs)) (shaped_strs hp) (shaped_strs hq) hu ?_
  rw [PyData.eqv, eqv_strs]
  exact h
end
theorem okd_pieces {d : Str} (hd : Okd d) {ps : List (Str × Tok)} (h : ps.map (·.1) = Txt.split d (Str.ofString "/")) : ∀ p ∈ ps, ∀ c ∈ p.1.cps.toList, c < 0x110000 := by
  have key : ∀ l : List Nat, ∀ q ∈ sp l, ∀ c ∈ q, c ∈ l := by
    intro l
    induction l with
    | nil => intro q hq c hc; simp [sp] at hq; rw [hq] at hc; cases hc
    | cons x r ih =>
      intro q hq c hc
      by_cases hx : x = 47
      · rw [sp_cons_slash hx] at hq
        rcases List.mem_cons.mp hq with rfl | hq
        · cases hc
        · exact List.mem_cons_of_mem _ (ih q hq c hc)
      · cases e : sp r with
        | nil => exact absurd e (sp_ne r)
        | cons p' ps' =>
          rw [sp_cons_other hx e] at hq
          rcases List.mem_cons.mp hq with rfl | hq
          · rcases List.mem_cons.mp hc with rfl | hc
            · exact List.mem_cons_self ..
            · exact List.mem_cons_of_mem _ (ih p' (by rw [e]; exact List.mem_cons_self ..) c hc)
          · exact List.mem_cons_of_mem _ (ih q (by rw [e]; exact List.mem_cons_of_mem _ hq) c hc)
  intro p hp c hc
  refine okd_lt hd c (key _ p.1.cps.toList ?_ c hc)
  rw [← split_sp, ← slash_eq, ← h]
  exact List.mem_map_of_mem (List.mem_map_of_mem hp)
theorem pieces_ne {d : Str} {ps : List (Str × Tok)} (h : ps.map (·.1) = Txt.split d (Str.ofString "/")) : decide (ps.map (·.1) = ([] : List (Str × Tok)).map (·.1)) = false := by
  rw [decide_eq_false_iff_not, h]
  exact split_ne _ _
section
open PySem.Spec PySem.Calls
theorem told_ne_nil {prog : Program} {w : World} {A : Around} {E : Value → Shared → Prop} {s : Shared} {h₀ : Heap} {L a b : Addr} {news : List (Addr × Obj)} {ps : List (Str × Tok)} {n k : Nat} {Q : Value → Shared → Prop} {d : Str}
    (N : News h₀ L s.heap news) (h1 : (a, listObj ps n) ∈ news) (h2 : (b, ({ cls := .type "list", data := .seq #[] k } : Obj)) ∈ news) (hd : Okd d) (ht : ps.map (·.1) = Txt.split d (Str.ofString "/")) (hu : A.units + 64 < cLine)
    (h : Q (.bool false) s) : wpAny (model prog w) A (compareOp .Eq (.ref a) (.ref b)) Q E s := by
  refine eq_strs (qs := []) N h1 h2 rfl (okd_pieces hd ht) (fun p hp => absurd hp (by simp)) hu ?_
  rw [pieces_ne ht]; exact h
end
section
open PySem.Spec PySem.Calls
theorem none_ne_nil {prog : Program} {w : World} {A : Around} {E : Value → Shared → Prop} {s : Shared} {h₀ : Heap} {L b : Addr} {news : List (Addr × Obj)} {k : Nat} {Q : Value → Shared → Prop}
    (N : News h₀ L s.heap news) (h2 : (b, ({ cls := .type "list", data := .seq #[] k } : Obj)) ∈ news) (hu : A.units + 64 < cLine)
    (h : Q (.bool false) s) : wpAny (model prog w) A (compareOp .Eq .none (.ref b)) Q E s := by
  refine eq_dataH .none (reads_list_at (N.get h2) rfl rfl .nil) (by decide) (by decide) hu ?_
  simpa [PyData.eqv] using h
end
end Mine
end
section
open PySem PySem.W PyProof.Rows
namespace Mine
theorem str_app (a b : Str) : (a ++ b).cps.toList = a.cps.toList ++ b.cps.toList := Array.toList_append
theorem join_none : ∀ (ps : List Str), (Str.join (Str.ofString "") ps).cps.toList = (ps.map (·.cps.toList)).flatten
  | [] => rfl
  | [p] => by show p.cps.toList = _; simp
  | p :: q :: r => by
    have ih := join_none (q :: r)
    show (p ++ (Str.ofString "" : Str) ++ Str.join (Str.ofString "") (q :: r)).cps.toList = _
    rw [str_app, str_app, ih]
    have e : (Str.ofString "").cps.toList = [] := by decide +kernel
    rw [e]
    simp
theorem item_ok {i : Int} (h0 : 0 ≤ i) (h1 : i < 8) : ∀ c ∈ (Txt.item (Str.ofString "//0189:.") i).cps.toList, okSign c = true := by
  have h : i = 0 ∨ i = 1 ∨ i = 2 ∨ i = 3 ∨ i = 4 ∨ i = 5 ∨ i = 6 ∨ i = 7 := by omega
  have key : ∀ j : Int, (Txt.item (Str.ofString "//0189:.") j).cps.toList.all okSign = true → ∀ c ∈ (Txt.item (Str.ofString "//0189:.") j).cps.toList, okSign c = true := fun j hj c hc => List.all_eq_true.mp hj c hc
  rcases h with h | h | h | h | h | h | h | h <;> subst h <;> exact key _ (by decide +kernel)
theorem text_okd {xs ys : List Int} (hx : xs.length ≤ 63) (hy : ys.length ≤ xs.length) (hl : (Txt.join (Str.ofString "") (ys.map fun a => Txt.item (Str.ofString "//0189:.") (a.fmod 8))).length = ys.length) :
    Okd (Str.ofString "10/8/" ++ Txt.join (Str.ofString "") (ys.map fun a => Txt.item (Str.ofString "//0189:.") (a.fmod 8))) := by
  refine ⟨?_, fun c hc => ?_⟩
  · have e : (Str.ofString "10/8/" ++ Txt.join (Str.ofString "") (ys.map fun a => Txt.item (Str.ofString "//0189:.") (a.fmod 8))).length = (Str.ofString "10/8/").length + (Txt.join (Str.ofString "") (ys.map fun a => Txt.item (Str.ofString "//0189:.") (a.fmod 8))).length := Array.size_append
    have e5 : (Str.ofString "10/8/").length = 5 := by decide +kernel
    rw [e, hl, e5]
    omega
  · rw [str_app, List.mem_append] at hc
    rcases hc with hc | hc
    · have e5 : (Str.ofString "10/8/").cps.toList.all okSign = true := by decide +kernel
      exact List.all_eq_true.mp e5 c hc
    · have e : Txt.join (Str.ofString "") (ys.map fun a => Txt.item (Str.ofString "//0189:.") (a.fmod 8)) = Str.join (Str.ofString "") (ys.map fun a => Txt.item (Str.ofString "//0189:.") (a.fmod 8)) := StrLaws.glued_eq_join _ _
      rw [e, join_none, List.mem_flatten] at hc
      obtain ⟨l, hl', hc⟩ := hc
      obtain ⟨p, hp, rfl⟩ := List.mem_map.mp hl'
      obtain ⟨a, _, rfl⟩ := List.mem_map.mp hp
      exact item_ok (Int.fmod_nonneg_of_pos a (by decide)) (Int.fmod_lt_of_pos a (by decide)) c hc
section
variable {prog : Program} {w : World} {A : Around} {E : Value → Shared → Prop} {s : Shared} {t u : Tok} {Q : Value → Shared → Prop}
theorem add_okd {x y : Str} (h : Okd (x ++ y)) (k : ∀ d t' tk, Okd d → Q (.str d t') { s with toks := tk }) : wpAny (model prog w) A (binaryOp .Add (.str x t) (.str y u)) Q E s := by
  refine add_str (fun t' tk => k _ t' tk h) ?_
  have e : (x ++ y).length = x.length + y.length := Array.size_append
  have := h.1
  rw [e] at this
  rw [sizeLine_eq]; omega
end
end Mine
end
section
open PySem PySem.W PyProof.Rows PySem.Spec PySem.Calls
namespace Mine
theorem sv_push (ps : List (Str × Tok)) (x : Str) (t : Tok) : (strValues ps).toArray.push (.str x t) = (strValues (ps ++ [(x, t)])).toArray := by
  simp [strValues]
theorem sv_len (ps : List (Str × Tok)) : (strValues ps).length = ps.length := List.length_map ..
section
variable {prog : Program} {w : World} {A : Around} {E : Value → Shared → Prop} {s : Shared} {h₀ : Heap} {L D b : Addr} {m : Str → Option Value} {news news' : List (Addr × Obj)} {ps qs : List (Str × Tok)} {p : Str × Tok} {n k : Nat} {x y : Str} {t u : Tok}
theorem append_strs {Q : Value → Shared → Prop} (F : Fr h₀ L s.heap m) (N : News h₀ L s.heap news) (hz : ps.length ≤ 1000) (U : Upd D (listObj ps n) (listObj (ps ++ [(x, t)]) (n + 1)) news news')
    (h : ∀ h', Fr h₀ L h' m → News h₀ L h' news' → Q .none { s with heap := h' }) : wpAny (model prog w) A (call (.builtin "list.append") [.ref D, .str x t]) Q E s := by
  refine append_K (its := (strValues ps).toArray) (n := n) (news' := news') F N ?_ h ?_
  · rw [sv_push]; exact U
  · rw [List.size_toArray, sv_len, sizeLine_eq]; omega
theorem last_strs {value slice : PySem.Expr} {Q : Value → Shared → Prop} (N : News h₀ L s.heap news) (hm : (D, listObj (ps ++ [(x, t)]) n) ∈ news) (h : Q (.str x t) s)
    (hs : subscripted slice false (.ref D) (.int (-1) u) = operate [.ref D, .int (-1) u] (getItem (.ref D) (.int (-1) u)) := by with_unfolding_all rfl) :
    wpAny (model prog w) A (subscriptTail value slice (.ref D) (.int (-1) u)) Q E s := by
  refine kde_neg (j := ps.length) (News.isList N hm) (by decide) (by decide) ?_ ?_ h hs
  · rw [sv_len, List.length_append, List.length_singleton, PySem.seqIndex_neg (by decide) (by omega)]
    congr 1; omega
  · simp [strValues]
theorem setlast_strs {Q : Unit → Shared → Prop} (F : Fr h₀ L s.heap m) (N : News h₀ L s.heap news) (U : Upd D (listObj (ps ++ [p]) n) (listObj (ps ++ [(y, u)]) n) news news')
    (h : ∀ h', Fr h₀ L h' m → News h₀ L h' news' → Q () { s with heap := h' }) : wpAny (model prog w) A (setItem (.ref D) (.int (-1) t) (.str y u)) Q E s := by
  refine ki_setNeg (its := (strValues (ps ++ [p])).toArray) (n := n) (j := ps.length) (q := strValues (ps ++ [(y, u)])) F N (by decide) (by decide) ?_ ?_ U h
  · rw [List.size_toArray, sv_len, List.length_append, List.length_singleton, PySem.seqIndex_neg (by decide) (by omega)]
    congr 1; omega
  · have key : ∀ (qs : List (Str × Tok)), ki_setL (strValues (qs ++ [p])) qs.length (.str y u) = some (strValues (qs ++ [(y, u)])) := by
      intro qs
      induction qs with
      | nil => rfl
      | cons q qs ih =>
        show ki_setL (.str q.1 q.2 :: strValues (qs ++ [p])) (qs.length + 1) _ = _
        rw [ki_setL, ih]
        rfl
    exact key ps
theorem extend_strs {Q : Value → Shared → Prop} (F : Fr h₀ L s.heap m) (N : News h₀ L s.heap news) (hb : (b, listObj qs k) ∈ news) (hq : qs ≠ []) (hz : ps.length + qs.length ≤ 1000) (U : Upd D (listObj ps n) (listObj (ps ++ qs) (n + 1)) news news')
    (h : ∀ h', Fr h₀ L h' m → News h₀ L h' news' → Q .none { s with heap := h' }) : wpAny (model prog w) A (call (.builtin "list.extend") [.ref D, .ref b]) Q E s := by
  refine kl_extend (its := (strValues ps).toArray) (its2 := (strValues qs).toArray) (n := n) (n2 := k) (l := strValues (ps ++ qs)) F N hb ?_ ?_ U ?_ ?_ ?_ h
  · simp [strValues]
  · simpa [strValues] using hq
  · rw [List.size_toArray, List.size_toArray, sv_len, sv_len]
    have : Builtin.List.listTooLong (ps.length + qs.length) = false := by
      unfold Builtin.List.listTooLong
      have := sizeLine_eq
      simp
      omega
    rw [this]; simp
  · rw [List.toList_toArray, sv_len, sizeLine_eq]; omega
  · rw [List.size_toArray, List.size_toArray, sv_len, sv_len, sizeLine_eq]; omega
end
theorem sp_snoc {n : Nat} (hn : n ≠ 47) : ∀ (l : List Nat) (a : List (List Nat)) (b : List Nat), sp l = a ++ [b] → sp (l ++ [n]) = a ++ [b ++ [n]]
  | [], a, b, h => by
    cases a with
    | nil => simp [sp] at h; subst h; rw [List.nil_append, sp_free _ (by simpa using hn.symm)]; simp
    | cons x a => simp [sp] at h
  | c :: r, a, b, h => by
    by_cases hc : c = 47
    · rw [sp_cons_slash hc] at h
      rw [List.cons_append, sp_cons_slash hc]
      cases a with
      | nil => simp at h; exact absurd h.2 (sp_ne r)
      | cons x a =>
        simp only [List.cons_append, List.cons.injEq] at h
        rw [sp_snoc hn r a b h.2, ← h.1]; rfl
    · cases e : sp r with
      | nil => exact absurd e (sp_ne r)
      | cons p ps =>
        rw [sp_cons_other hc e] at h
        rw [List.cons_append]
        cases a with
        | nil =>
          simp at h
          have := sp_snoc hn r [] p (by rw [e, h.2]; rfl)
          rw [sp_cons_other hc this, ← h.1]; rfl
        | cons x a =>
          simp only [List.cons_append, List.cons.injEq] at h
          have := sp_snoc hn r (p :: a) b (by rw [e, h.2]; rfl)
          rw [sp_cons_other hc this, ← h.1]; rfl
theorem sp_slash (l : List Nat) : sp (l ++ [47]) = sp l ++ [[]] := by rw [sp_app]; rfl
theorem sp_mem_len : ∀ (l : List Nat), ∀ q ∈ sp l, q.length ≤ l.length
  | [], q, h => by simp [sp] at h; simp [h]
  | c :: r, q, h => by
    by_cases hc : c = 47
    · rw [sp_cons_slash hc] at h
      rcases List.mem_cons.mp h with rfl | h
      · simp
      · have := sp_mem_len r q h; simp; omega
    · cases e : sp r with
      | nil => exact absurd e (sp_ne r)
      | cons p ps =>
        rw [sp_cons_other hc e] at h
        rcases List.mem_cons.mp h with rfl | h
        · have := sp_mem_len r p (by rw [e]; exact List.mem_cons_self ..); simp; omega
        · have := sp_mem_len r q (by rw [e]; exact List.mem_cons_of_mem _ h); simp; omega
section
variable {prog : Program} {w : World} {A : Around} {E : Value → Shared → Prop} {s : Shared} {t u : Tok} {Q : Value → Shared → Prop}
theorem add_small {x y : Str} (hx : x.length ≤ 200) (hy : y.length ≤ 200) (k : ∀ t' tk, Q (.str (x ++ y) t') { s with toks := tk }) : wpAny (model prog w) A (binaryOp .Add (.str x t) (.str y u)) Q E s := by
  refine add_str k ?_
  rw [sizeLine_eq]; omega
theorem one_slash {n : Nat} (h : ((⟨#[n]⟩ : Str) == Str.ofString "/") = true) : n = 47 := by
  rw [slash_eq] at h
  have := eq_of_beq h
  injection this with this
  simpa using this
theorem no_slash {n : Nat} (h : ((⟨#[n]⟩ : Str) == Str.ofString "/") = false) : n ≠ 47 := by
  rintro rfl
  rw [slash_eq] at h
  simp at h
end
theorem okd_sp {d : Str} (hd : Okd d) {ps : List (Str × Tok)} (h : ∀ p ∈ ps, p.1.cps.toList ∈ sp d.cps.toList) : ∀ p ∈ ps, ∀ c ∈ p.1.cps.toList, c < 0x110000 := by
  intro p hp c hc
  have := h p hp
  rw [← split_sp] at this
  obtain ⟨y, hy, e⟩ := List.mem_map.mp this
  rw [← e] at hc
  exact okd_pieces hd (ps := (Txt.split d (Str.ofString "/")).map fun x => (x, 0)) (by rw [List.map_map]; simp [Function.comp_def]) (y, 0) (by rw [slash_eq]; exact List.mem_map_of_mem hy) c hc
theorem map_inj {ps qs : List (Str × Tok)} (h : ps.map (·.1.cps.toList) = qs.map (·.1.cps.toList)) : ps.map (·.1) = qs.map (·.1) := by
  have e (l : List (Str × Tok)) : l.map (·.1) = (l.map (·.1.cps.toList)).map fun x => (⟨x.toArray⟩ : Str) := by
    rw [List.map_map]; simp [Function.comp_def]
  rw [e, e, h]
theorem eq_same {prog : Program} {w : World} {A : Around} {E : Value → Shared → Prop} {s : Shared} {h₀ : Heap} {L a b : Addr} {news : List (Addr × Obj)} {ps qs : List (Str × Tok)} {n k : Nat} {Q : Value → Shared → Prop} {d : Str}
    (N : News h₀ L s.heap news) (h1 : (a, listObj ps n) ∈ news) (h2 : (b, listObj qs k) ∈ news) (hd : Okd d) (e1 : ps.map (·.1.cps.toList) = sp d.cps.toList) (e2 : qs.map (·.1.cps.toList) = sp d.cps.toList) (hu : A.units + 64 < cLine)
    (h : Q (.bool true) s) : wpAny (model prog w) A (compareOp .Eq (.ref a) (.ref b)) Q E s := by
  refine eq_strs N h1 h2 rfl (okd_sp hd fun p hp => by rw [← e1]; exact List.mem_map_of_mem hp) (okd_sp hd fun p hp => by rw [← e2]; exact List.mem_map_of_mem hp) hu ?_
  rw [decide_eq_true (map_inj (e1.trans e2.symm))]
  exact h
theorem good_turn {c : ClaimW} {cl : Str → Option Addr} {mean : ExcName → Option Value} {args : List WData} {s₁ s' : Shared} {L : Addr} {m : Str → Option Value} {hb : Heap} {b : Bool}
    (T : KtsTurn [] s₁.heap hb) (F : Fr hb L s'.heap m) (hg : s'.gens = #[]) (hn : ∀ cls, c.raises args cls = false) (hp : c.post args (.bool b) args = true) (hos : s'.os = s₁.os := by rfl) : GoodW c cl mean args s₁ (.ok (.ret (.bool b))) s' :=
  ⟨.inl ⟨_, _, _, rfl, hn, .bool b, hp, unshared_nil⟩, fun a o e => F.keep a o (T.other a o e (by simp)), hos, hg⟩
theorem cut_sp {l : List Nat} {k : Nat} (hk : k < l.length) (h1 : (l.take k).count 47 ≤ 1) (h2 : 2 ≤ (l.take (k + 1)).count 47) : sp (l.take k) ++ sp (l.drop (k + 1)) = sp l := by
  have e : l.take (k + 1) = l.take k ++ [l[k]] := by rw [List.take_succ_eq_append_getElem hk]
  rw [e, List.count_append] at h2
  have h47 : l[k] = 47 := by
    by_cases h : l[k] = 47
    · exact h
    · have : [l[k]].count 47 = 0 := by rw [List.count_eq_zero]; simpa using fun e => h e.symm
      omega
  rw [← sp_app]
  have e2 : l = l.take k ++ l[k] :: l.drop (k + 1) := by
    rw [← List.drop_eq_getElem_cons hk, List.take_append_drop]
  rw [h47] at e2
  rw [← e2]
theorem told_sp {x : Str} {ps : List (Str × Tok)} (h : ps.map (·.1) = Txt.split x (Str.ofString "/")) : ps.map (·.1.cps.toList) = sp x.cps.toList := by
  rw [← split_sp, ← slash_eq, ← h, List.map_map]; rfl
theorem sp_next {r x y : Str} {k : Nat} {d : List Nat} {ps qs : List (Str × Tok)} (hk : k < r.length) (h1 : (r.cps.toList.take k).count 47 ≤ 1) (h2 : 2 ≤ (r.cps.toList.take (k + 1)).count 47)
    (hx : x.cps.toList = r.cps.toList.take k) (hy : y.cps.toList = r.cps.toList.drop (k + 1)) (hq : qs.map (·.1) = Txt.split x (Str.ofString "/")) (hs : ps.map (·.1.cps.toList) ++ sp r.cps.toList = sp d) :
    (ps ++ qs).map (·.1.cps.toList) ++ sp y.cps.toList = sp d := by
  rw [List.map_append, told_sp hq, hx, hy, List.append_assoc, cut_sp (by simpa [Str.length] using hk) h1 h2, hs]
theorem sp_last {r x : Str} {d : List Nat} {ps qs : List (Str × Tok)} (hx : x.cps.toList = r.cps.toList.take r.length) (hq : qs.map (·.1) = Txt.split x (Str.ofString "/")) (hs : ps.map (·.1.cps.toList) ++ sp r.cps.toList = sp d) :
    (ps ++ qs).map (·.1.cps.toList) ++ [] = sp d := by
  rw [List.append_nil, List.map_append, told_sp hq, hx, List.take_of_length_le (by simp [Str.length]), hs]
end Mine
end
section
open PySem PySem.W PyProof.Rows
namespace Mine
theorem own1a : (ownsOf hd.view_39)[0]'(by decide +kernel) ∈ ownsOf hd.view_39 := List.getElem_mem _
theorem own1b : ((ownsOf hd.view_39)[0]'(by decide +kernel)).bm = [.type "ValueError", .type "Exception", .type "BaseException", .type "object"] := by decide +kernel
theorem own1c (P : Params) : nsIn (hd.heap_39 P) mainGlobals ((ownsOf hd.view_39)[0]'(by decide +kernel)).name = some (some (.ref 24)) := by kernel_rfl
end Mine
local macro_rules | `(tactic| k_room) => `(tactic| ktr_room)
local macro_rules | `(tactic| ke_room) => `(tactic| ktr_units)
local macro_rules | `(tactic| k_units) => `(tactic| ktr_units)
local macro_rules | `(tactic| walk_at "call builtin:str.join") => `(tactic| (refine' Mine.join_told ?k1 ?k2 ?k3 ?_; (case k1 => first | assumption | exact News.isList (by k_asm) (by k_mem)); (case k2 => assumption); (case k3 => assumption); intro _ _))
local macro_rules | `(tactic| walk_at "call builtin:str.split") => `(tactic| (refine' Mine.split_told ?F ?N ?d ?_; (case F => k_asm); (case N => k_asm); (case d => assumption); intro D' ps' h' k' e' el' F' N' l1 il'; (try simp only [AllLt, and_true] at l1); (try k_sweep)))
local macro_rules | `(tactic| walk_at "pyReprObj str") => `(tactic| (refine' Mine.repr_ok ?k1 ?_; (case k1 => assumption); intro _ _ _ _ _))
local macro_rules | `(tactic| walk_at "noteFrame ref") => `(tactic| (k_here; (with_reducible show wpAny _ _ (noteFrame _ _) (fun _ s₂ => wpAny _ _ (setFlight _ none) (fun _ s₃ => wpAny _ _ (handleBy _ _ (ExceptHandler.ExceptHandler (some (Expr.Name _ _)) (some _) _ _ :: _)) _ _ s₃) _ s₂) _ _); k_dflt (refine' Mine.caught_own ?R ?F ?K ?U ?XB ?TB ?D ?T0 ?ex ?q ?_; (case R => assumption); (case F => assumption); (case K => assumption); (case U => assumption); (case XB => assumption); (case TB => assumption); (case D => assumption); (case T0 => first | assumption | exact KtsTurn.refl); (case ex => k_is); (case q => kts_isx); k_whole); intro h' g' tk' d₁ ws' sl₁ d₂ nt' sl₂ T' F' N' ew' K' X' P' D'; (try k_lift K'); (try k_sweep)))
local macro_rules | `(tactic| walk_at "call type:type") => `(tactic| (k_here; (with_reducible show wpAny _ _ (call (Value.type "type") [Value.ref _]) _ _ _); k_dflt (refine' Mine.type_exc ?N ?h ?_; (case N => k_asm); (case h => k_mem); k_whole)))
local macro_rules | `(tactic| walk_at "getAttr ref") => `(tactic| (k_here; (with_reducible show wpAny _ _ (getAttr (Value.ref _) (PySem.Str.ofString "args") _) _ _ _); k_dflt (refine' Mine.args_exc PySem.F.attrBase_ValueError ?F ?T Mine.own1a Mine.own1b ?X (Mine.own1c _) ?N ?h ?h0 ?_; (case F => k_asm); (case T => k_asm); (case X => k_asm); (case N => k_asm); (case h => k_mem); (case h0 => assumption); k_whole)))
local macro_rules | `(tactic| kts_go) => `(tactic| (refine' code_defS ?k1 ?k2 ?k3 ?k4 ?k5 ?XB ?TB ?D ?T0 ?kA ?k6 ?k7 ?k8 ?k9 ?kB ?_ ?cK ?c2 ?c3 ?c4 ?c5; (case kA => exact rfl); (case k2 => k_asm); (case k1 => k_asm); (case XB => assumption); (case TB => assumption); (case D => assumption); (case T0 => first | assumption | exact KtsTurn.refl); (case k3 => k_asm); (case k4 => k_asm); (case k5 => k_asm); (case k6 => k_is); (case k7 => k_is); (case k8 => k_room); (case k9 => first | exact binds_K (by k_in) rfl (by k_is) rfl rfl rfl | exact BindsTo.of_eq rfl | fail "kts_go: no rule for these arguments"); (case kB => exact locs rfl); (case cK => first | assumption | exact rfl); (case c2 => exact rfl); (case c3 => exact rfl); (case c4 => exact rfl); (case c5 => decide); k_whole; intro g' L' h' FG' F' N' B' X' T' D'; (try dsimp only); (try k_lift B'); (try k_fold)))
local macro_rules | `(tactic| walk_at "compareOp Eq ref ref") => `(tactic| (k_here; (with_reducible show wpAny _ _ (compareOp CmpOp.Eq (Value.ref _) (Value.ref _)) _ _ _); k_dflt (refine' Mine.eq_tup1 ?N ?h1 ?h2 ?e ?o ?u ?_; (case N => k_asm); (case h1 => k_mem); (case h2 => k_mem); (case e => exact Mine.words_eq (by assumption)); (case o => exact Mine.words_ok (Mine.okd_lt (by assumption)) (by assumption)); (case u => ktr_units); k_whole)))
namespace Mine
abbrev P1 : Program := PySem.Challenge.rw_km0038_01.row.prog
abbrev fs (outer : List Env) : List Addr := outer.filterMap (·.frame)
abbrev at_ (dp un : Nat) (gd : Option (List Code)) (env : Env) (outer : List Env) : Around := { handled := none, depth := dp, frames := some (env :: outer), guards := gd, units := un }
set_option maxRecDepth 100000 in
set_option maxHeartbeats 8000000 in
theorem told_spec (w : World) {mean : ExcName → Option Value} {mg mb : Str → Option Value} {d : Str} {dp un : Nat} {gd : Option (List Code)} {cn : Str} {cs : Scope} {a : Addr} {ccd : Value} {outer : List Env} {A₀ : Around} {base h₀ g₀ : Heap} {L : Addr} {m : Str → Option Value}
    {news : List (Addr × Obj)} {s : Shared} {tk0 : Tok} {Q E : Value → Shared → Prop}
    (B : Below A₀ base outer h₀) (F : Fr h₀ L s.heap m) (X : (hd.heap_39 w.params).In h₀) (N : News h₀ L s.heap news) (T : Top hd.view_39 [] mean mg mb h₀) (hk : cs.kind = .function) (XB : (hd.heap_39 w.params).In base) (TB : Top hd.view_39 [] mean mg mb base)
    (D : KtsDicts (outer.filterMap (·.frame)) h₀) (T0 : KtsTurn (outer.filterMap (·.frame)) g₀ h₀) (hok : Okd d) (hdp : dp + 3 < recursionLimit) (hu : un + 200 < cLine)
    (rN : ∀ h₀' h' tk', KtsTurn (fs outer) g₀ h₀' → Fr h₀' L h' m → News h₀' L h' news → Below A₀ base outer h₀' → (hd.heap_39 w.params).In h₀' → Top hd.view_39 [] mean mg mb h₀' → KtsDicts (fs outer) h₀' → 2 ≤ d.cps.toList.count 47 → Q .none { s with heap := h', toks := tk' })
    (rL : ∀ h₀' h' tk' l ps n, KtsTurn (fs outer) g₀ h₀' → Fr h₀' L h' m → News h₀' L h' ((l, listObj ps n) :: news) → AllLt l news → Below A₀ base outer h₀' → (hd.heap_39 w.params).In h₀' → Top hd.view_39 [] mean mg mb h₀' → KtsDicts (fs outer) h₀' → d.cps.toList.count 47 < 2 →
      ps.map (·.1) = Txt.split d (Str.ofString "/") → Q (.ref l) { s with heap := h', toks := tk' }) :
    wpAny (model P1 w) (at_ dp un gd (envOf cn cs L a ccd) outer) (call (.ref 41) [.str d tk0]) Q E s := by
  have hq : PySem.Challenge.rw_km0038_01 = PySem.Challenge.rw_km0038_01 ∧ hd.heap_39 = hd.heap_39 := ⟨rfl, rfl⟩
  revert hq
  k_fill
  intro hq
  w_on
  have hl100 := hok.1
  have hlen := split_len d
  have hocc := occ_count d
  refine wpAny_call ?_
  k_dflt kts_go
  w_strict k_steps
  all_goals first
    | exact rN _ _ _ (by first | assumption | exact T0) (by k_asm) (News.tail' (by k_asm)) (by first | assumption | exact B) (by first | assumption | exact X) (by first | assumption | exact T) (by first | assumption | exact D) (by omega)
    | exact rN _ _ _ (by first | assumption | exact T0) (by k_asm) (News.tail' (News.tail' (News.tail' (News.tail' (by k_asm))))) (by first | assumption | exact B) (by first | assumption | exact X) (by first | assumption | exact T) (by first | assumption | exact D) (by omega)
    | exact rL _ _ _ _ _ _ (by first | assumption | exact T0) (by k_asm) (by k_asm) (by assumption) (by first | assumption | exact B) (by first | assumption | exact X) (by first | assumption | exact T) (by first | assumption | exact D) (by omega) (by assumption)
    | (exfalso; simp only [hocc, decide_eq_true_eq, decide_eq_false_iff_not] at *; omega)
    | (exfalso; (rename (_ != _) = true => hne9); simp at hne9)
end Mine
end
section
open PySem PySem.W PyProof.Rows
local macro_rules | `(tactic| walk_at "mine pad") => `(tactic| skip)
local macro_rules | `(tactic| k_room) => `(tactic| ktr_room)
local macro_rules | `(tactic| ke_room) => `(tactic| ktr_units)
local macro_rules | `(tactic| k_units) => `(tactic| ktr_units)
local macro_rules | `(tactic| kts_go) => `(tactic| (refine' code_defS ?k1 ?k2 ?k3 ?k4 ?k5 ?XB ?TB ?D ?T0 ?kA ?k6 ?k7 ?k8 ?k9 ?kB ?_ ?cK ?c2 ?c3 ?c4 ?c5; (case kA => exact rfl); (case k2 => k_asm); (case k1 => k_asm); (case XB => assumption); (case TB => assumption); (case D => assumption); (case T0 => first | assumption | exact KtsTurn.refl); (case k3 => k_asm); (case k4 => k_asm); (case k5 => k_asm); (case k6 => k_is); (case k7 => k_is); (case k8 => k_room); (case k9 => first | exact binds_K (by k_in) rfl (by k_is) rfl rfl rfl | exact BindsTo.of_eq rfl | fail "kts_go: no rule for these arguments"); (case kB => exact locs rfl); (case cK => first | assumption | exact rfl); (case c2 => exact rfl); (case c3 => exact rfl); (case c4 => exact rfl); (case c5 => decide); k_whole; intro g' L' h' FG' F' N' B' X' T' D'; (try dsimp only); (try k_lift B'); (try k_fold)))
local macro_rules | `(tactic| walk_at "exec While Compare cons nil") => `(tactic| (refine Mine.stop_here ?_))
local macro_rules | `(tactic| walk_at "eval Name") => `(tactic| (k_here; k_dflt (refine' ld ?k1 ?k2 ?_; (case k1 => k_asm); (case k2 => first | assumption | ((try dsimp only); (repeat (first | (rw [if_pos rfl]) | (rw [if_neg (by decide)]))); first | assumption | exact rfl)); k_whole)))
local macro_rules | `(tactic| walk_at "WhlIf") => `(tactic| (refine Mine.whlif_cases ?_ ?_ <;> intro hw' <;> (simp only [decide_eq_true_eq, decide_eq_false_iff_not] at hw')))
local macro_rules | `(tactic| walk_at "WPost") => `(tactic| (refine Mine.stop_here ?_))
local macro_rules | `(tactic| walk_at "compareOp Eq none ref") => `(tactic| (k_here; (with_reducible show wpAny _ _ (compareOp CmpOp.Eq Value.none (Value.ref _)) _ _ _); k_dflt (refine' Mine.none_ne_nil ?N ?h2 ?u ?_; (case N => k_asm); (case h2 => k_mem); (case u => ktr_units); k_whole)))
local macro_rules | `(tactic| walk_at "call ref") => `(tactic| (refine Mine.stop_here ?_))
local macro_rules | `(tactic| walk_at "compareOp Eq ref ref") => `(tactic| (k_here; (with_reducible show wpAny _ _ (compareOp CmpOp.Eq (Value.ref _) (Value.ref _)) _ _ _); k_dflt (refine' Mine.told_ne_nil ?N ?h1 ?h2 ?o ?e ?u ?_; (case N => k_asm); (case h1 => k_mem); (case h2 => k_mem); (case e => assumption); (case o => first | assumption | exact Mine.okd_take (by assumption) (by simp only [Mine.fdiv2]; omega) (by simp only [Mine.fdiv2]; omega)); (case u => ktr_units); k_whole)))
namespace Mine
set_option maxRecDepth 100000 in
set_option maxHeartbeats 8000000 in
theorem long_spec (w : World) {mean : ExcName → Option Value} {mg mb : Str → Option Value} {d : Str} {dp un : Nat} {gd : Option (List Code)} {cn : Str} {cs : Scope} {a : Addr} {ccd : Value} {outer : List Env} {A₀ : Around} {base h₀ g₀ : Heap} {L : Addr} {m : Str → Option Value}
    {news : List (Addr × Obj)} {s : Shared} {tk0 : Tok} {Q E : Value → Shared → Prop}
    (B : Below A₀ base outer h₀) (F : Fr h₀ L s.heap m) (X : (hd.heap_39 w.params).In h₀) (N : News h₀ L s.heap news) (T : Top hd.view_39 [] mean mg mb h₀) (hk : cs.kind = .function) (XB : (hd.heap_39 w.params).In base) (TB : Top hd.view_39 [] mean mg mb base)
    (D : KtsDicts (outer.filterMap (·.frame)) h₀) (T0 : KtsTurn (outer.filterMap (·.frame)) g₀ h₀) (hok : Okd d) (hdp : dp + 10 < recursionLimit) (hu : un + 400 < cLine)
    (rI : ∀ h₀' h' tk' t' n, KtsTurn (fs outer) g₀ h₀' → Fr h₀' L h' m → News h₀' L h' news → Below A₀ base outer h₀' → (hd.heap_39 w.params).In h₀' → Top hd.view_39 [] mean mg mb h₀' → KtsDicts (fs outer) h₀' →
      n ≤ d.length → (d.cps.toList.take n).count 47 ≤ 1 → (n = d.length ∨ 2 ≤ (d.cps.toList.take (n + 1)).count 47) → Q (.int n t') { s with heap := h', toks := tk' }) :
    wpAny (model P1 w) (at_ dp un gd (envOf cn cs L a ccd) outer) (call (.ref 48) [.str d tk0]) Q E s := by
  have hq : PySem.Challenge.rw_km0038_01 = PySem.Challenge.rw_km0038_01 ∧ hd.heap_39 = hd.heap_39 := ⟨rfl, rfl⟩
  revert hq
  k_fill
  intro hq
  w_on
  have hl100 := hok.1
  refine wpAny_call ?_
  k_dflt (refine' code_defS ?k1 ?k2 ?k3 ?k4 ?k5 ?XB ?TB ?D ?T0 ?kA ?k6 ?k7 ?k8 ?k9 ?kB ?_ ?cK ?c2 ?c3 ?c4 ?c5; (case kA => exact rfl); (case k2 => k_asm); (case k1 => k_asm); (case XB => assumption); (case TB => assumption); (case D => assumption); (case T0 => assumption); (case k3 => k_asm); (case k4 => k_asm); (case k5 => k_asm); (case k6 => k_is); (case k7 => k_is); (case k8 => k_room); (case k9 => first | exact binds_K (by k_in) rfl (by k_is) rfl rfl rfl | exact BindsTo.of_eq rfl); (case kB => exact locs rfl); (case cK => assumption); (case c2 => exact rfl); (case c3 => exact rfl); (case c4 => exact rfl); (case c5 => decide); k_whole)
  intro g1 L1 h1 FG1 F1 N1 B1 X1 T1 D1
  (try dsimp only); (try k_lift B1); (try k_fold)
  w_strict k_steps
  unfold Stop
  rename Fr g1 L1 _ _ => F2
  rename News g1 L1 _ _ => N2
  obtain ⟨I, hI⟩ : ∃ I : Nat → Shared → Prop, I = (fun n s' => ∃ (lo hi : Nat) (t1 t2 : Tok) (m₁ : Str → Option Value) (h : Heap) (tk : Nat) (hb : Heap), s' = { s with heap := h, toks := tk } ∧ n = hi - lo ∧ lo ≤ hi ∧ hi ≤ d.length ∧
    (d.cps.toList.take lo).count 47 ≤ 1 ∧ (hi = d.length ∨ 2 ≤ (d.cps.toList.take (hi + 1)).count 47) ∧
    KtsTurn ((envOf cn cs L a ccd :: outer).filterMap (·.frame)) g1 hb ∧ Fr hb L1 h m₁ ∧ m₁ (Str.ofString "text") = some (.str d tk0) ∧ m₁ (Str.ofString "low") = some (.int lo t1) ∧ m₁ (Str.ofString "high") = some (.int hi t2) ∧
    News hb L1 h news ∧ Below (at_ dp un gd (envOf cn cs L a ccd) outer) base (envOf cn cs L a ccd :: outer) hb ∧ (hd.heap_39 w.params).In hb ∧ Top hd.view_39 [] mean mg mb hb ∧ KtsDicts ((envOf cn cs L a ccd :: outer).filterMap (·.frame)) hb) := ⟨_, rfl⟩
  refine while_ind ?hE I ?turn d.length ?start
  case hE => first | passes_own | with_unfolding_all passes_own
  case start =>
    rw [hI]
    exact ⟨0, d.length, _, _, _, _, _, g1, rfl, rfl, Nat.zero_le _, Nat.le_refl _, by simp, .inl rfl, KtsTurn.refl, F2, rfl, rfl, rfl, News.tail' N2, B1, X1, T1, D1⟩
  case turn =>
    intro n s' hIs
    have hIs' := hIs
    rw [hI] at hIs'
    clear hIs
    obtain ⟨lo, hi, t1, t2, m₁, h, tk, hb, rfl, hn, hlh, hhi, hc1, hc2, hT, hF, hm1, hm2, hm3, hN, hB, hX, hTp, hD⟩ := hIs'
    (try clear F2); (try clear N2); (try clear F1); (try clear N1); (try clear FG1); (try clear B1); (try clear X1); (try clear T1); (try clear D1)
    w_strict k_steps
    · unfold Stop
      with_unfolding_all refine' Mine.told_spec _ ?B ?F ?X ?N ?T ?hk ?XB ?TB ?D ?T0 ?ok ?dp ?un ?rN ?rL
      (case B => k_asm); (case F => k_asm); (case X => k_asm); (case N => k_asm); (case T => k_asm); (case hk => exact rfl); (case XB => assumption); (case TB => assumption); (case D => assumption); (case T0 => assumption)
      (case ok => exact Mine.okd_take (by assumption) (by simp only [Mine.fdiv2]; omega) (by simp only [Mine.fdiv2]; omega)); (case dp => ktr_room); (case un => ktr_units)
      (case rN =>
        intro hb9 h9 tk9 T9 F9 N9 B9 X9 P9 D9 c9
        rw [Mine.slice_take (by simp only [Mine.fdiv2]; omega) (by simp only [Mine.fdiv2]; omega)] at c9
        (try dsimp only); (try k_lift B9); (try k_sweep)
        w_strict k_steps
        unfold Stop
        rename Fr hb9 L1 _ _ => F8
        rename News hb9 L1 _ _ => N8
        dsimp only [WPost]
        rw [hI]
        obtain ⟨mid, hmid⟩ : ∃ mid : Nat, ((lo : Int) + hi + 1) / 2 - 1 = mid := ⟨(lo + hi + 1) / 2 - 1, by omega⟩
        have hmid' : (((lo : Int) + hi + 1) / 2).toNat = mid + 1 := by omega
        simp only [fdiv2, hmid, hmid'] at F8 c9
        have hlt : (lo : Int) < hi := by assumption
        exact ⟨mid - lo, by omega, lo, mid, t1, _, _, _, _, hb9, rfl, rfl, by omega, by omega, hc1, .inr c9, T9, F8, by ((try dsimp only); (repeat (first | (rw [if_pos rfl]) | (rw [if_neg (by decide)]))); (try first | assumption | exact rfl)), by ((try dsimp only); (repeat (first | (rw [if_pos rfl]) | (rw [if_neg (by decide)]))); (try first | assumption | exact rfl)), by ((try dsimp only); (repeat (first | (rw [if_pos rfl]) | (rw [if_neg (by decide)]))); (try first | assumption | exact rfl)), News.tail' N8, B9, X9, P9, D9⟩)
      (case rL =>
        intro hb9 h9 tk9 l9 ps9 n9 T9 F9 N9 o9 B9 X9 P9 D9 c9 e9
        have c9' := c9
        rw [Mine.slice_take (by simp only [Mine.fdiv2]; omega) (by simp only [Mine.fdiv2]; omega)] at c9'
        (try dsimp only); (try k_lift B9); (try k_sweep)
        w_strict k_steps
        unfold Stop
        rename Fr hb9 L1 _ _ => F8
        rename News hb9 L1 _ _ => N8
        dsimp only [WPost]
        rw [hI]
        obtain ⟨mid, hmid⟩ : ∃ mid : Nat, ((lo : Int) + hi + 1) / 2 = mid := ⟨(lo + hi + 1) / 2, by omega⟩
        simp only [fdiv2, hmid, Int.toNat_natCast] at F8 c9'
        have hlt : (lo : Int) < hi := by assumption
        exact ⟨hi - mid, by omega, mid, hi, _, t2, _, _, _, hb9, rfl, rfl, by omega, by omega, by omega, hc2, T9, F8, by ((try dsimp only); (repeat (first | (rw [if_pos rfl]) | (rw [if_neg (by decide)]))); (try first | assumption | exact rfl)), by ((try dsimp only); (repeat (first | (rw [if_pos rfl]) | (rw [if_neg (by decide)]))); (try first | assumption | exact rfl)), by ((try dsimp only); (repeat (first | (rw [if_pos rfl]) | (rw [if_neg (by decide)]))); (try first | assumption | exact rfl)), News.tail' (News.tail' N8), B9, X9, P9, D9⟩)
    · have e : lo = hi := by omega
      exact rI _ _ _ _ _ (by first | assumption | exact T0) (by k_asm) (by k_asm) (by first | assumption | exact B) (by first | assumption | exact X) (by first | assumption | exact T) (by first | assumption | exact D) (by omega) hc1 (by rw [e]; exact hc2)
end Mine
end
section
open PySem PySem.W PyProof.Rows
local macro_rules | `(tactic| walk_at "exec While Compare cons nil") => `(tactic| (refine Mine.stop_here ?_))
local macro_rules | `(tactic| walk_at "binaryOp Add str str") => `(tactic| first | (k_here; k_dflt (refine' Mine.add_small ?hx ?hy ?_; (case hx => omega); (case hy => exact Nat.le_of_ble_eq_true rfl); k_whole); intro t' tk') | (refine Mine.stop_here ?_))
local macro_rules | `(tactic| walk_at "InvEndN") => `(tactic| (refine Mine.stop_here ?_))
local macro_rules | `(tactic| walk_at "call builtin:list.append") => `(tactic| (k_here; (with_reducible show wpAny _ _ (call (Value.builtin _) [Value.ref _, Value.str _ _]) _ _ _); k_dflt (refine' Mine.append_strs ?k1 ?k2 ?z ?k3 ?_; (case k1 => k_asm); (case k2 => k_asm); (case k3 => k_upd); (case z => omega); k_whole); intro h' F' N'; (try k_sweep)))
local macro_rules | `(tactic| walk_at "subscriptTail Name UnaryOp ref int") => `(tactic| (k_here; (with_reducible show wpAny _ _ (subscriptTail _ _ (Value.ref _) (Value.int _ _)) _ _ _); k_dflt (refine' Mine.last_strs ?k1 ?k2 ?_ ?k6; (case k1 => k_asm); (case k2 => k_mem); (case k6 => with_unfolding_all rfl); k_whole)))
local macro_rules | `(tactic| walk_at "setItem ref int") => `(tactic| (k_here; (with_reducible show wpAny _ _ (setItem (Value.ref _) (Value.int _ _) (Value.str _ _)) _ _ _); k_dflt (refine' Mine.setlast_strs ?k1 ?k2 ?k3 ?_; (case k1 => k_asm); (case k2 => k_asm); (case k3 => k_upd); k_whole); intro h' F' N'; (try k_sweep)))
local macro_rules | `(tactic| k_room) => `(tactic| ktr_room)
local macro_rules | `(tactic| ke_room) => `(tactic| ktr_units)
local macro_rules | `(tactic| k_units) => `(tactic| ktr_units)
local macro_rules | `(tactic| walk_at "eval Name") => `(tactic| (k_here; k_dflt (refine' ld ?k1 ?k2 ?_; (case k1 => k_asm); (case k2 => first | assumption | ((try dsimp only); (repeat (first | (rw [if_pos rfl]) | (rw [if_neg (by decide)]))); first | assumption | exact rfl)); k_whole)))
local macro_rules | `(tactic| walk_at "WhlIf") => `(tactic| (refine Mine.whlif_cases ?_ ?_ <;> intro hw' <;> (simp only [decide_eq_true_eq, decide_eq_false_iff_not] at hw')))
local macro_rules | `(tactic| walk_at "WPost") => `(tactic| (refine Mine.stop_here ?_))
local macro_rules | `(tactic| walk_at "call ref") => `(tactic| (refine Mine.stop_here ?_))
local macro_rules | `(tactic| walk_at "compareOp Eq ref ref") => `(tactic| (k_here; (with_reducible show wpAny _ _ (compareOp CmpOp.Eq (Value.ref _) (Value.ref _)) _ _ _); first
  | (k_dflt (refine' Mine.told_ne_nil ?N ?h1 ?h2 ?o ?e ?u ?_; (case N => k_asm); (case h1 => k_mem); (case h2 => k_mem); (case e => assumption); (case o => first | assumption | exact Mine.okd_take (by assumption) (by simp only [Mine.fdiv2]; omega) (by simp only [Mine.fdiv2]; omega)); (case u => ktr_units); k_whole))
  | (k_dflt (refine' Mine.eq_same ?N ?h1 ?h2 ?o ?e ?f ?u ?_; (case N => k_asm); (case h1 => k_mem); (case h2 => k_mem); (case o => assumption); (case e => assumption); (case f => assumption); (case u => ktr_units); k_whole))
  | (refine Mine.stop_here ?_)))
local macro_rules | `(tactic| walk_at "call builtin:list.extend") => `(tactic| (k_here; (with_reducible show wpAny _ _ (call (Value.builtin _) [Value.ref _, Value.ref _]) _ _ _); k_dflt (refine' Mine.extend_strs ?F ?N ?b ?q ?z ?U ?_; (case F => k_asm); (case N => k_asm); (case b => k_mem); (case U => k_upd); (case q => assumption); (case z => omega); k_whole); intro h' F' N'; (try k_sweep)))
local macro_rules | `(tactic| walk_at "pyIter str") => `(tactic| (refine Mine.stop_here ?_))
namespace Mine
set_option maxRecDepth 100000 in
set_option maxHeartbeats 8000000 in
theorem fin : PySem.Challenge.rw_km0038_01.Holds := hd (by
  w_on
  w_strict (k_go0; (all_goals try k_fold); k_steps)
  unfold Mine.Stop
  refine add_okd (text_okd (xs := ?xs) ?_ ?_ ?_) ?_
  case xs => assumption
  · omega
  · exact List.length_filter_le _ _
  · assumption
  intro d td kd hok
  have hl100 := hok.1
  (try dsimp only)
  w_strict k_steps
  unfold Mine.Stop
  rename Fr _ _ _ _ => F1
  rename News _ _ _ _ => N1
  rename_i lx _ _ _ _ _
  with_unfolding_all refine' KStt.kst_text (σ := List (Str × Tok) × Nat) (fun c => [(_, listObj c.1 c.2)]) (fun c => []) (fun _ => True) [] (fun pre c => c.1.map (·.1.cps.toList) = sp (pre.map Int.toNat)) ([((Str.ofString ""), _)], 0) (by rfl) F1 N1 trivial (fun p hp => absurd hp (by simp)) ?kp ?_ ?_
  · rfl
  · intro c pre post n t u h tk own he ho _ hp F N
    obtain ⟨ps, nn⟩ := c
    (try dsimp only at hp F N)
    obtain ⟨init, x, tx, rfl⟩ : ∃ init x tx, ps = init ++ [(x, tx)] := by
      cases e : ps.reverse with
      | nil => rw [List.reverse_eq_nil_iff] at e; subst e; exact absurd hp.symm (sp_ne _)
      | cons q r => exact ⟨r.reverse, q.1, q.2, by rw [← List.reverse_reverse ps, e]; simp⟩
    have hpre : (pre.map Int.toNat).length + 1 ≤ d.length := by
      have := congrArg List.length he
      rw [KStt.codes_length] at this
      simp only [List.length_append, List.length_cons] at this
      rw [List.length_map]; omega
    have hlen : (init ++ [(x, tx)]).length ≤ 101 := by
      have := congrArg List.length hp
      rw [List.length_map, sp_length] at this
      have := List.count_le_length (a := 47) (l := pre.map Int.toNat)
      omega
    have hx : x.length ≤ 100 := by
      have := sp_mem_len (pre.map Int.toNat) x.cps.toList (by rw [← hp]; simp)
      have e : x.length = x.cps.toList.length := by simp [Str.length]
      omega
    have hn1 : (⟨#[n]⟩ : Str).length = 1 := rfl
    clear F1 N1
    w_strict k_steps
    · unfold Mine.Stop
      rename Fr _ _ _ _ => F8
      rename News _ _ _ _ => N8
      have hn := one_slash (by assumption)
      subst hn
      obtain ⟨tt, N8⟩ : ∃ tt, News _ _ _ ((_, listObj (init ++ [(x, tx)] ++ [(Str.ofString "", tt)]) (nn + 1)) :: own) := ⟨_, N8⟩
      refine InvEndN.intro F8 N8 (nx := [(_, listObj (init ++ [(x, tx)] ++ [(Str.ofString "", tt)]) (nn + 1))]) ⟨(_, nn + 1), rfl, trivial, (by simp), (fun z hz _ _ => by simp [hz, kstB]), ?_⟩ rfl ?_ ?_
      · simp only [List.map_append, List.map_cons, List.map_nil] at hp ⊢
        rw [hp]
        exact (sp_slash _).symm
      · intro p hp; rw [List.mem_singleton.mp hp]; exact List.mem_cons_self ..
      · intro p hp; exact List.mem_cons_of_mem _ hp
    · unfold Mine.Stop
      rename Fr _ _ _ _ => F8
      rename News _ _ _ _ => N8
      have hn := no_slash (by assumption)
      obtain ⟨tt, N8⟩ : ∃ tt, News _ _ _ ((_, listObj (init ++ [(x ++ ⟨#[n]⟩, tt)]) nn) :: own) := ⟨_, N8⟩
      refine InvEndN.intro F8 N8 (nx := [(_, listObj (init ++ [(x ++ ⟨#[n]⟩, tt)]) nn)]) ⟨(_, nn), rfl, trivial, (by simp), (fun z hz _ _ => by simp [hz, kstB]), ?_⟩ rfl ?_ ?_
      · simp only [List.map_append, List.map_cons, List.map_nil] at hp ⊢
        rw [sp_snoc (by simpa using hn) _ _ _ hp.symm, str_app]
        rfl
      · intro p hp; rw [List.mem_singleton.mp hp]; exact List.mem_cons_self ..
      · intro p hp; exact List.mem_cons_of_mem _ hp
  · intro c u h tk _ hp F N
    (try dsimp only)
    clear F1 N1
    have hdue : c.1.map (·.1.cps.toList) = sp d.cps.toList := by
      have e : (KStt.codes d).map Int.toNat = d.cps.toList := by
        unfold KStt.codes
        rw [List.map_map]; simp [Function.comp_def]
      rw [e] at hp; exact hp
    clear hp
    w_strict k_steps
    unfold Stop
    rename Fr _ _ _ _ => F8
    rename News _ _ _ _ => N8
    rename Top _ _ _ _ _ _ => TT
    rename Below _ _ _ _ => K0
    rename PySem.W.Frag.In _ _ => KX
    rename PySem.Shared => s1
    rename PySem.World => w
    obtain ⟨mean, mg, mb, TT'⟩ : ∃ mean mg mb, Top hd.view_39 [] mean mg mb s1.heap := ⟨_, _, _, TT⟩
    have KX' : (hd.heap_39 w.params).In s1.heap := KX
    have K0' : Below callerA s1.heap [] s1.heap := K0
    obtain ⟨I, hI⟩ : ∃ I : Nat → Shared → Prop, I = fun n s' => ∃ (rv : Option (Str × Tok)) (ps : List (Str × Tok)) (np : Nat) (lp ld : Addr) (m₁ : Str → Option Value) (h : Heap) (tk : Nat) (hb : Heap), s' = { s1 with heap := h, toks := tk } ∧
      n = (match rv with | none => 0 | some r => r.1.length + 1) ∧ KtsTurn [] s1.heap hb ∧ Fr hb s1.heap.objs.size h m₁ ∧ m₁ (Str.ofString "rest") = some (match rv with | none => .none | some r => .str r.1 r.2) ∧ m₁ (Str.ofString "pieces") = some (.ref lp) ∧
      m₁ (Str.ofString "due") = some (.ref ld) ∧ @LT.lt Nat _ ld lp ∧ News hb s1.heap.objs.size h [(lp, listObj ps np), (ld, listObj c.1 c.2)] ∧ Below callerA s1.heap [] hb ∧ (hd.heap_39 w.params).In hb ∧ Top hd.view_39 [] mean mg mb hb ∧
      ps.map (·.1.cps.toList) ++ (match rv with | none => [] | some r => sp r.1.cps.toList) = sp d.cps.toList ∧ (match rv with | none => True | some r => Okd r.1) := ⟨_, rfl⟩
    refine while_ind ?hE I ?turn (d.length + 1) ?start
    case hE => first | passes_own | with_unfolding_all passes_own
    case start =>
      rw [hI]
      exact ⟨some (d, td), [], 0, _, _, _, _, _, s1.heap, rfl, rfl, KtsTurn.refl, F8, rfl, rfl, rfl, (by assumption), N8, K0', KX', TT', by simp, hok⟩
    case turn =>
      intro n s' hIs
      have hIs' := hIs
      rw [hI] at hIs'
      clear hIs
      obtain ⟨rv, ps, np, lp, ld, m₁, h, tk, hb, rfl, hn, hT, hF, hm1, hm2, hm3, hlt, hN, hB, hX, hTp, hsp, hrv⟩ := hIs'
      clear F8 N8
      cases rv with
      | none =>
        (try dsimp only at hm1 hsp hrv)
        rw [List.append_nil] at hsp
        w_strict k_steps
        dsimp only
        refine good_turn hT hF (by assumption) (raisesW_false ?_) ?_
        · wrow_none_raised
        · wrow_post
      | some r =>
        obtain ⟨r, tr⟩ := r
        (try dsimp only at hm1 hsp hrv hn)
        have hrl := hrv.1
        w_strict k_steps
        unfold Stop
        with_unfolding_all refine' Mine.long_spec _ (outer := []) (g₀ := s1.heap) ?B ?F ?X ?N ?T ?hk ?XB ?TB ?D ?T0 ?ok ?dp ?un ?rI
        (case B => exact hB); (case F => k_asm); (case X => k_asm); (case N => k_asm); (case T => k_asm); (case hk => exact rfl); (case XB => exact KX'); (case TB => exact TT'); (case D => intro b hb; cases hb); (case T0 => exact hT); (case ok => exact hrv)
        (case dp => ktr_room); (case un => ktr_units)
        (case rI =>
          intro hb9 h9 tk9 tn9 k9 T9 F9 N9 B9 X9 P9 D9 a9 b9 c9
          (try dsimp only); (try k_lift B9); (try k_sweep)
          w_strict k_steps
          unfold Stop
          have okt : Okd (Txt.slice r none (some (k9 : Int))) := okd_take hrv (by omega) (by omega)
          with_unfolding_all refine' Mine.told_spec _ (outer := []) (g₀ := s1.heap) ?B ?F ?X ?N ?T ?hk ?XB ?TB ?D ?T0 ?ok ?dp ?un ?rN ?rL
          (case B => exact B9); (case F => k_asm); (case X => k_asm); (case N => k_asm); (case T => k_asm); (case hk => exact rfl); (case XB => exact KX'); (case TB => exact TT'); (case D => intro b hb; cases hb); (case T0 => exact T9); (case ok => exact okt)
          (case dp => ktr_room); (case un => ktr_units)
          (case rN =>
            intro hb8 h8 tk8 T8 F8 N8 B8 X8 P8 D8 c8
            exfalso
            rw [Mine.slice_take (by omega) (by omega), Int.toNat_natCast] at c8
            omega)
          (case rL =>
            intro hb8 h8 tk8 l8 ps8 n8 T8 F8 N8 o8 B8 X8 P8 D8 c8 e8
            (simp only [AllLt, and_true] at o8)
            have q8 : ps8 ≠ [] := by
              rintro rfl
              exact split_ne _ _ e8.symm
            have z8 : ps8.length ≤ 2 := by
              have := congrArg List.length e8
              rw [List.length_map, split_len] at this
              omega
            have z7 : ps.length ≤ 101 := by
              have := congrArg List.length hsp
              rw [List.length_append, List.length_map, sp_length d.cps.toList] at this
              have := List.count_le_length (a := 47) (l := d.cps.toList)
              have e : d.length = d.cps.toList.length := by simp [Str.length]
              omega
            (try dsimp only); (try k_lift B8); (try k_sweep)
            w_strict k_steps
            all_goals unfold Stop
            all_goals rename Fr hb8 _ _ _ => F7
            all_goals rename News hb8 _ _ _ => N7
            · dsimp only [WPost]
              rw [hI]
              have hk : k9 < r.length := by omega
              have hsl : (Txt.slice r (some ((k9 : Int) + 1)) none).cps.toList = r.cps.toList.drop (k9 + 1) := by
                have := slice_drop (x := r) (k := (k9 : Int) + 1) (by omega) (by omega)
                rwa [show ((k9 : Int) + 1).toNat = k9 + 1 by omega] at this
              have htk : (Txt.slice r none (some (k9 : Int))).cps.toList = r.cps.toList.take k9 := by
                have := slice_take (x := r) (k := (k9 : Int)) (by omega) (by omega)
                rwa [Int.toNat_natCast] at this
              have hln : (Txt.slice r (some ((k9 : Int) + 1)) none).length = r.length - (k9 + 1) := by
                have e (y : Str) : y.length = y.cps.toList.length := by simp [Str.length]
                rw [e, hsl, List.length_drop, ← e]
              refine ⟨(Txt.slice r (some ((k9 : Int) + 1)) none).length + 1, by omega, some (Txt.slice r (some ((k9 : Int) + 1)) none, _), ps ++ ps8, _, lp, ld, _, _, _, hb8, rfl, rfl, T8, F7, by ((try dsimp only); (repeat (first | (rw [if_pos rfl]) | (rw [if_neg (by decide)]))); (try first | assumption | exact rfl)), by ((try dsimp only); (repeat (first | (rw [if_pos rfl]) | (rw [if_neg (by decide)]))); (try first | assumption | exact rfl)), by ((try dsimp only); (repeat (first | (rw [if_pos rfl]) | (rw [if_neg (by decide)]))); (try first | assumption | exact rfl)), hlt, News.tail' (News.tail' N7), B8, X8, P8, sp_next hk b9 (c9.resolve_left (by omega)) htk hsl e8 hsp, okd_drop hrv (by omega) (by omega)⟩
            · dsimp only [WPost]
              rw [hI]
              have hk : k9 = r.length := by omega
              subst hk
              have htk : (Txt.slice r none (some (r.length : Int))).cps.toList = r.cps.toList.take r.length := by
                have := slice_take (x := r) (k := (r.length : Int)) (by omega) (by omega)
                rwa [Int.toNat_natCast] at this
              refine ⟨0, by omega, none, ps ++ ps8, _, lp, ld, _, _, _, hb8, rfl, rfl, T8, F7, by ((try dsimp only); (repeat (first | (rw [if_pos rfl]) | (rw [if_neg (by decide)]))); (try first | assumption | exact rfl)), by ((try dsimp only); (repeat (first | (rw [if_pos rfl]) | (rw [if_neg (by decide)]))); (try first | assumption | exact rfl)), by ((try dsimp only); (repeat (first | (rw [if_pos rfl]) | (rw [if_neg (by decide)]))); (try first | assumption | exact rfl)), hlt, News.tail' (News.tail' N7), B8, X8, P8, sp_last htk e8 hsp, trivial⟩)))
end Mine
end
set_option maxRecDepth 100000 in
set_option maxHeartbeats 8000000 in
theorem PySem.Challenge.cw_km0038_01_holds : PySem.Challenge.rw_km0038_01.Holds := by
  exact Mine.fin
