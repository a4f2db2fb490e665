import PyProof.Rows.All
import Wide.All
import OpenK.AllK
import Wide.FinOn
import PySem.Challenge.RW_km0038_02
set_option Elab.async false
namespace Mine
open PySem PySem.W PyProof.Rows
set_option maxRecDepth 100000
set_option maxHeartbeats 8000000
open_top hd for PySem.Challenge.rw_km0038_02
end Mine
section
open PySem PySem.W PyProof.Rows
namespace Mine
end Mine
namespace Mine
section
variable {prog : Program} {w : World} {A : Around} {E : Value → Shared → Prop} {s : Shared} {t : Tok} {Q : Value → Shared → Prop}
end
end Mine
namespace Mine
end Mine
namespace Mine
section
variable {prog : Program} {w : World} {A : Around} {E : Value → Shared → Prop} {s : Shared} {t u : Tok} {Q : Value → Shared → Prop} {h₀ : Heap} {L : Addr} {m : Str → Option Value} {news : List (Addr × Obj)} {d : Str}
end
end Mine
namespace Mine
end Mine
namespace Mine
end Mine
end
section
open PySem PySem.W PyProof.Rows PySem.Spec PySem.Calls
namespace Mine
abbrev excAt (C : Addr) (d : Option Addr) (ws : Array Value) (sl : Array (Option Value)) : Obj := ⟨.ref C, d, .fields ws, sl⟩
abbrev tupAt (d : Option Addr) (vs : List Value) (n : Nat) (sl : Array (Option Value)) : Obj := ⟨.type "tuple", d, .seq vs.toArray n, sl⟩
section
variable {prog : Program} {w : World} {A₀ : Around} {E : Value → Shared → Prop} {s' : Shared} {base g g₀ G : Heap} {outer : List Env} {L a e t C : Addr} {m : Str → Option Value} {name : Str} {scope : Scope} {cd : Value}
  {vs : List Value} {n : Str} {b₀ : Stmt} {suite : List Stmt} {pos np : Pos} {rest : List ExceptHandler} {Q : Flow → Shared → Prop} {news : List (Addr × Obj)} {KF : Frag}
  {p : Program} {loose : List Str} {mean : ExcName → Option Value} {mg mb : Str → Option Value} {x : Str}
end
section
variable {prog : Program} {w : World} {A : Around} {E : Value → Shared → Prop} {s : Shared} {h₀ : Heap} {L e t C : Addr} {m : Str → Option Value} {news : List (Addr × Obj)} {d : Option Addr} {ws : Array Value} {sl : Array (Option Value)} {vs : List Value} {Q : Value → Shared → Prop}
theorem type_exc (N : News h₀ L s.heap news) (h : (e, excAt C d ws sl) ∈ news) (hq : Q (.ref C) s) : wpAny (model prog w) A (call (.type "type") [.ref e]) Q E s := by
  obtain ⟨hh, g, dr, tk, os⟩ := s
  exact call_type_obj (N.get h) rfl hq
theorem args_exc {bmB : List Value} {B : String} {expr : Bool} {p : Program} {loose : List Str} {mean : ExcName → Option Value} {mg mb : Str → Option Value} {o : OwnSpec} (FB : ExcAttrBase B bmB) (F : Fr h₀ L s.heap m) (T : Top p loose mean mg mb h₀)
    (ho : o ∈ ownsOf p) (hb : o.bm = bmB) {K : Frag} (X : K.In h₀) (hK : nsIn K mainGlobals o.name = some (some (.ref C)))
    (N : News h₀ L s.heap news) (h : (e, excAt C d ws sl) ∈ news) (h0 : ws[0]? = some (.ref t)) (hq : Q (.ref t) { s with toks := s.toks + 1 }) : wpAny (model prog w) A (getAttr (.ref e) "args" expr) Q E s := by
  obtain ⟨C', O, _⟩ := T.own o ho
  have e1 := mg_of X T.g hK
  rw [O.bound] at e1
  cases e1
  subst hb
  obtain ⟨hh, g, dr, tk, os⟩ := s
  exact args_of_own FB (O.keeps F.keep) (N.get h) rfl rfl h0 hq
end
end Mine
namespace Mine
section
variable {prog : Program} {w : World} {A : Around} {E : Value → Shared → Prop} {s : Shared} {h₀ : Heap} {L a b : Addr} {news : List (Addr × Obj)} {d : Option Addr} {sl : Array (Option Value)} {x y : Str} {t u : Tok} {n k : Nat} {Q : Value → Shared → Prop}
theorem eq_tup1 (N : News h₀ L s.heap news) (h1 : (a, tupAt d [.str x t] n sl) ∈ news) (h2 : (b, ({ cls := .type "tuple", data := .seq #[.str y u] k } : Obj)) ∈ news) (hxy : x = y) (hx : PyData.canLay0 (.str x) = true) (hu : A.units + 64 < cLine)
    (h : Q (.bool true) s) : wpAny (model prog w) A (compareOp .Eq (.ref a) (.ref b)) Q E s := by
  subst hxy
  have sh : SeqAt.shaped (.tuple [.str x]) = true := by
    unfold SeqAt.shaped
    have e : PyData.canLay0 (.tuple [.str x]) = true := by simp only [PyData.canLay0, PyData.canLayAll0, Bool.and_true]; simpa only [PyData.canLay0] using hx
    rw [e]; rfl
  refine eq_dataH (reads_tuple_at (N.get h1) rfl rfl (.cons (.str _ _) .nil)) (reads_tuple_at (N.get h2) rfl rfl (.cons (.str _ _) .nil)) sh sh hu ?_
  simpa [PyData.eqv, PyData.eqvAll] using h
end
end Mine
namespace Mine
theorem strOk_of_list {x : Str} (h : ∀ c ∈ x.cps.toList, c < 0x110000) : PyData.canLay0 (.str x) = true := by
  show PyData.strOk x = true
  unfold PyData.strOk
  rw [Array.all_eq_true']
  intro c hc
  simpa using h c (Array.mem_toList_iff.mpr hc)
end Mine
namespace Mine
def Stop (p : Prop) : Prop := p
theorem stop_here {p : Prop} (h : Stop p) : p := h
section
variable {prog : Program} {w : World} {A : Around} {E : Value → Shared → Prop} {env : Env} {test : PySem.Expr} {body orelse : List Stmt} {Q : Flow → Shared → Prop}
def WPost (I : Nat → Shared → Prop) (n : Nat) (Q : Flow → Shared → Prop) (f : Flow) (s : Shared) : Prop := match f with
  | .next => ∃ n', n' < n ∧ I n' s
  | .cont => ∃ n', n' < n ∧ I n' s
  | .brk => Q .next s
  | .ret v => Q (.ret v) s
end
end Mine
namespace Mine
end Mine
end
section
open PySem PySem.W PyProof.Rows PySem.Spec PySem.Calls
namespace Mine
section
variable {prog : Program} {w : World} {A : Around} {E : Value → Shared → Prop} {s : Shared} {h₀ : Heap} {L a b : Addr} {news : List (Addr × Obj)} {ps qs : List (Str × Tok)} {n k : Nat} {vs : Array Value} {Q : Value → Shared → Prop}
end
section
open PySem.Spec PySem.Calls
end
section
open PySem.Spec PySem.Calls
end
end Mine
end
section
open PySem PySem.W PyProof.Rows
namespace Mine
theorem str_app (a b : Str) : (a ++ b).cps.toList = a.cps.toList ++ b.cps.toList := Array.toList_append
theorem join_none : ∀ (ps : List Str), (Str.join (Str.ofString "") ps).cps.toList = (ps.map (·.cps.toList)).flatten
  | [] => rfl
  | [p] => by show p.cps.toList = _; simp
  | p :: q :: r => by
    have ih := join_none (q :: r)
    show (p ++ (Str.ofString "" : Str) ++ Str.join (Str.ofString "") (q :: r)).cps.toList = _
    rw [str_app, str_app, ih]
    have e : (Str.ofString "").cps.toList = [] := by decide +kernel
    rw [e]
    simp
section
variable {prog : Program} {w : World} {A : Around} {E : Value → Shared → Prop} {s : Shared} {t u : Tok} {Q : Value → Shared → Prop}
end
end Mine
end
section
open PySem PySem.W PyProof.Rows PySem.Spec PySem.Calls
namespace Mine
section
variable {prog : Program} {w : World} {A : Around} {E : Value → Shared → Prop} {s : Shared} {h₀ : Heap} {L D b : Addr} {m : Str → Option Value} {news news' : List (Addr × Obj)} {ps qs : List (Str × Tok)} {p : Str × Tok} {n k : Nat} {x y : Str} {t u : Tok}
end
section
variable {prog : Program} {w : World} {A : Around} {E : Value → Shared → Prop} {s : Shared} {t u : Tok} {Q : Value → Shared → Prop}
end
theorem good_turn {c : ClaimW} {cl : Str → Option Addr} {mean : ExcName → Option Value} {args : List WData} {s₁ s' : Shared} {L : Addr} {m : Str → Option Value} {hb : Heap} {b : Bool}
    (T : KtsTurn [] s₁.heap hb) (F : Fr hb L s'.heap m) (hg : s'.gens = #[]) (hn : ∀ cls, c.raises args cls = false) (hp : c.post args (.bool b) args = true) (hos : s'.os = s₁.os := by rfl) : GoodW c cl mean args s₁ (.ok (.ret (.bool b))) s' :=
  ⟨.inl ⟨_, _, _, rfl, hn, .bool b, hp, unshared_nil⟩, fun a o e => F.keep a o (T.other a o e (by simp)), hos, hg⟩
end Mine
end
section
open PySem PySem.W PyProof.Rows PySem.Spec PySem.Calls
namespace Mine
section
open LCg
variable {prog : Program} {w : World} {A : Around} {E : Value → Shared → Prop} {s : Shared} {h₀ : Heap} {L : Addr} {m : Str → Option Value} {env : Env}
theorem striter_st {I : Addr} {T : String} {y : Str} {t : Tok} : ∀ i (h h' : Heap) (o : Obj) (nw : List (Addr × Obj)), h.IsStrIter I T y t i → h.get? I = some o → h'.get? I = some o → (∀ b o, h₀.get? b = some o → h'.get? b = some o) → News h₀ L h' nw → True → h'.IsStrIter I T y t i :=
  fun i h h' o nw st e e' _ _ _ => by
    obtain ⟨o', q, r⟩ := st
    rw [e] at q; cases q
    exact ⟨o, e', r⟩
theorem comp_text {elt : Expr} {x y : Str} {scope : Scope} {cl : List (Str × Addr)} {Fin : List Value → List (Addr × Obj) → Prop} {news : List (Addr × Obj)} (g : Nat → Str)
    (turn : ∀ c t I oI C oC D m₂ ys h tk (E' : Value → Shared → Prop), c ∈ y.cps.toList → NsObj oC m₂ → m₂ x = some (.str ⟨#[c]⟩ t) → Fr h₀ L h m → News h₀ L h ((I, oI) :: (C, oC) :: (D, lst ys) :: news) → Off3 I C D news → ((@Ne Nat I C) ∧ (@Ne Nat I D) ∧ (@Ne Nat C D)) →
      wpAny (model prog w) A (eval elt (compEnvC scope cl C env)) (CompEnd h₀ L m { s with heap := h, toks := tk } I oI C oC D (lst ys) (fun _ => True) (fun v news' => news' = news ∧ ∃ t, v = .str (g c) t)) E' { s with heap := h, toks := tk })
    (fin : ∀ ps : List (Str × Tok), ps.map (·.1) = y.cps.toList.map g → Fin (strValues ps) news) : CompRest prog w A h₀ L m env elt x scope cl s (fun _ => True) (SignAt y) Fin y.cps.size 0 [] news := by
  have key : ∀ (j i : Nat) (ps : List (Str × Tok)), i + j = y.cps.size → ps.map (·.1) = (y.cps.toList.take i).map g → CompRest prog w A h₀ L m env elt x scope cl s (fun _ => True) (SignAt y) Fin j i (strValues ps) news := by
    intro j
    induction j with
    | zero =>
      intro i ps hi hp
      refine CompRest.zero (fin ps ?_)
      rw [hp, List.take_of_length_le (by rw [Array.length_toList]; omega)]
    | succ j ih =>
      intro i ps hi hp
      refine CompRest.succ ?_
      intro v I oI C oC D m₂ h tk E' hv hC hx F N off ne
      obtain ⟨c, t, hc, rfl⟩ := hv
      have hc' : y.cps.toList[i]? = some c := by rw [Array.getElem?_toList]; exact hc
      refine wpAny_mono (turn c t I oI C oC D m₂ _ h tk E' (List.mem_of_getElem? hc') hC hx F N off ne) (fun v s₂ hq => ?_) fun _ _ e => e
      obtain ⟨h', tk', nw, e, F', N', off', hS, hn, t', hy'⟩ := hq
      rw [hn] at N' off'
      refine ⟨h', tk', news, e, F', N', off', trivial, ?_⟩
      have e2 : strValues ps ++ [v] = strValues (ps ++ [(g c, t')]) := by rw [hy']; simp [strValues]
      show CompRest prog w A h₀ L m env elt x scope cl s (fun _ => True) (SignAt y) Fin j (i + 1) (strValues ps ++ [v]) news
      rw [e2]
      refine ih (i + 1) _ (by omega) ?_
      rw [List.take_add_one, hc', List.map_append, List.map_append, hp]
      rfl
  exact key y.cps.size 0 [] (by omega) (by simp)
end
end Mine
end
section
open PySem PySem.W PyProof.Rows
namespace Mine
def signs : List Nat := [48, 51, 37, 47, 46, 32, 39, 34, 92, 10, 13, 9, 0, 27, 127, 133, 160, 173, 233, 1635, 8203, 8232, 120792, 917505]
theorem any_toks {M : Model} {A : Around} {E : Value → Shared → Prop} {α : Type} {t : Sem α} {Q : α → Shared → Prop} {s : Shared} {h : Heap} {T : Nat} (k : ∀ n, wpAny M A t Q E { s with heap := h, toks := n }) : wpAny M A t Q E { s with heap := h, toks := T } := k _
def D7 : List (PyData × PyData) := [(.str ⟨#[92]⟩, .str ⟨#[92, 92]⟩), (.str ⟨#[10]⟩, .str ⟨#[92, 110]⟩), (.str ⟨#[13]⟩, .str ⟨#[92, 114]⟩), (.str ⟨#[9]⟩, .str ⟨#[92, 116]⟩), (.str ⟨#[0]⟩, .str (Str.ofString "\\x00")), (.str ⟨#[27]⟩, .str (Str.ofString "\\x1b")), (.str ⟨#[127]⟩, .str (Str.ofString "\\x7f"))]
def D5 : List (PyData × PyData) := [(.str ⟨#[133]⟩, .str (Str.ofString "\\x85")), (.str ⟨#[160]⟩, .str (Str.ofString "\\xa0")), (.str ⟨#[173]⟩, .str (Str.ofString "\\xad")), (.str ⟨#[8203]⟩, .str (Str.ofString "\\u200b")), (.str ⟨#[8232]⟩, .str (Str.ofString "\\u2028"))]
theorem fp_eq {enc : Str → PyData} {k : List (Str × Value)} {D D' : List (PyData × PyData)} (h : PyProof.V.FlatPairs enc k D) (e : D = D') : PyProof.V.FlatPairs enc k D' := e ▸ h
def D12 : List (PyData × PyData) := D7 ++ D5
def D13 : List (PyData × PyData) := D12 ++ [(.str ⟨#[917505]⟩, .str (Str.ofString "\\U000e0001"))]
def D14 (q : Nat) : List (PyData × PyData) := D13 ++ [(.str ⟨#[q]⟩, .str ⟨#[92, q]⟩)]
theorem len12 : D12.length ≤ sizeLine := by rw [sizeLine_eq]; decide
theorem len13 : D13.length ≤ sizeLine := by rw [sizeLine_eq]; decide
def escq (q c : Nat) : Str := ⟨(Builtin.Str.reprChar q c).toArray⟩
def Okt (d : Str) : Prop := d.length ≤ 64 ∧ ∀ c ∈ d.cps.toList, c ∈ signs

def toldOk (q c : Nat) : Bool := match PySem.Spec.lookup (.str ⟨#[c]⟩) (D14 q) with
  | some (.str x) => x == escq q c
  | some _ => false
  | none => escq q c == ⟨#[c]⟩
theorem told_all : (signs.all (toldOk 39) && signs.all (toldOk 34)) = true := by decide +kernel
theorem told_cases {q c : Nat} (hq : q = 39 ∨ q = 34) (hc : c ∈ signs) : PySem.Spec.lookup (.str ⟨#[c]⟩) (D14 q) = some (.str (escq q c)) ∨ (PySem.Spec.lookup (.str ⟨#[c]⟩) (D14 q) = none ∧ escq q c = ⟨#[c]⟩) := by
  have h : toldOk q c = true := by
    have := told_all
    rw [Bool.and_eq_true] at this
    rcases hq with rfl | rfl
    · exact List.all_eq_true.mp this.1 c hc
    · exact List.all_eq_true.mp this.2 c hc
  unfold toldOk at h
  split at h
  · rename_i x e
    rw [e, eq_of_beq h]; exact .inl rfl
  · cases h
  · rename_i e
    exact .inr ⟨e, eq_of_beq h⟩
end Mine
end
section
open PySem PySem.W PyProof.Rows
namespace Mine
theorem escq_len {q c : Nat} (hq : q = 39 ∨ q = 34) (hc : c ∈ signs) : (escq q c).length ≤ 10 := by
  have h : (signs.all (fun c => decide ((escq 39 c).length ≤ 10)) && signs.all (fun c => decide ((escq 34 c).length ≤ 10))) = true := by decide +kernel
  rw [Bool.and_eq_true] at h
  rcases hq with rfl | rfl
  · simpa using List.all_eq_true.mp h.1 c hc
  · simpa using List.all_eq_true.mp h.2 c hc
def repBody (q : Nat) (d : Str) : List Nat := d.cps.toList.flatMap (Builtin.Str.reprChar q)
theorem repBody_len {q : Nat} {d : Str} (hq : q = 39 ∨ q = 34) (hd : Okt d) : (repBody q d).length ≤ 640 := by
  have key : ∀ l : List Nat, (∀ c ∈ l, c ∈ signs) → (l.flatMap (Builtin.Str.reprChar q)).length ≤ 10 * l.length := by
    intro l
    induction l with
    | nil => intro _; simp
    | cons c r ih =>
      intro h
      have h1 := escq_len hq (h c (List.mem_cons_self ..))
      have h2 := ih fun x hx => h x (List.mem_cons_of_mem _ hx)
      have h3 : (escq q c).length = (Builtin.Str.reprChar q c).length := by simp [escq, Str.length]
      rw [List.flatMap_cons, List.length_append, List.length_cons]
      omega
  have := key d.cps.toList hd.2
  have h1 := hd.1
  have e : d.length = d.cps.toList.length := by simp [Str.length]
  unfold repBody
  omega
theorem fold_repr (q : Nat) : ∀ (l : List Nat) (acc : Array Nat), (l.foldl (fun out c => out ++ (Builtin.Str.reprChar q c).toArray) acc).toList = acc.toList ++ l.flatMap (Builtin.Str.reprChar q)
  | [], acc => by simp
  | c :: r, acc => by
    rw [List.foldl_cons, fold_repr q r, List.flatMap_cons]
    simp
theorem str_ext {a b : Str} (h : a.cps.toList = b.cps.toList) : a = b := by cases a; cases b; congr; exact Array.toList_inj.mp h
theorem repr_is {d x : Str} {q : Nat} (hq : reprQuote d = q) (hx : x.cps.toList = repBody q d) : (⟨#[q]⟩ : Str) ++ x ++ ⟨#[q]⟩ = reprText d := by
  apply str_ext
  rw [str_app, str_app, hx]
  unfold reprText
  rw [hq]
  show _ = ((d.cps.foldl _ #[q]).push q).toList
  rw [Array.toList_push, ← Array.foldl_toList, fold_repr]
  rfl
theorem quote_no {d : Str} (h : (Builtin.Str.occurrences d (Str.ofString "'") 0 d.length 1).isEmpty = true) : reprQuote d = 39 := by
  have e : Str.ofString "'" = ⟨#[39]⟩ := by decide +kernel
  have := StrLaws.found_one d 39
  rw [e] at h
  rw [h] at this
  have n : 39 ∉ d.cps.toList := of_decide_eq_false this.symm
  unfold reprQuote
  have : d.cps.contains 39 = false := by
    cases hc : d.cps.contains 39 with
    | false => rfl
    | true => rw [Array.contains_iff_mem] at hc; exact absurd (Array.mem_toList_iff.mpr hc) n
  rw [this]; rfl
theorem quote_both {d : Str} (h : (Builtin.Str.occurrences d (Str.ofString "\"") 0 d.length 1).isEmpty = false) : reprQuote d = 39 := by
  have e : Str.ofString "\"" = ⟨#[34]⟩ := by decide +kernel
  have := StrLaws.found_one d 34
  rw [e] at h
  rw [h] at this
  have n : 34 ∈ d.cps.toList := of_decide_eq_true this.symm
  unfold reprQuote
  have : d.cps.contains 34 = true := by rw [Array.contains_iff_mem]; exact Array.mem_toList_iff.mp n
  rw [this]; simp
theorem quote_one {d : Str} (h1 : (Builtin.Str.occurrences d (Str.ofString "'") 0 d.length 1).isEmpty = false) (h2 : (Builtin.Str.occurrences d (Str.ofString "\"") 0 d.length 1).isEmpty = true) : reprQuote d = 34 := by
  have e : Str.ofString "'" = ⟨#[39]⟩ := by decide +kernel
  have e2 : Str.ofString "\"" = ⟨#[34]⟩ := by decide +kernel
  have a := StrLaws.found_one d 39
  have b := StrLaws.found_one d 34
  rw [e] at h1
  rw [e2] at h2
  rw [h1] at a
  rw [h2] at b
  have n1 : 39 ∈ d.cps.toList := of_decide_eq_true a.symm
  have n2 : 34 ∉ d.cps.toList := of_decide_eq_false b.symm
  unfold reprQuote
  have c1 : d.cps.contains 39 = true := by rw [Array.contains_iff_mem]; exact Array.mem_toList_iff.mp n1
  have c2 : d.cps.contains 34 = false := by
    cases hc : d.cps.contains 34 with
    | false => rfl
    | true => rw [Array.contains_iff_mem] at hc; exact absurd (Array.mem_toList_iff.mpr hc) n2
  rw [c1, c2]; rfl
section
variable {prog : Program} {w : World} {A : Around} {E : Value → Shared → Prop} {s : Shared} {t u : Tok} {Q : Value → Shared → Prop}
theorem join_esc {d : Str} {q : Nat} {D : Addr} {ps : List (Str × Tok)} (hl : s.heap.IsList D (strValues ps).toArray) (hp : ps.map (·.1) = d.cps.toList.map (escq q)) (hq : q = 39 ∨ q = 34) (hd : Okt d)
    (k : ∀ x t' n, x.cps.toList = repBody q d → x.length ≤ 640 → Q (.str x t') { s with toks := n }) : wpAny (model prog w) A (call (.builtin "str.join") [.str (Str.ofString "") t, .ref D]) Q E s := by
  have e : (Txt.join (Str.ofString "") (d.cps.toList.map (escq q))).cps.toList = repBody q d := by
    have e1 : Txt.join (Str.ofString "") (d.cps.toList.map (escq q)) = Str.join (Str.ofString "") (d.cps.toList.map (escq q)) := StrLaws.glued_eq_join _ _
    rw [e1, join_none, List.map_map, repBody, List.flatMap_def]
    rfl
  have hlen : (Txt.join (Str.ofString "") (d.cps.toList.map (escq q))).length ≤ 640 := by
    have := repBody_len hq hd
    rw [← e] at this
    simpa [Str.length] using this
  refine SC.join hl hp ?_ (fun t' n => k _ t' n e hlen)
  refine joinOk_of_weight ?_ (by decide +kernel)
  have key : ∀ l : List Nat, (∀ c ∈ l, c ∈ signs) → ((l.map (escq q)).map (·.length)).sum + (l.map (escq q)).length ≤ 11 * l.length := by
    intro l
    induction l with
    | nil => intro _; simp
    | cons c r ih =>
      intro h
      have h1 := escq_len hq (h c (List.mem_cons_self ..))
      have h2 := ih fun x hx => h x (List.mem_cons_of_mem _ hx)
      simp only [List.map_cons, List.sum_cons, List.length_cons] at h2 ⊢
      omega
  have := key d.cps.toList hd.2
  have h1 := hd.1
  have e3 : d.length = d.cps.toList.length := by simp [Str.length]
  omega
theorem add_mid {x y : Str} (hx : x.length ≤ 100000) (hy : y.length ≤ 100000) (k : ∀ t' tk, Q (.str (x ++ y) t') { s with toks := tk }) : wpAny (model prog w) A (binaryOp .Add (.str x t) (.str y u)) Q E s := by
  refine add_str k ?_
  rw [sizeLine_eq]; omega
end
theorem len_q1 : (Str.ofString "'").length = 1 := by decide +kernel
theorem len_q2 : (Str.ofString "\"").length = 1 := by decide +kernel
theorem lit_q1 : Str.ofString "'" = ⟨#[39]⟩ := by decide +kernel
theorem lit_q2 : Str.ofString "\"" = ⟨#[34]⟩ := by decide +kernel
end Mine
end
section
open PySem PySem.W PyProof.Rows PySem.Calls
namespace Mine
theorem asIndex_int (i : Int) (u : Tok) : (asIndex (.int i u)).attempt = pure (.ok i) := by kernel_rfl
theorem buffer_bytes (b : Array UInt8) (t : Tok) : Builtin.Bytes.buffer? "bytes.__contains__" (.bytes b t) = pure (some b) := by kernel_rfl
section
variable {prog : Program} {w : World} {A : Around} {E : Value → Shared → Prop} {s : Shared} {t u : Tok} {b : Array UInt8} {i : Int} {Q : Value → Shared → Prop}
theorem contains_in (h0 : 0 ≤ i) (h1 : i < 256) {R : Bool → Shared → Prop} (h : R (b.contains i.toNat.toUInt8) s) : wpAny (model prog w) A (Builtin.Bytes.containsIn "bytes.__contains__" (.bytes b t) (.int i u)) R E s := by
  unfold Builtin.Bytes.containsIn
  refine wpAny_bind (wpAny_of_eq (asIndex_int i u) ?_)
  refine wpAny_bind (wpAny_of_eq (buffer_bytes b t) ?_)
  have e : (decide (i < 0) || decide (i ≥ 256)) = false := by
    rw [decide_eq_false (by omega), decide_eq_false (by omega)]; rfl
  show wpAny _ _ (if (decide (i < 0) || decide (i ≥ 256)) = true then _ else _) _ _ s
  rw [e]
  exact wpAny_pure h
theorem in_bytes (h0 : 0 ≤ i) (h1 : i < 256) (h : Q (.bool (b.contains i.toNat.toUInt8)) s) : wpAny (model prog w) A (compareOp .In (.int i u) (.bytes b t)) Q E s :=
  In_slot (typeIs_bytes s b t) FB.slot_bytes_contains (wpAny_call_entry FB.slot_bytes_contains (typeIs_bytes s b t) FB.entry_bytes_contains
    (show wpAny _ _ (do ret (.bool (← Builtin.Bytes.containsIn "bytes.__contains__" (.bytes b t) (.int i u)))) _ _ s from wpAny_bind (contains_in h0 h1 (wpAny_pure ⟨_, rfl, wpAny_truthy_bool h⟩))) (FB.args_bytes_contains_2 _ _))
theorem notin_bytes (h0 : 0 ≤ i) (h1 : i < 256) (h : Q (.bool !(b.contains i.toNat.toUInt8)) s) : wpAny (model prog w) A (compareOp .NotIn (.int i u) (.bytes b t)) Q E s :=
  NotIn_slot (typeIs_bytes s b t) FB.slot_bytes_contains (wpAny_call_entry FB.slot_bytes_contains (typeIs_bytes s b t) FB.entry_bytes_contains
    (show wpAny _ _ (do ret (.bool (← Builtin.Bytes.containsIn "bytes.__contains__" (.bytes b t) (.int i u)))) _ _ s from wpAny_bind (contains_in h0 h1 (wpAny_pure ⟨_, rfl, wpAny_truthy_bool h⟩))) (FB.args_bytes_contains_2 _ _))
end
end Mine
end
section
open PySem PySem.W PyProof.Rows
namespace Mine
def shownB (q : Nat) (n : Int) : List Nat :=
  let c := n.toNat
  let hex (n : Nat) : Nat := if n < 10 then 48 + n else 87 + n
  if c == q || c == 92 then [92, c] else if c == 9 then [92, 116] else if c == 10 then [92, 110] else if c == 13 then [92, 114] else if c < 32 || c ≥ 127 then [92, 120, hex (c / 16), hex (c % 16)] else [c]
theorem shownB_len (q : Nat) : ∀ l : List Int, (l.flatMap (shownB q)).length ≤ 4 * l.length
  | [] => by simp
  | n :: r => by
    have ih := shownB_len q r
    have h : (shownB q n).length ≤ 4 := by
      unfold shownB
      dsimp only
      repeat' split
      all_goals simp
    rw [List.flatMap_cons, List.length_append, List.length_cons]
    omega
def hexOk (q k : Nat) : Bool := k == 9 || k == 10 || k == 13 || !(k < 32 || 126 < k) ||
  (shownB q k == [92, 120] ++ (Txt.item (Str.ofString "0123456789abcdef") ((k : Int).fdiv 16)).cps.toList ++ (Txt.item (Str.ofString "0123456789abcdef") ((k : Int).fmod 16)).cps.toList)
theorem hex_all : ((List.range 256).all (hexOk 39) && (List.range 256).all (hexOk 34)) = true := by decide +kernel
theorem sb_hex {q : Nat} (hq : q = 39 ∨ q = 34) {n : Int} (h0 : 0 ≤ n) (h1 : n < 256) (h2 : ¬ (n = 9 ∨ n = 10 ∨ n = 13)) (h3 : n < 32 ∨ 126 < n) :
    shownB q n = [92, 120] ++ (Txt.item (Str.ofString "0123456789abcdef") (n.fdiv 16)).cps.toList ++ (Txt.item (Str.ofString "0123456789abcdef") (n.fmod 16)).cps.toList := by
  obtain ⟨k, rfl⟩ := Int.eq_ofNat_of_zero_le h0
  have h : hexOk q k = true := by
    have a := hex_all
    rw [Bool.and_eq_true] at a
    have hk : k ∈ List.range 256 := List.mem_range.mpr (by omega)
    rcases hq with rfl | rfl
    · exact List.all_eq_true.mp a.1 k hk
    · exact List.all_eq_true.mp a.2 k hk
  unfold hexOk at h
  simp only [Bool.or_eq_true, beq_iff_eq, Bool.not_eq_true', Bool.or_eq_false_iff, decide_eq_false_iff_not] at h
  rcases h with (((h | h) | h) | h) | h
  · omega
  · omega
  · omega
  · omega
  · exact h
theorem sb_esc {q : Nat} (n : Int) (h : n = q ∨ n = 92) : shownB q n = [92, n.toNat] := by
  unfold shownB
  rcases h with rfl | rfl
  · simp
  · simp
theorem sb_same {q : Nat} (n : Int) (h0 : 32 ≤ n) (h1 : n ≤ 126) (h2 : n ≠ q) (h3 : n ≠ 92) : shownB q n = [n.toNat] := by
  unfold shownB
  have a : (n.toNat == q) = false := by rw [beq_eq_false_iff_ne]; omega
  have b : (n.toNat == 92) = false := by rw [beq_eq_false_iff_ne]; omega
  have c : (n.toNat == 9) = false := by rw [beq_eq_false_iff_ne]; omega
  have d : (n.toNat == 10) = false := by rw [beq_eq_false_iff_ne]; omega
  have e : (n.toNat == 13) = false := by rw [beq_eq_false_iff_ne]; omega
  have f : decide (n.toNat < 32) = false := decide_eq_false (by omega)
  have g : decide (n.toNat ≥ 127) = false := decide_eq_false (by omega)
  simp only [a, b, c, d, e, f, g, Bool.or_self, Bool.false_eq_true, if_false]
theorem literal_is {b : Array UInt8} {q : Nat} (hq : (if b.contains 39 && !b.contains 34 then 34 else 39) = q) {x : Str} (hx : x.cps.toList = (KBw.bInts b).flatMap (shownB q)) :
    Str.ofString "b" ++ ⟨#[q]⟩ ++ x ++ ⟨#[q]⟩ = Builtin.Bytes.literal b := by
  apply str_ext
  have eb : (Str.ofString "b").cps.toList = [98] := by decide +kernel
  have key : ∀ (g : UInt8 → Array Nat) (l : List UInt8) (acc : Array Nat), (l.foldl (fun acc c => acc ++ g c) acc).toList = acc.toList ++ l.flatMap (fun c => (g c).toList) := by
    intro g l
    induction l with
    | nil => intro acc; simp
    | cons c r ih => intro acc; rw [List.foldl_cons, ih, List.flatMap_cons]; simp
  rw [str_app, str_app, str_app, eb, hx]
  unfold Builtin.Bytes.literal
  dsimp only
  rw [hq]
  simp only [Bool.false_eq_true, if_false]
  rw [Array.toList_push, ← Array.foldl_toList, key]
  unfold KBw.bInts
  rw [List.flatMap_map]
  congr 1
  show 98 :: q :: List.flatMap _ _ = 98 :: q :: List.flatMap _ _
  refine congrArg (fun z => 98 :: q :: z) ?_
  refine congrArg (fun f => List.flatMap f b.toList) ?_
  funext c
  unfold shownB
  simp only [Int.toNat_natCast]
  (repeat' split) <;> first | rfl | simp_all
theorem shown_end {q : Nat} {h₀ h' : Heap} {L : Addr} {R m₀ : Str → Option Value} {x sh : Str} {t' : Tok} {pre : List Int} {n : Int} {news own nw : List (Addr × Obj)} {s₁ : Shared} {tk : Nat} {l : List Nat}
    (F : Fr h₀ L h' (fun y => if y = Str.ofString "shown" then some (.str x t') else R y)) (N : News h₀ L h' nw) (hp : sh.cps.toList = pre.flatMap (shownB q))
    (hR : ∀ z, z ≠ Str.ofString "octet" → z ≠ Str.ofString "shown" → R z = m₀ z) (hx : x.cps.toList = sh.cps.toList ++ l) (hl : shownB q n = l) (h1 : ∀ p ∈ news, p ∈ nw) (h2 : ∀ p ∈ own, p ∈ nw) :
    InvEndN h₀ L (KstS (fun _ => news) (fun c : Str × Tok => [(Str.ofString "shown", .str c.1 c.2)]) (fun _ => True) (Str.ofString "octet") [] m₀ (fun pre c => c.1.cps.toList = pre.flatMap (shownB q)) (pre ++ [n])) own (news.map (·.1)) s₁ { s₁ with heap := h', toks := tk } := by
  refine InvEndN.intro F N (nx := news) ⟨(x, t'), rfl, trivial, ?_, ?_, ?_⟩ rfl h1 h2
  · intro p hp; rw [List.mem_singleton.mp hp]; rfl
  · intro z hz hns _
    have hzs : z ≠ Str.ofString "shown" := hns _ (List.mem_singleton.mpr rfl)
    show (if z = Str.ofString "shown" then _ else R z) = _
    rw [if_neg hzs]
    exact hR z hz hzs
  · show x.cps.toList = _
    rw [hx, hp, List.flatMap_append, ← hl]
    simp
end Mine
end
section
open PySem PySem.W PyProof.Rows
namespace Mine
theorem hx_hex {q : Nat} (hq : q = 39 ∨ q = 34) {sh : Str} {n : Int} (h0 : 0 ≤ n) (h1 : n < 256) (h2 : ¬ (n = 9 ∨ n = 10 ∨ n = 13)) (h3 : n < 32 ∨ 126 < n) :
    (sh ++ Str.ofString "\\x" ++ Txt.item (Str.ofString "0123456789abcdef") (n.fdiv 16) ++ Txt.item (Str.ofString "0123456789abcdef") (n.fmod 16)).cps.toList = sh.cps.toList ++ shownB q n := by
  rw [str_app, str_app, str_app, sb_hex hq h0 h1 h2 h3]
  have e : (Str.ofString "\\x").cps.toList = [92, 120] := by decide +kernel
  rw [e]; simp
theorem hx_esc {q : Nat} {sh : Str} {n : Int} (h : ([(q : Int), 92].any fun x : Int => x == n) = true) : (sh ++ Str.ofString "\\" ++ ⟨#[n.toNat]⟩).cps.toList = sh.cps.toList ++ shownB q n := by
  have h' : n = q ∨ n = 92 := by simp at h; omega
  rw [str_app, str_app, sb_esc n h']
  have e : (Str.ofString "\\").cps.toList = [92] := by decide +kernel
  rw [e]; simp
theorem hx_same {q : Nat} {sh : Str} {n : Int} (h0 : ¬ n < 32) (h1 : ¬ 126 < n) (h : ([(q : Int), 92].any fun x : Int => x == n) = false) : (sh ++ ⟨#[n.toNat]⟩).cps.toList = sh.cps.toList ++ shownB q n := by
  have h' : n ≠ q ∧ n ≠ 92 := by simp at h; omega
  rw [str_app, sb_same n (by omega) (by omega) h'.1 h'.2]
theorem hx_lit {sh x : Str} {l : List Nat} (h : x.cps.toList = l) : (sh ++ Str.ofString "\\" ++ x).cps.toList = sh.cps.toList ++ 92 :: l := by
  rw [str_app, str_app, h]
  have e : (Str.ofString "\\").cps.toList = [92] := by decide +kernel
  rw [e]; simp
def Marked : Prop := True
end Mine
end
section
open PySem PySem.W PyProof.Rows PySem.Spec PySem.Calls
namespace Mine
inductive Leaf : Value → Str → Prop
  | str (d : Str) (u : Tok) : Okt d → Leaf (.str d u) (reprText d)
  | bytes (bs : Array UInt8) (u : Tok) : bs.size ≤ 64 → Leaf (.bytes bs u) (Builtin.Bytes.literal bs)
  | int (i : Int) (u : Tok) : -(10 ^ 40) < i → i < 10 ^ 40 → Leaf (.int i u) (Str.ofString (toString i))
  | bool (b : Bool) : Leaf (.bool b) (if b then Str.ofString "True" else Str.ofString "False")
  | none : Leaf .none (Str.ofString "None")
abbrev lstObj (vs : List Value) (n : Nat) : Obj := { cls := .type "list", data := .seq vs.toArray n }
def Thing (news : List (Addr × Obj)) : Nat → Value → Str → Prop
  | 0, v, t => Leaf v t
  | k + 1, v, t => Leaf v t ∨ ∃ (a : Addr) (vs : List Value) (n : Nat) (ts : List Str), v = .ref a ∧ t = listText ts ∧ (a, lstObj vs n) ∈ news ∧ (∀ (i : Nat) (b : Addr), vs[i]? = some (.ref b) → @LT.lt Nat _ b a) ∧ vs.length ≤ 64 ∧ ts.length = vs.length ∧ (∀ (i : Nat) (x : Value) (y : Str), vs[i]? = some x → ts[i]? = some y → Thing news k x y) ∧ (listText ts).length ≤ 100000
theorem Thing.more {news news' : List (Addr × Obj)} (h : ∀ p ∈ news, p ∈ news') : ∀ {k v t}, Thing news k v t → Thing news' k v t
  | 0, _, _, x => x
  | k + 1, _, _, x => by
    rcases x with x | ⟨a, vs, n, ts, e1, e2, hm, hb, h1, h2, h3, h4⟩
    · exact .inl x
    · exact .inr ⟨a, vs, n, ts, e1, e2, h _ hm, hb, h1, h2, fun i x y hx hy => (h3 i x y hx hy).more h, h4⟩
theorem Leaf.to {news : List (Addr × Obj)} : ∀ {k v t}, Leaf v t → Thing news k v t
  | 0, _, _, x => x
  | _ + 1, _, _, x => .inl x
section
variable {prog : Program} {w : World} {A : Around} {E : Value → Shared → Prop} {s : Shared} {h₀ : Heap} {L a : Addr} {news : List (Addr × Obj)} {vs : List Value} {n : Nat} {Q : Value → Shared → Prop}
end
end Mine
end
section
open PySem PySem.W PyProof.Rows PySem.Spec PySem.Calls
namespace Mine
section
open LCg
variable {prog : Program} {w : World} {A : Around} {E : Value → Shared → Prop} {s : Shared} {h₀ : Heap} {L : Addr} {m : Str → Option Value} {env : Env}
theorem comp_vals {elt : Expr} {x : Str} {scope : Scope} {cl : List (Str × Addr)} {Fin : List Value → List (Addr × Obj) → Prop} {news : List (Addr × Obj)} {ax : Addr} {vs : List Value} {nv : Nat} (hm : (ax, lstObj vs nv) ∈ news) (ts : List Str) (hlen : ts.length = vs.length)
    (turn : ∀ (i : Nat) v y I oI C oC D m₂ ys h tk (E' : Value → Shared → Prop), vs[i]? = some v → ts[i]? = some y → NsObj oC m₂ → m₂ x = some v → Fr h₀ L h m → News h₀ L h ((I, oI) :: (C, oC) :: (D, lst ys) :: news) → Off3 I C D news → ((@Ne Nat I C) ∧ (@Ne Nat I D) ∧ (@Ne Nat C D)) →
      wpAny (model prog w) A (eval elt (compEnvC scope cl C env)) (CompEnd h₀ L m { s with heap := h, toks := tk } I oI C oC D (lst ys) (SrcAt h₀ ax vs.toArray) (fun v news' => news' = news ∧ ∃ t, v = .str y t)) E' { s with heap := h, toks := tk })
    (fin : ∀ ps : List (Str × Tok), ps.map (·.1) = ts → Fin (strValues ps) news) : CompRest prog w A h₀ L m env elt x scope cl s (SrcAt h₀ ax vs.toArray) (fun i v => vs.toArray[i]? = some v) Fin vs.toArray.size 0 [] news := by
  have key : ∀ (j i : Nat) (ps : List (Str × Tok)), i + j = vs.length → ps.map (·.1) = ts.take i → CompRest prog w A h₀ L m env elt x scope cl s (SrcAt h₀ ax vs.toArray) (fun i v => vs.toArray[i]? = some v) Fin j i (strValues ps) news := by
    intro j
    induction j with
    | zero =>
      intro i ps hi hp
      refine CompRest.zero (fin ps ?_)
      rw [hp, List.take_of_length_le (by omega)]
    | succ j ih =>
      intro i ps hi hp
      refine CompRest.succ ?_
      intro v I oI C oC D m₂ h tk E' hv hC hx F N off ne
      have hv' : vs[i]? = some v := by simpa using hv
      obtain ⟨y, hy⟩ : ∃ y, ts[i]? = some y := ⟨ts[i]'(by omega), List.getElem?_eq_getElem _⟩
      refine wpAny_mono (turn i v y I oI C oC D m₂ _ h tk E' hv' hy hC hx F N off ne) (fun v s₂ hq => ?_) fun _ _ e => e
      obtain ⟨h', tk', nw, e, F', N', off', hS, hn, t', hy'⟩ := hq
      rw [hn] at N' off' hS
      refine ⟨h', tk', news, e, F', N', off', hS, ?_⟩
      have e2 : strValues ps ++ [v] = strValues (ps ++ [(y, t')]) := by rw [hy']; simp [strValues]
      show CompRest prog w A h₀ L m env elt x scope cl s (SrcAt h₀ ax vs.toArray) (fun i v => vs.toArray[i]? = some v) Fin j (i + 1) (strValues ps ++ [v]) news
      rw [e2]
      refine ih (i + 1) _ (by omega) ?_
      rw [List.take_add_one, hy, List.map_append, hp]
      rfl
  rw [List.size_toArray]
  exact key vs.length 0 [] (by omega) (by simp)
end
theorem text_join : ∀ (ts : List Str) (k : Nat) (acc : Str), (textFrom k acc ts).cps.toList = acc.cps.toList ++ (match ts with | [] => [] | _ => (if k > 0 then [44, 32] else []) ++ (Str.join (Str.ofString ", ") ts).cps.toList)
  | [], k, acc => by simp [textFrom]
  | [t], k, acc => by
    show (acc ++ (Str.ofString (if k > 0 then ", " else "")) ++ t).cps.toList = acc.cps.toList ++ (_ ++ t.cps.toList)
    rw [str_app, str_app]
    by_cases h : k > 0
    · rw [if_pos h, if_pos h]
      have e : (Str.ofString ", ").cps.toList = [44, 32] := by decide +kernel
      rw [e]; simp
    · rw [if_neg h, if_neg h]
      have e : (Str.ofString "").cps.toList = [] := by decide +kernel
      rw [e]; simp
  | t :: u :: r, k, acc => by
    have ih := text_join (u :: r) (k + 1) (acc ++ (Str.ofString (if k > 0 then ", " else "")) ++ t)
    show (textFrom (k + 1) (acc ++ (Str.ofString (if k > 0 then ", " else "")) ++ t) (u :: r)).cps.toList = acc.cps.toList ++ (_ ++ (t ++ Str.ofString ", " ++ Str.join (Str.ofString ", ") (u :: r)).cps.toList)
    rw [ih, if_pos (Nat.succ_pos k), str_app, str_app, str_app, str_app]
    have e2 : (Str.ofString ", ").cps.toList = [44, 32] := by decide +kernel
    have e0 : (Str.ofString "").cps.toList = [] := by decide +kernel
    by_cases h : k > 0
    · rw [if_pos h, if_pos h, e2]; simp
    · rw [if_neg h, if_neg h, e0, e2]; simp
theorem list_text (ts : List Str) : Str.ofString "[" ++ Txt.join (Str.ofString ", ") ts ++ Str.ofString "]" = listText ts := by
  apply str_ext
  have e1 : Txt.join (Str.ofString ", ") ts = Str.join (Str.ofString ", ") ts := StrLaws.glued_eq_join _ _
  show _ = (textFrom 0 (Str.ofString "[") ts ++ Str.ofString "]").cps.toList
  rw [str_app, str_app, str_app, text_join, e1]
  congr 1
  cases ts with
  | nil => rfl
  | cons t r => simp
theorem text_len : ∀ (ts : List Str) (k : Nat) (acc : Str), (textFrom k acc ts).length = acc.length + (ts.map (·.length)).sum + 2 * ts.length - (if k > 0 then 0 else if ts = [] then 0 else 2)
  | [], k, acc => by simp [textFrom]
  | t :: r, k, acc => by
    have ih := text_len r (k + 1) (acc ++ (Str.ofString (if k > 0 then ", " else "")) ++ t)
    show (textFrom (k + 1) (acc ++ (Str.ofString (if k > 0 then ", " else "")) ++ t) r).length = _
    rw [ih, PySem.Str.length_append, PySem.Str.length_append, if_pos (Nat.succ_pos k)]
    have e2 : (Str.ofString ", ").length = 2 := by decide +kernel
    have e0 : (Str.ofString "").length = 0 := by decide +kernel
    simp only [List.map_cons, List.sum_cons, List.length_cons]
    by_cases h : k > 0
    · rw [if_pos h, if_pos h, e2]; omega
    · rw [if_neg h, if_neg h, e0, if_neg (by simp)]; omega
theorem join_fits {ts : List Str} (h : (listText ts).length ≤ 100000) : (ts.map (·.length)).sum + ts.length ≤ 1048576 := by
  have e : (listText ts).length = (textFrom 0 (Str.ofString "[") ts).length + (Str.ofString "]").length := PySem.Str.length_append ..
  have e1 : (Str.ofString "[").length = 1 := by decide +kernel
  rw [text_len, e1] at e
  cases ts with
  | nil => simp
  | cons t r =>
    simp only [gt_iff_lt, Nat.lt_irrefl, if_false, reduceCtorEq] at e
    simp only [List.length_cons] at e ⊢
    omega
theorem join_len {ts : List Str} (h : (listText ts).length ≤ 100000) : (Txt.join (Str.ofString ", ") ts).length ≤ 100000 := by
  rw [← list_text] at h
  have : (Str.ofString "[" ++ Txt.join (Str.ofString ", ") ts ++ Str.ofString "]").length = (Str.ofString "[").length + (Txt.join (Str.ofString ", ") ts).length + (Str.ofString "]").length := by
    rw [PySem.Str.length_append, PySem.Str.length_append]
  omega
section
variable {prog : Program} {w : World} {A : Around} {E : Value → Shared → Prop} {s : Shared} {t : Tok} {Q : Value → Shared → Prop}
theorem join_list {ts : List Str} {D : Addr} {ps : List (Str × Tok)} (hl : s.heap.IsList D (strValues ps).toArray) (hp : ps.map (·.1) = ts) (hd : (listText ts).length ≤ 100000)
    (k : ∀ x t' n, x = Txt.join (Str.ofString ", ") ts → x.length ≤ 100000 → Q (.str x t') { s with toks := n }) : wpAny (model prog w) A (call (.builtin "str.join") [.str (Str.ofString ", ") t, .ref D]) Q E s :=
  SC.join hl hp (joinOk_of_weight (join_fits hd) (by decide +kernel)) fun t' n => k _ t' n rfl (join_len hd)
end
end Mine
end
section
open PySem PySem.W PyProof.Rows PySem.Spec PySem.Calls
set_option maxRecDepth 100000
namespace Mine
namespace RB
theorem slot_bytes_repr : Slot "bytes" "__repr__" "bytes.__repr__" :=
  .of (owner := "bytes") (n := "__repr__") (by rw [typeLookup_type, builtinLookup_eq_fast]; kernel_rfl) (by decide +kernel) (by decide +kernel) (by decide +kernel)
    (by first | exact .inl (by decide +kernel) | exact .inr (by decide +kernel)) (by rw [isSubtype_type]; kernel_rfl)
theorem entry_bytes_repr : entryFor table "bytes.__repr__" = some Builtin.«bytes.__repr__» := entryFor_of_tree (by kernel_rfl)
theorem args_bytes_repr (a : Value) : argsOk "bytes.__repr__" ⟨[a], []⟩ := by
  unfold argsOk; rw [signature?_of (id := "bytes.__repr__") (n := ['_', '_', 'r', 'p', 'e', 'r', '_', '_']) (o := ['s', 'e', 't', 'y', 'b']) (by kernel_rfl) FB.owner_bytes]; kernel_rfl
theorem fills_bytes_mod : fillsNumberSlot (.type "bytes") "mod" = pure true :=
  fillsNumberSlot_of (id := "bytes.__mod__") (r := some (.builtin "bytes.__rmod__")) (by rw [typeLookup_type, builtinLookup_eq_fast]; kernel_rfl) (by decide +kernel) (by rw [typeLookup_type, builtinLookup_eq_fast]; kernel_rfl)
theorem noFill (T : String) (h1 : typeLookup (.type T) (dunder "mod") = pure none) (h2 : typeLookup (.type T) (dunderR "mod") = pure none) : fillsNumberSlot (.type T) "mod" = pure false := by
  simp only [fillsNumberSlot, h1, h2, pure_bind]; rfl
theorem noFill_list : fillsNumberSlot (.type "list") "mod" = pure false := noFill _ (by rw [typeLookup_type, builtinLookup_eq_fast]; kernel_rfl) (by rw [typeLookup_type, builtinLookup_eq_fast]; kernel_rfl)
theorem noFill_None : fillsNumberSlot (.type "NoneType") "mod" = pure false := noFill _ (by rw [typeLookup_type, builtinLookup_eq_fast]; kernel_rfl) (by rw [typeLookup_type, builtinLookup_eq_fast]; kernel_rfl)
theorem get_bytes : typeLookup (.type "bytes") "__getitem__" = pure (some (.builtin "bytes.__getitem__")) := by rw [typeLookup_type, builtinLookup_eq_fast]; kernel_rfl
theorem get_list : typeLookup (.type "list") "__getitem__" = pure (some (.builtin "list.__getitem__")) := by rw [typeLookup_type, builtinLookup_eq_fast]; kernel_rfl
theorem get_None : typeLookup (.type "NoneType") "__getitem__" = pure none := by rw [typeLookup_type, builtinLookup_eq_fast]; kernel_rfl
theorem get_int : typeLookup (.type "int") "__getitem__" = pure none := by rw [typeLookup_type, builtinLookup_eq_fast]; kernel_rfl
theorem get_bool : typeLookup (.type "bool") "__getitem__" = pure none := by rw [typeLookup_type, builtinLookup_eq_fast]; kernel_rfl
theorem get_str : typeLookup (.type "str") "__getitem__" = pure (some (.builtin "str.__getitem__")) := by rw [typeLookup_type, builtinLookup_eq_fast]; kernel_rfl
end RB
theorem lit_fits {b : Array UInt8} (h : b.size ≤ 64) : Builtin.Bytes.literalAsked b = pure (Builtin.Bytes.literal b) := by
  unfold Builtin.Bytes.literalAsked
  have : Builtin.Bytes.tooLong (4 * b.size + 3 + 0) = false := by
    unfold Builtin.Bytes.tooLong
    rw [sizeLine_eq]
    exact decide_eq_false (by omega)
  rw [this]; rfl
theorem lit_len {b : Array UInt8} (h : b.size ≤ 64) : (Builtin.Bytes.literal b).length ≤ 700 := by
  rw [← literal_is (b := b) rfl (x := ⟨((KBw.bInts b).flatMap (shownB _)).toArray⟩) rfl]
  rw [PySem.Str.length_append, PySem.Str.length_append, PySem.Str.length_append]
  have h1 := shownB_len (if b.contains 39 && !b.contains 34 then 34 else 39) (KBw.bInts b)
  rw [KBw.ints_length] at h1
  have h2 : (Str.ofString "b").length = 1 := by decide +kernel
  have h3 : (⟨((KBw.bInts b).flatMap (shownB (if b.contains 39 && !b.contains 34 then 34 else 39))).toArray⟩ : Str).length = ((KBw.bInts b).flatMap (shownB (if b.contains 39 && !b.contains 34 then 34 else 39))).length := by simp [Str.length]
  have h4 : ∀ q : Nat, (⟨#[q]⟩ : Str).length = 1 := fun _ => rfl
  rw [h2, h3, h4]
  omega
section
variable {prog : Program} {w : World} {A : Around} {E : Value → Shared → Prop} {s : Shared}
theorem under_leaf {b : Nat} {v : Value} {T id : String} {t : Str} {Q : Value → Shared → Prop} (hT : s.TypeIs v T) (h : SlotG T (Str.ofString "__repr__") id) (htw : reprUnder? (.builtin id) = none) (hv : [v].any Value.onHeap = false)
    (hc : wpAny (model prog w) A (call (.builtin id) [v]) (fun r s' => ∃ u k, r = .str t u ∧ s' = { s with toks := k }) E s) (hq : ∀ u k, Q (.str t u) { s with toks := k }) : wpAny (model prog w) A (pyReprObjUnder b v) Q E s := by
  unfold pyReprObjUnder pyReprObjBy
  simp only [cRoomFor, hv, Bool.false_eq_true, if_false, pure_bind]
  refine wpAny_bind (wpAny_specialOf (name := Str.ofString "__repr__") hT h.lookup ?_)
  refine wpAny_bind (wpAny_callSpecialIfBoundBy?_slotG (name := Str.ofString "__repr__") hT h ?_)
  simp only [htw]
  refine wpAny_mono hc (fun r s' hr => ?_) fun _ _ x => x
  obtain ⟨u, k, rfl, rfl⟩ := hr
  exact wpAny_bind (wpAny_isInstance (T := "str") (b := true) rfl isSubtype_str_str (wpAny_pure (hq u k)))
theorem under_str {b : Nat} {d : Str} {u : Tok} {Q : Value → Shared → Prop} (hx : (reprText d).length ≤ 1000) (hq : ∀ u k, Q (.str (reprText d) u) { s with toks := k }) : wpAny (model prog w) A (pyReprObjUnder b (.str d u)) Q E s :=
  under_leaf (typeIs_str s d u) F.slot_str_repr.toG rfl rfl (call_gives F.slot_str_repr (typeIs_str s d u) F.entry_str_repr (F.args_str_repr_1 _) (gives_str_repr d u) ⟨by rw [sizeLine_eq]; omega, _, _, rfl, rfl⟩) hq
theorem under_int {b : Nat} {i : Int} {u : Tok} {Q : Value → Shared → Prop} (ha : i.natAbs.log2 < 1920) (hq : ∀ u k, Q (.str (Str.ofString (toString i)) u) { s with toks := k }) : wpAny (model prog w) A (pyReprObjUnder b (.int i u)) Q E s :=
  under_leaf (typeIs_int s i u) F.slot_int_repr.toG rfl rfl (call_gives F.slot_int_repr (typeIs_int s i u) F.entry_int_repr (F.args_int_repr_1 _) (gives_int_repr i u ha) ⟨int_text_fits ha, _, _, rfl, rfl⟩) hq
theorem under_bool {b : Nat} {i : Bool} {Q : Value → Shared → Prop} (hq : ∀ u k, Q (.str (if i then Str.ofString "True" else Str.ofString "False") u) { s with toks := k }) : wpAny (model prog w) A (pyReprObjUnder b (.bool i)) Q E s :=
  under_leaf (PySem.typeIs_bool s i) F.slot_bool_repr.toG rfl rfl (call_gives F.slot_bool_repr (PySem.typeIs_bool s i) F.entry_bool_repr (F.args_bool_repr_1 _) (gives_bool_repr i) ⟨by cases i <;> decide, _, _, rfl, rfl⟩) hq
theorem under_none {b : Nat} {Q : Value → Shared → Prop} (hq : ∀ u k, Q (.str (Str.ofString "None") u) { s with toks := k }) : wpAny (model prog w) A (pyReprObjUnder b .none) Q E s :=
  under_leaf (PySem.typeIs_none s) F.slot_NoneType_repr.toG rfl rfl (call_gives F.slot_NoneType_repr (PySem.typeIs_none s) F.entry_NoneType_repr (F.args_NoneType_repr_1 _) gives_none_repr ⟨by decide, _, _, rfl, rfl⟩) hq
theorem call_bytes_repr {b : Array UInt8} {u : Tok} {Q : Value → Shared → Prop} (hb : b.size ≤ 64) (hq : ∀ u k, Q (.str (Builtin.Bytes.literal b) u) { s with toks := k }) : wpAny (model prog w) A (call (.builtin "bytes.__repr__") [.bytes b u]) Q E s := by
  refine wpAny_call_entry RB.slot_bytes_repr (typeIs_bytes s b u) RB.entry_bytes_repr ?_ (RB.args_bytes_repr _)
  show wpAny _ _ (do retStr (← Builtin.Bytes.literalAsked b)) _ _ s
  rw [lit_fits hb]
  refine wpAny_bind (wpAny_pure ?_)
  refine wpAny_bind (wpAny_mkStr ?_ (by have := lit_len hb; rw [sizeLine_eq]; omega))
  exact wpAny_pure ⟨_, rfl, hq _ _⟩
theorem under_bytes {b : Nat} {bs : Array UInt8} {u : Tok} {Q : Value → Shared → Prop} (hb : bs.size ≤ 64) (hq : ∀ u k, Q (.str (Builtin.Bytes.literal bs) u) { s with toks := k }) : wpAny (model prog w) A (pyReprObjUnder b (.bytes bs u)) Q E s :=
  under_leaf (typeIs_bytes s bs u) RB.slot_bytes_repr.toG rfl rfl (call_bytes_repr hb fun u k => ⟨_, _, rfl, rfl⟩) hq
theorem reprIs_bytes {bs : Array UInt8} {u : Tok} (hb : bs.size ≤ 64) : ReprIs prog w (.bytes bs u) (Builtin.Bytes.literal bs) := fun n hn _ _ _ _ h => by
  have hn' : n ≤ sizeLine := by omega
  rw [pyReprUnder_leaf (v := .bytes bs u) hn' (fun _ e => nomatch e)]
  unfold pyRepr pyReprObj
  have hv : [Value.bytes bs u].any Value.onHeap = false := rfl
  simp only [cRoomFor, hv, Bool.false_eq_true, if_false, pure_bind]
  refine wpAny_bind (wpAny_bind (wpAny_specialOf (name := Str.ofString "__repr__") (typeIs_bytes _ bs u) RB.slot_bytes_repr.lookup ?_))
  refine wpAny_bind (m := callSpecialIfBound? (.bytes bs u) (Str.ofString "__repr__")) (wpAny_callSpecialIfBound?_slot (name := Str.ofString "__repr__") (typeIs_bytes _ bs u) RB.slot_bytes_repr (call_bytes_repr hb fun u k => ?_))
  exact wpAny_bind (wpAny_isInstance (T := "str") (b := true) rfl isSubtype_str_str (wpAny_pure (wpAny_pure (h _))))
end
end Mine
end
section
open PySem PySem.W PyProof.Rows PySem.Spec PySem.Calls
set_option maxRecDepth 100000
namespace Mine
def fmt : Str := ⟨#[37, 114, 32, 105, 115, 32, 110, 111, 116, 32, 97, 32, 118, 97, 108, 105, 100, 32, 110, 101, 116, 109, 97, 115, 107]⟩
theorem fmt_eq : Str.ofString "%r is not a valid netmask" = fmt := by decide +kernel
section
variable {prog : Program} {w : World} {A : Around} {E : Value → Shared → Prop} {s : Shared}
theorem wp_fills {v : Value} {U : String} {r : Option Value} {Q : Bool → Shared → Prop} (hT : s.TypeIs v U) (hl : typeLookup (.type U) "__getitem__" = pure r) (h : ∀ b, Q b s) : wpAny (model prog w) A (fillsMappingSlot v) Q E s := by
  unfold fillsMappingSlot
  refine wpAny_bind (wpAny_specialOf hT hl ?_)
  cases r with
  | none => exact wpAny_pure (h _)
  | some x => cases x <;> exact wpAny_pure (h _)
theorem mod_entry (X : Str) (t : Tok) (v : Value) : Builtin.«str.__mod__» ⟨[.str X t, v], []⟩ = Builtin.Str.percentFormat (.str X t) X v := by kernel_rfl
theorem percent_r {v : Value} {U : String} {r : Option Value} {t : Str} {tf : Tok} {Q : Fin → Shared → Prop} {K : Shared → Prop} (hT : s.TypeIs v U) (htup : isSubtype (.type U) (.type "tuple") = pure false) (hgi : typeLookup (.type U) "__getitem__" = pure r)
    (has : ∀ {R : Option Str → Shared → Prop}, (∀ o, R o s) → wpAny (model prog w) A (asStr? v) R E s) (hlen : t.length ≤ 100000)
    (hrep : ∀ base, base ≤ 100 → wpAny (model prog w) A (pyReprObjUnder base v) (fun x s' => ∃ u, x = .str t u ∧ K s') E s)
    (hq : ∀ s' t' k, K s' → Q (.done (.ret (.str (t ++ Str.ofString " is not a valid netmask") t'))) { s' with toks := k }) :
    wpAny (model prog w) A (Builtin.Str.percentFormat (.str fmt tf) fmt v) Q E s := by
  unfold Builtin.Str.percentFormat
  refine wpAny_bind (wpAny_isInstance hT htup ?_)
  refine wpAny_bind (has fun o => ?_)
  refine wpAny_bind (wp_fills hT hgi fun b => ?_)
  kpc_if
  refine wpAny_bind (wpAny_pure ?_)
  refine wpAny_bind ?_
  rw [KPc.range_list]
  refine KPc.start ?_
  intro w1 g1
  refine KPc.turn ?_
  kpc_check
  (repeat kpc_if)
  refine wpAny_bind ?_
  refine wpAny_holding ?_
  (repeat kpc_if)
  refine wpAny_bind (wpAny_mono (hrep _ (Nat.le_trans g1.total (by decide))) (fun x s' hx => ?_) fun _ _ e => e)
  obtain ⟨u, rfl, hK⟩ := hx
  refine wpAny_bind (wpAny_of_eq (a := some _) rfl ?_)
  refine wpAny_pure ?_
  refine wpAny_pure ?_
  refine KPc.after_str0 g1 hlen (by kpc_obj) ?_
  intro w2 g2
  refine KPc.turn ?_
  kpc_check
  (repeat kpc_if)
  refine wpAny_pure ?_
  kpc_piece
  refine KPc.turn ?_
  kpc_check
  (repeat kpc_if)
  have hq' := fun t' k => hq s' t' k hK
  kpc_close
end
end Mine
namespace Mine
section
variable {prog : Program} {w : World} {A : Around} {E : Value → Shared → Prop} {s : Shared}
theorem mod_left {v : Value} {X : Str} {tf : Tok} {U : String} {fu : Bool} {Q : Value → Shared → Prop} (hT : s.TypeIs v U) (hTU : "str" ≠ U) (hfU : fillsNumberSlot (.type U) "mod" = pure fu) (hsub : isSubtype (.type U) (.type "str") = pure false)
    (hc : wpAny (model prog w) A (call (.builtin "str.__mod__") [.str X tf, v]) (fun v s' => v ≠ .notImplemented ∧ Q v s') E s) : wpAny (model prog w) A (binaryOp .Mod (.str X tf) v) Q E s := by
  have hi : Operator.Mod.info = ("%", "mod") := rfl
  simp only [binaryOp, hi]
  refine wpAny_holding ?_
  refine wpAny_bind ?_
  simp only [binaryOp1]
  refine wpAny_bind (wpAny_typeOf (typeIs_str s X tf) (wpAny_bind (wpAny_typeOf hT (wpAny_bind (wpAny_of_eq F.fills_str_mod ?_)))))
  have hne : (Value.type "str" == Value.type U) = false := by simpa using hTU
  simp only [hne, Bool.false_eq_true, if_false]
  refine wpAny_bind (wpAny_of_eq hfU ?_)
  have hpy : numberSlotInPython (.type "str") "mod" = pure false := rfl
  cases fu with
  | false =>
    simp only [Bool.false_eq_true, if_false, pure_bind, Bool.not_false, Bool.and_false, Bool.false_and, if_true]
    refine wpAny_bind (wpAny_tryMethod_slot (typeIs_str s X tf) F.slot_str_mod (wpAny_mono hc (fun v s' h' => ⟨h'.1, wpAny_pure (wpAny_pure h'.2)⟩) fun _ _ h' => h'))
  | true =>
    simp only [Bool.and_self, if_true]
    refine wpAny_bind (wpAny_of_eq hsub ?_)
    simp only [Bool.false_eq_true, if_false, pure_bind, Bool.not_false, Bool.and_self, if_true, hpy]
    refine wpAny_bind (wpAny_tryMethod_slot (typeIs_str s X tf) F.slot_str_mod (wpAny_mono hc (fun v s' h' => ⟨h'.1, wpAny_pure (wpAny_pure h'.2)⟩) fun _ _ h' => h'))
theorem call_mod {v : Value} {U : String} {r : Option Value} {t : Str} {tf : Tok} {Q : Value → Shared → Prop} {K : Shared → Prop} (hT : s.TypeIs v U) (htup : isSubtype (.type U) (.type "tuple") = pure false) (hgi : typeLookup (.type U) "__getitem__" = pure r)
    (has : ∀ {R : Option Str → Shared → Prop}, (∀ o, R o s) → wpAny (model prog w) A.in1 (asStr? v) R E s) (hlen : t.length ≤ 100000)
    (hrep : ∀ base, base ≤ 100 → wpAny (model prog w) A.in1 (pyReprObjUnder base v) (fun x s' => ∃ u, x = .str t u ∧ K s') E s)
    (hq : ∀ s' t' k, K s' → Q (.str (t ++ Str.ofString " is not a valid netmask") t') { s' with toks := k }) :
    wpAny (model prog w) A (call (.builtin "str.__mod__") [.str fmt tf, v]) Q E s := by
  refine wpAny_call_entry F.slot_str_mod (typeIs_str s fmt tf) F.entry_str_mod ?_ (F.args_str_mod_2 _ _)
  rw [mod_entry]
  exact percent_r hT htup hgi has hlen hrep fun s' t' k hK => ⟨_, rfl, hq s' t' k hK⟩
end
end Mine
end
section
open PySem PySem.W PyProof.Rows PySem.Spec PySem.Calls
set_option maxRecDepth 100000
namespace Mine
theorem quote_two (d : Str) : reprQuote d = 39 ∨ reprQuote d = 34 := by
  unfold reprQuote
  split
  · exact .inr rfl
  · exact .inl rfl
theorem text_len2 {d : Str} (hd : Okt d) : (reprText d).length ≤ 1000 := by
  rw [← repr_is (d := d) (q := reprQuote d) (x := ⟨(repBody (reprQuote d) d).toArray⟩) rfl rfl]
  rw [PySem.Str.length_append, PySem.Str.length_append]
  have h := repBody_len (quote_two d) hd
  have e : (⟨(repBody (reprQuote d) d).toArray⟩ : Str).length = (repBody (reprQuote d) d).length := by simp [Str.length]
  have h4 : ∀ q : Nat, (⟨#[q]⟩ : Str).length = 1 := fun _ => rfl
  rw [h4, e]
  omega
theorem log_small {i : Int} (h1 : -(10 ^ 40) < i) (h2 : i < 10 ^ 40) : i.natAbs.log2 < 1920 := shown (N := 10 ^ 40) h1 h2 (by decide +kernel)
theorem int_len {i : Int} (h1 : -(10 ^ 40) < i) (h2 : i < 10 ^ 40) : (Str.ofString (toString i)).length ≤ 1000 := by
  have hn : i.natAbs < 10 ^ 40 := by omega
  have := int_text_length_le10 (k := 40) (by decide) hn
  rw [PySem.ofString_length]
  omega
theorem leaf_len {v : Value} {t : Str} (h : Leaf v t) : t.length ≤ 1000 := by
  cases h with
  | str d u hd => exact text_len2 hd
  | bytes bs u hb => exact Nat.le_trans (lit_len hb) (by decide)
  | int i u h1 h2 => exact int_len h1 h2
  | bool b => cases b <;> decide +kernel
  | none => decide +kernel
theorem thing_len {news : List (Addr × Obj)} : ∀ {k v t}, Thing news k v t → t.length ≤ 100000
  | 0, _, _, h => Nat.le_trans (leaf_len h) (by decide)
  | _ + 1, _, _, h => by
    rcases h with h | ⟨a, vs, n, ts, rfl, rfl, _, _, _, _, _, h⟩
    · exact Nat.le_trans (leaf_len h) (by decide)
    · exact h
section
variable {prog : Program} {w : World} {A : Around} {E : Value → Shared → Prop} {s : Shared} {h₀ : Heap} {L : Addr} {m : Str → Option Value} {news : List (Addr × Obj)}
theorem leaf_is {v : Value} {t : Str} (h : Leaf v t) : ReprIs prog w v t := by
  cases h with
  | str d u hd => exact ReprIs.str d u (by have := text_len2 hd; rw [sizeLine_eq]; omega)
  | bytes bs u hb => exact reprIs_bytes hb
  | int i u h1 h2 => exact ReprIs.int u (log_small h1 h2)
  | bool b => exact ReprIs.bool b
  | none => exact ReprIs.none
theorem thing_reprK {h : Heap} (N : News h₀ L h news) : ∀ (k : Nat) {v : Value} {t : Str} (n : Nat), Thing news k v t → (∀ a, v = .ref a → @LT.lt Nat _ a n) → ReprK prog w (List.range n) h k v t
  | 0, v, t, n, hv, _ => ReprK.of_is (leaf_is hv) _ _ _
  | k + 1, v, t, n, hv, hn => by
    rcases hv with hv | ⟨a, vs, nn, ts, rfl, rfl, hm, hab, hvl, htl, hits, hlen⟩
    · exact ReprK.of_is (leaf_is hv) _ _ _
    · have ha := N.get hm
      cases vs with
      | nil =>
        have : ts = [] := List.length_eq_zero_iff.mp htl
        subst this
        exact ReprK.listEmpty ha rfl rfl
      | cons x l =>
        refine (ReprK.list (as := List.range a) ha rfl rfl (by simp) (by simpa using htl) (fun i y hy => ?_)).more ?_
        · have hy' : (x :: l)[i]? = some y := by simpa using hy
          have hlt : i < ts.length := by rw [htl]; exact (List.getElem?_eq_some_iff.mp hy').1
          refine ⟨ts[i], List.getElem?_eq_getElem hlt, thing_reprK N k a (hits i y _ hy' (List.getElem?_eq_getElem hlt)) fun b hb => hab i b (by rw [← hb]; exact hy')⟩
        · intro b hb
          rw [List.mem_range]
          have := hn a rfl
          rcases List.mem_cons.mp hb with rfl | hb
          · exact this
          · exact Nat.lt_trans (List.mem_range.mp hb) this
theorem thing_under (N : News h₀ L s.heap news) (hg : A.guards = some []) {k : Nat} (hu : A.units + (k + 2) < cLine) {v : Value} {t : Str} (hv : Thing news k v t) {base : Nat} (hb : base ≤ 100) :
    wpAny (model prog w) A (pyReprObjUnder base v) (fun x s' => ∃ u, x = .str t u ∧ ∃ h' tk, s' = { s with heap := h', toks := tk } ∧ ∀ b o, s.heap.get? b = some o → h'.get? b = some o) E s := by
  have leaf : ∀ {v t}, Leaf v t → wpAny (model prog w) A (pyReprObjUnder base v) (fun x s' => ∃ u, x = .str t u ∧ ∃ h' tk, s' = { s with heap := h', toks := tk } ∧ ∀ b o, s.heap.get? b = some o → h'.get? b = some o) E s := by
    intro v t h
    cases h with
    | str d u hd => exact under_str (text_len2 hd) fun u k => ⟨u, rfl, s.heap, k, rfl, fun _ _ e => e⟩
    | bytes bs u hb => exact under_bytes hb fun u k => ⟨u, rfl, s.heap, k, rfl, fun _ _ e => e⟩
    | int i u h1 h2 => exact under_int (log_small h1 h2) fun u k => ⟨u, rfl, s.heap, k, rfl, fun _ _ e => e⟩
    | bool b => exact under_bool fun u k => ⟨u, rfl, s.heap, k, rfl, fun _ _ e => e⟩
    | none => exact under_none fun u k => ⟨u, rfl, s.heap, k, rfl, fun _ _ e => e⟩
  cases k with
  | zero => exact leaf hv
  | succ k =>
    rcases hv with hv | ⟨a, vs, nn, ts, rfl, rfl, hm, hab, hvl, htl, hits, hlen⟩
    · exact leaf hv
    · have ha := N.get hm
      cases vs with
      | nil =>
        have : ts = [] := List.length_eq_zero_iff.mp htl
        subst this
        exact wpAny_pyReprObjUnder_list_empty ⟨_, ha, rfl⟩ (by omega) ha rfl ⟨_, rfl, s.heap, _, rfl, fun _ _ e => e⟩
      | cons x l =>
        refine wpAny_pyReprObjUnder_listK (as := List.range a) (d := k) ha rfl rfl (by simp) (by simpa using htl) (fun i y hy => ?_) hg (fun b _ => Clear.nil b) (by omega) (fun _ _ e => e) (fun h' u tk e => ⟨u, rfl, h', tk, rfl, e⟩) (by rw [sizeLine_eq]; omega)
        have hy' : (x :: l)[i]? = some y := by simpa using hy
        have hlt : i < ts.length := by rw [htl]; exact (List.getElem?_eq_some_iff.mp hy').1
        exact ⟨ts[i], List.getElem?_eq_getElem hlt, thing_reprK N k a (hits i y _ hy' (List.getElem?_eq_getElem hlt)) fun b hb => hab i b (by rw [← hb]; exact hy')⟩
def ModEnd (Q : Value → Shared → Prop) (t : Str) (s : Shared) : Prop := ∀ h' t' k, (∀ b o, s.heap.get? b = some o → h'.get? b = some o) → Q (.str (t ++ Str.ofString " is not a valid netmask") t') { s with heap := h', toks := k }
theorem thing_mod (N : News h₀ L s.heap news) (hg : A.guards = some []) {k : Nat} (hu : A.units + (k + 10) < cLine) {v : Value} {t : Str} {tf : Tok} {Q : Value → Shared → Prop} (hv : Thing news k v t)
    (hq : ModEnd Q t s) : wpAny (model prog w) A (binaryOp .Mod (.str (Str.ofString "%r is not a valid netmask") tf) v) Q E s := by
  rw [fmt_eq]
  have hlen := thing_len hv
  have hrep : ∀ base, base ≤ 100 → wpAny (model prog w) A.in1 (pyReprObjUnder base v) (fun x s' => ∃ u, x = .str t u ∧ ∃ h' tk, s' = { s with heap := h', toks := tk } ∧ ∀ b o, s.heap.get? b = some o → h'.get? b = some o) E s :=
    fun base hb => thing_under (A := A.in1) N (by simpa [Around.in1] using hg) (by simp only [Around.in1]; omega) hv hb
  have fin : ∀ s' t' k', (∃ h' tk, s' = { s with heap := h', toks := tk } ∧ ∀ b o, s.heap.get? b = some o → h'.get? b = some o) → (fun v s' => v ≠ .notImplemented ∧ Q v s') (.str (t ++ Str.ofString " is not a valid netmask") t') { s' with toks := k' } := by
    rintro s' t' k' ⟨h', tk, rfl, e⟩
    exact ⟨(fun e => nomatch e), hq h' t' k' e⟩
  have hasL : ∀ {a : Addr} {vs : List Value} {n : Nat}, (a, lstObj vs n) ∈ news → ∀ {R : Option Str → Shared → Prop}, (∀ o, R o s) → wpAny (model prog w) A.in1 (asStr? (.ref a)) R E s := by
    intro a vs n hm R hR
    show wpAny _ _ (do match (← load a).data with | .prim (.str s _) => pure (some s) | _ => pure none) _ _ s
    exact wpAny_bind (wpAny_load (N.get hm) (wpAny_pure (hR _)))
  have leaf : Leaf v t → wpAny (model prog w) A (binaryOp .Mod (.str fmt tf) v) Q E s := by
    intro h
    cases h with
    | str d u hd =>
      refine wpAny_binaryOp_same (op := .Mod) (typeIs_str s fmt tf) (typeIs_str s d u) F.fills_str_mod F.slot_str_mod ?_
      exact call_mod (typeIs_str s d u) F.sub_str_tuple RB.get_str (fun hR => wpAny_pure (hR _)) hlen hrep fin
    | bytes bs u hb =>
      refine mod_left (typeIs_bytes s bs u) (by decide) RB.fills_bytes_mod F.sub_bytes_str ?_
      exact call_mod (typeIs_bytes s bs u) F.sub_bytes_tuple RB.get_bytes (fun hR => wpAny_bind (wpAny_pure (wpAny_pure (hR _)))) hlen hrep fin
    | int i u h1 h2 =>
      refine mod_left (typeIs_int s i u) (by decide) F.fills_int_mod F.sub_int_str ?_
      exact call_mod (typeIs_int s i u) F.sub_int_tuple RB.get_int (fun hR => wpAny_bind (wpAny_pure (wpAny_pure (hR _)))) hlen hrep fin
    | bool b =>
      refine mod_left (PySem.typeIs_bool s b) (by decide) F.fills_bool_mod F.sub_bool_str ?_
      exact call_mod (PySem.typeIs_bool s b) F.sub_bool_tuple RB.get_bool (fun hR => wpAny_bind (wpAny_pure (wpAny_pure (hR _)))) hlen hrep fin
    | none =>
      refine mod_left (PySem.typeIs_none s) (by decide) RB.noFill_None F.sub_NoneType_str ?_
      exact call_mod (PySem.typeIs_none s) F.sub_NoneType_tuple RB.get_None (fun hR => wpAny_bind (wpAny_pure (wpAny_pure (hR _)))) hlen hrep fin
  cases k with
  | zero => exact leaf hv
  | succ k =>
    rcases hv with hv | ⟨a, vs, nn, ts, rfl, rfl, hm, hab, hvl, htl, hits, hlen'⟩
    · exact leaf hv
    · have hT : s.TypeIs (.ref a) "list" := ⟨_, N.get hm, rfl⟩
      refine mod_left hT (by decide) RB.noFill_list F.sub_list_str ?_
      exact call_mod hT F.sub_list_tuple RB.get_list (hasL hm) hlen hrep fin
end
end Mine
end
section
open PySem PySem.W PyProof.Rows PySem.Spec PySem.Calls
set_option maxRecDepth 100000
namespace Mine
section
variable {M : Model} {A : Around} {E : Value → Shared → Prop}
variable {nm q : Str} {C N : Addr} {bs bm : List Value} {hdct : Bool} {sn : List Str} {sub : List Value} {ab : Bool} {col : Option Bool} {dd : Option Addr} {k0 k1 k2 k3 k5 : Option Value} {newId : String} {env : Env}
abbrev fromObj (C t : Addr) : Obj := { cls := .ref C, data := .fields #[.ref t, .none, .none, .none, .bool true, .none] }
theorem up_get {h : Heap} {a : Addr} {o o' : Obj} {f : Obj → Obj} (ha : h.get? a = some o) (hf : f o = o') (hz : o'.isFreed = false := by rfl) : (h.update a f).get? a = some o' := by
  subst hf
  exact Heap.get?_update_self f ha hz
theorem raiseStmt_from {s : Shared} {x c : Sem Value} {Q : Flow → Shared → Prop} (hbase : bm.contains (.type "BaseException") = true) (hh : A.handled = none)
    (hc : ∀ (s₁ : Shared) (Q' : Value → Shared → Prop), Q' .none s₁ → wpAny M A c Q' E s₁)
    (h : wpAny M A x (fun v s₁ => ∃ e t, v = .ref e ∧ e ≠ C ∧ s₁.heap.get? C = some (excClassObj nm q C N bs bm hdct sn sub ab col dd k0 k1 k2 k3 k5 newId) ∧
      s₁.heap.get? e = some { cls := .ref C, data := .fields #[.ref t, .none, .none, .none, .bool false, .none] } ∧ ∀ h', (∀ b, b ≠ e → h'.get? b = s₁.heap.get? b) → h'.get? e = some (fromObj C t) → E (.ref e) { s₁ with heap := h' }) E s) :
    wpAny M A (raiseStmt env (some x) (some c)) Q E s := by
  have hcB : (Value.ref C :: bm).contains (.type "BaseException") = true := by rw [List.contains_cons, hbase, Bool.or_true]
  unfold raiseStmt
  refine wpAny_bind (wpAny_mono h (fun v s₁ h₁ => ?_) fun _ _ x => x)
  obtain ⟨e, t, rfl, hne, hC, he, hE⟩ := h₁
  refine wpAny_bind (wpAny_holding (hc _ _ (wpAny_bind (wpAny_pure ?_))))
  refine wpAny_bind (wpAny_holding ?_)
  obtain ⟨hp, g, d, tk, os⟩ := s₁
  repeat (first | with_reducible refine wpAny_loadPart_at he ?_ | with_reducible refine wpAny_loadPart_at hC ?_ | (with_reducible refine wpAny_isSubtype_exc hC ?_; rw [hcB]) | wp_step)
  refine wpAny_raiseNew_none hh (hE _ (fun b hb => ?_) ?_)
  · show (Heap.update (Heap.update hp e _) e _).get? b = hp.get? b
    rw [Heap.get?_update_ne _ _ _ _ hb, Heap.get?_update_ne _ _ _ _ hb]
  · exact up_get (up_get he rfl) rfl
end
section
variable {prog : Program} {w : World} {A : Around} {E : Value → Shared → Prop} {s : Shared} {env : Env}
variable {nm q : Str} {C N : Addr} {bs bm bmB : List Value} {hdct : Bool} {sn : List Str} {sub : List Value} {ab : Bool} {col : Option Bool} {dd : Option Addr} {k0 k1 k2 k3 k5 : Option Value} {B newId initId : String}
structure FromExc (h h' : Heap) (e : Addr) (C : Addr) (args : List Value) : Prop where
  keeps : ∀ b o, h.get? b = some o → h'.get? b = some o
  new : h.get? e = none
  there : ∃ t, h'.get? e = some (fromObj C t) ∧ h.get? t = none ∧ h'.get? t = some { cls := .type "tuple", data := .seq args.toArray }
theorem raise_from_sub (F : ExcBaseFacts B newId initId bmB) {mN : Str → Option Value} {x : Str} {np cpos pos p2 : Pos} {args : List Expr} {Q : Flow → Shared → Prop}
    (hbase : bm.contains (.type "BaseException") = true) (hh : A.handled = none) (hplain : (backTo cpos (starEach args env)).any (·.1) = false) (hni : mN "__init__" = none)
    (h : wpAny (model prog w) A (eval (.Name x np) env) (fun f s₁ => f = .ref C ∧ wpAny (model prog w) A (evalArgs (.ref C) true (backTo cpos (starEach args env)) [])
      (fun a s₂ => a.kw = [] ∧ a.pos.length ≤ sizeLine ∧ s₂.heap.get? C = some (excClassObj nm q C N bs bm hdct sn sub ab col dd k0 k1 k2 k3 k5 newId) ∧ s₂.heap.Ns N mN ∧ OwnTail s₂.heap bmB bm ∧
        ∀ h' e, FromExc s₂.heap h' e C a.pos → E (.ref e) { s₂ with heap := h' }) E s₁) E s) :
    wpAny (model prog w) A (exec (.Raise (some (.Call (.Name x np) args [] cpos)) (some (.Constant .none 0 p2)) pos) env) Q E s := by
  rw [arm_exec_Raise]
  have hcn : ∀ (s₁ : Shared) (Q' : Value → Shared → Prop), Q' .none s₁ → wpAny (model prog w) A (do let v ← eval (.Constant .none 0 p2) env; standAt pos; pure v) Q' E s₁ := by
    intro s₁ Q' hq
    refine wpAny_bind ?_
    refine wpAny_Constant_none ?_
    exact wpAny_bind (wpAny_standAt (wpAny_pure hq))
  refine wpAny_bind (wpAny_standAt (raiseStmt_from (C := C) (nm := nm) (q := q) (N := N) (bs := bs) (bm := bm) (hdct := hdct) (sn := sn) (sub := sub) (ab := ab) (col := col) (dd := dd) (k0 := k0) (k1 := k1) (k2 := k2) (k3 := k3) (k5 := k5) (newId := newId) hbase hh hcn ?_))
  refine wpAny_bind (wpAny_mono (wpAny_Call_ofName (wpAny_mono h (fun f s₁ h₁ => ?_) fun _ _ x => x)) (fun v s₃ h₃ => wpAny_bind (wpAny_standAt (wpAny_pure h₃))) fun _ _ x => x)
  obtain ⟨rfl, h₁⟩ := h₁
  unfold callWith
  refine wpAny_bind (wpAny_holding (wpAny_mono h₁ (fun a s₂ h₂ => wpAny_bind (wpAny_standAt ?_)) fun _ _ x => x))
  obtain ⟨apos, akw⟩ := a
  obtain ⟨hkw, hlen, hC, hn, T, h₂⟩ := h₂
  obtain rfl : akw = [] := hkw
  obtain ⟨hp, g, d, tk, os⟩ := s₂
  simp only [hplain]
  refine wpAny_bind (wpAny_keeperOf_exc hC ?_)
  refine wpAny_bind (wpAny_call_exc_subT (hrest := hlen) F T hC hn hni fun h' e hm => wpAny_bind (wpAny_holding (wpAny_point (wpAny_pure ?_))))
  obtain ⟨t, ht, htn, htt⟩ := hm.there
  have hne : e ≠ C := fun z => by have := hm.new; rw [z] at this; exact absurd (hC.symm.trans this) (by simp)
  have hte : t ≠ e := fun z => by rw [z, ht] at htt; cases htt
  exact ⟨e, t, rfl, hne, hm.keeps _ _ hC, ht, fun h'' k k' => h₂ h'' e ⟨fun b o hb => by
    have hbe : b ≠ e := fun z => by rw [z] at hb; exact absurd (hb.symm.trans hm.new) (by simp)
    exact (k b hbe).trans (hm.keeps b o hb), hm.new, t, k', htn, (k t hte).trans htt⟩⟩
end
section
variable {prog : Program} {w : World} {A : Around} {E : Value → Shared → Prop} {s : Shared} {h₀ : Heap} {m : Str → Option Value} {name : Str} {scope : Scope} {L a : Addr} {cd : Value} {mg : Str → Option Value}
  {x : Str} {C : Addr} {B newId initId : String} {bm : List Value} {np cpos pos p2 : Pos} {Q : Flow → Shared → Prop}
theorem raise_own_from {e₀ : Expr} {rest : List Expr} (F : Fr h₀ L s.heap m) (hg : h₀.Ns mainGlobals mg) (O : OwnCls x C bm newId mg h₀) (FB : ExcBaseFacts B newId initId bm) (hh : A.handled = none)
    (h : wpAny (model prog w) A (spliced (backTo cpos (starEach (e₀ :: rest) (envOf name scope L a cd)))) (fun vs s₂ => vs.length ≤ sizeLine ∧ (∀ b o, h₀.get? b = some o → s₂.heap.get? b = some o) ∧
      ∀ h' e, FromExc s₂.heap h' e C vs → E (.ref e) { s₂ with heap := h' }) E s)
    (he : starEach (e₀ :: rest) (envOf name scope L a cd) = (false, eval e₀ (envOf name scope L a cd)) :: starEach rest (envOf name scope L a cd) := by rfl)
    (hplain : (backTo cpos (starEach rest (envOf name scope L a cd))).any (·.1) = false := by rfl)
    (hk : scope.kind = .function := by rfl) (hx : (envOf name scope L a cd).kindOf x = some .globalImplicit := by rfl) (hd : (x == ("__debug__" : Str)) = false := by decide) :
    wpAny (model prog w) A (exec (.Raise (some (.Call (.Name x np) (e₀ :: rest) [] cpos)) (some (.Constant .none 0 p2)) pos) (envOf name scope L a cd)) Q E s := by
  obtain ⟨tl, N, nm, q, bs, hdct, sn, sub, ab, col, dd, k0, k1, k2, k3, k5, mN, hC, hN, hni, T⟩ := O.obj
  refine raise_from_sub (C := C) (nm := nm) (q := q) (N := N) (bs := bs) (bm := tl) (hdct := hdct) (sn := sn) (sub := sub) (ab := ab) (col := col) (dd := dd) (k0 := k0) (k1 := k1) (k2 := k2) (k3 := k3) (k5 := k5)
    FB (mN := mN) (T.hasType FB.hasBase) hh (by rw [he]; show (false || (backTo cpos (starEach rest (envOf name scope L a cd))).any (·.1)) = false; rw [hplain]; rfl) hni (ld_own F hg O ⟨rfl, ?_⟩ hk hx hd)
  rw [he] at h ⊢
  exact Calls.evalArgs_plain (wpAny_mono h (fun vs s₂ h₂ => ⟨rfl, h₂.1, h₂.2.1 _ _ hC, hN.keeps h₂.2.1, T.keeps h₂.2.1, h₂.2.2⟩) fun _ _ y => y)
end
section
variable {M : Model} {A : Around} {E : Value → Shared → Prop}
variable {s' : Shared} {base g g₂ h : Heap} {outer : List Env} {L a e t C : Addr} {m : Str → Option Value} {name : Str} {scope : Scope} {cd : Value} {Q : Unit → Shared → Prop} {news : List (Addr × Obj)}
end
end Mine
end
section
open PySem PySem.W PyProof.Rows PySem.Spec PySem.Calls
set_option maxRecDepth 100000
namespace Mine
def HeldOk (hd : Option Value) (h : Heap) : Prop := hd = none ∨ ∃ e oe ve, hd = some (.ref e) ∧ h.get? e = some oe ∧ oe.data = .fields ve ∧ ve[2]? = some .none
theorem HeldOk.keeps {hd : Option Value} {h h' : Heap} (H : HeldOk hd h) (k : ∀ b o, h.get? b = some o → h'.get? b = some o) : HeldOk hd h' := by
  rcases H with H | ⟨e, oe, ve, h1, h2, h3, h4⟩
  · exact .inl H
  · exact .inr ⟨e, oe, ve, h1, k _ _ h2, h3, h4⟩
theorem heldOk_none (h : Heap) : HeldOk none h := .inl rfl
theorem entry_unchain : entryFor table "proto.unchain" = some Builtin.«proto.unchain» := entryFor_of_fast (by kernel_rfl)
section
variable {prog : Program} {w : World} {A : Around} {E : Value → Shared → Prop} {s : Shared}
theorem raiseNew_ok {α : Type} {a : Addr} {oa : Obj} {va : Array Value} {Q : α → Shared → Prop} (H : HeldOk A.handled s.heap) (ha : s.heap.get? a = some oa) (hda : oa.data = .fields va) (hsz : 2 < va.size) (hnew : ∀ e, A.handled = some (.ref e) → e ≠ a)
    (hE : ∀ h' o', (∀ b o, b ≠ a → s.heap.get? b = some o → h'.get? b = some o) → h'.get? a = some o' → o'.cls = oa.cls → E (.ref a) { s with heap := h' }) :
    wpAny (model prog w) A (raiseNew (.ref a) : Sem α) Q E s := by
  unfold raiseNew
  refine wpAny_bind (wpAny_handled ?_)
  rcases H with H | ⟨e, oe, ve, h1, h2, h3, h4⟩
  · rw [H]
    exact wpAny_bind (wpAny_pure (wpAny_throw (hE s.heap oa (fun _ _ _ e => e) ha rfl)))
  · rw [h1]
    have hne : (Value.ref e != Value.ref a) = true := by
      have := hnew e h1
      simpa using this
    show wpAny _ _ (if (Value.ref e != Value.ref a) = true then _ else _) _ _ s
    rw [if_pos hne]
    refine wpAny_bind ((wpAny_holding (wpAny_runValue (codeAny_builtin entry_unchain ?_))))
    show wpAny _ _ (field (.ref e) 2 >>= _) _ _ s
    refine wpAny_bind (wpAny_field h2 h3 h4 ?_)
    show wpAny _ _ (if (Value.none == Value.none) = true then _ else _) _ _ s
    rw [if_pos (show (Value.none == Value.none) = true from rfl)]
    refine wpAny_pure ?_
    show wpAny _ _ (updateField a 2 (Value.ref e) >>= _) _ _ s
    refine wpAny_bind (m := setField (.ref a) 2 (.ref e)) (wpAny_setField ha hda hsz (wpAny_throw ?_))
    have hd' := Obj.data_mapFields hda (·.setIfInBounds 2 (Value.ref e))
    exact hE _ _ (fun b o hb hg => (Heap.get?_update_other _ _ (Ne.symm hb)).trans hg) (Heap.get?_update_self _ ha (Obj.isFreed_of_fields hd')) (Obj.cls_mapFields _ _)
theorem HeldOk.but {hd : Option Value} {h h' : Heap} {it : Addr} (H : HeldOk hd h) (hne : ∀ e, hd = some (.ref e) → e ≠ it) (k : Heap.ExtBut it h h') : HeldOk hd h' := by
  rcases H with H | ⟨e, oe, ve, h1, h2, h3, h4⟩
  · exact .inl H
  · exact .inr ⟨e, oe, ve, h1, k _ _ (hne e h1) h2, h3, h4⟩
theorem HeldOk.old {hd : Option Value} {h : Heap} (H : HeldOk hd h) : ∀ e, hd = some (.ref e) → e < h.objs.size := by
  intro e he
  rcases H with H | ⟨e', oe, ve, h1, h2, h3, h4⟩
  · rw [H] at he; cases he
  · rw [h1] at he
    cases he
    exact Heap.lt_size h2
theorem stop_end {it : Addr} {h₀ : Heap} {Q : Fin → Shared → Prop} {E' : Value → Shared → Prop} (H : HeldOk A.handled s.heap)
    (hE : ∀ h' a o', (∀ b o, s.heap.get? b = some o → h'.get? b = some o) → h'.get? a = some o' → o'.cls = .type "StopIteration" → E' (.ref a) { s with heap := h' }) (_hx : Heap.ExtBut it h₀ s.heap) :
    wpAny (model prog w) A (newExc (.type "StopIteration") [] >>= fun e => raiseNew e) Q E' s := by
  refine wpAny_bind ?_
  simp only [newExc, newTuple]
  refine wpAny_bind (wpAny_newObj_type ?_ (by size_fits))
  refine wpAny_bind (m := firstArgMember _ _) (wpAny_of_eq (a := Value.none) (by first | rfl | (simp only [firstArgMember]; rfl)) ?_)
  refine wpAny_newObj_type ?_ (by size_fits)
  have up : ∀ (x y : Obj) b o, s.heap.get? b = some o → ((s.heap.push x).push y).get? b = some o := fun x y b o e => Heap.get?_push_of_some _ (Heap.get?_push_of_some _ e)
  refine raiseNew_ok (H.keeps (up _ _)) (Heap.get?_push_size _ rfl) rfl (by rw [Array.size_append]; exact Nat.lt_of_lt_of_le (by decide : 2 < 6) (Nat.le_add_right _ _)) (fun e he => ?_) fun h' o' hk hg hc => ?_
  · have := H.old e he
    have h2 : (s.heap.push { cls := .type "tuple", dict := none, data := .seq ([] : List Value).toArray }).objs.size = s.heap.objs.size + 1 := Heap.size_push ..
    intro hz
    have h3 : @LT.lt Nat _ e s.heap.objs.size := this
    have h4 : @Eq Nat e (s.heap.objs.size + 1) := by rw [← h2]; exact hz
    omega
  · refine hE h' _ o' (fun b o e => hk b o ?_ (up _ _ b o e)) hg hc
    have h2 : (s.heap.push { cls := .type "tuple", dict := none, data := .seq ([] : List Value).toArray }).objs.size = s.heap.objs.size + 1 := Heap.size_push ..
    have h3 : @LT.lt Nat _ b s.heap.objs.size := Heap.lt_size e
    intro hz
    have h4 : @Eq Nat b (s.heap.objs.size + 1) := by rw [← h2]; exact hz
    omega
theorem next_list_end {it l : Addr} {i : Nat} {items : Array Value} {Q : Option Value → Shared → Prop} (H : HeldOk A.handled s.heap) (hne : ∀ e, A.handled = some (.ref e) → e ≠ it)
    (hit : s.heap.IsListIter it l i) (hl : s.heap.IsList l items) (hx : items[i]? = none)
    (hQ : ∀ h', Heap.ExtBut it s.heap h' → Q none { s with heap := h' }) : wpAny (model prog w) A (pyNext (.ref it)) Q E s := by
  obtain ⟨o, ho, hc, hd⟩ := id hit
  obtain ⟨ol, hol, _, nl, hdl⟩ := hl
  unfold pyNext
  refine wpAny_bind (wpAny_attempt (wpAny_callSpecial?_slot (name := Str.ofString "__next__") hit.typeIs slot_listiter_next
    (wpAny_call_entry slot_listiter_next hit.typeIs entry_listiter_next ?_ (args_listiter_next _))))
  show wpAny _ _ (field (.ref it) 0 >>= _) _ _ s
  refine wpAny_bind (wpAny_field ho hd (x := .ref l) rfl ?_)
  show wpAny _ _ (if (Value.ref l == Value.none) = true then _ else _) _ _ s
  rw [if_neg (show ¬ ((Value.ref l == Value.none) = true) from Bool.false_ne_true)]
  show wpAny _ _ (field (.ref it) 1 >>= _) _ _ s
  refine wpAny_bind (wpAny_field ho hd (x := .int i 0) rfl ?_)
  show wpAny _ _ (seqItems? (.ref l) >>= _) _ _ s
  refine wpAny_bind (wpAny_seqItems hol hdl ?_)
  simp only [Int.toNat_natCast, hx]
  refine wpAny_bind (wpAny_rule (wpAny_bind (wpAny_setField ho hd (by simp) ?_)))
  have hs := (Heap.SameBut.update s.heap it (Obj.mapFields (·.setIfInBounds 0 Value.none))).extBut
  refine stop_end (H.but hne hs) (fun h' a o' hk hg hc' => ?_) hs
  refine wpAny_bind (wpAny_isInstance (T := "StopIteration") (b := true) ⟨_, hg, hc'⟩ isSubtype_stop ?_)
  exact wpAny_pure (hQ _ fun b o hb e => hk b o (hs b o hb e))
theorem next_ascii_end {it : Addr} {x : Str} {t : Tok} {i : Nat} {Q : Option Value → Shared → Prop} (H : HeldOk A.handled s.heap) (hne : ∀ e, A.handled = some (.ref e) → e ≠ it)
    (hit : s.heap.IsStrIter it "str_ascii_iterator" x t i) (hx : x.cps[i]? = none)
    (hQ : ∀ h', Heap.ExtBut it s.heap h' → Q none { s with heap := h' }) : wpAny (model prog w) A (pyNext (.ref it)) Q E s := by
  obtain ⟨o, ho, hc, hd⟩ := id hit
  unfold pyNext
  refine wpAny_bind (wpAny_attempt (wpAny_callSpecial?_slot (name := Str.ofString "__next__") hit.typeIs F.slot_str_ascii_iterator_next
    (wpAny_call_entry F.slot_str_ascii_iterator_next hit.typeIs F.entry_str_ascii_iterator_next ?_ (F.args_str_ascii_iterator_next_1 _))))
  show wpAny _ _ (field (.ref it) 0 >>= _) _ _ s
  refine wpAny_bind (wpAny_field ho hd (x := .str x t) rfl ?_)
  show wpAny _ _ (field (.ref it) 1 >>= _) _ _ s
  refine wpAny_bind (wpAny_field ho hd (x := .int i 0) rfl ?_)
  simp only [Int.toNat_natCast, hx]
  refine wpAny_bind (wpAny_rule (wpAny_bind (wpAny_setField ho hd (by simp) (wpAny_bind (wpAny_letGo ?_)))))
  have hs := (Heap.SameBut.update s.heap it (Obj.mapFields (·.setIfInBounds 0 Value.none))).extBut
  refine stop_end (H.but hne hs) (fun h' a o' hk hg hc' => ?_) hs
  refine wpAny_bind (wpAny_isInstance (T := "StopIteration") (b := true) ⟨_, hg, hc'⟩ isSubtype_stop ?_)
  exact wpAny_pure (hQ _ fun b o hb e => hk b o (hs b o hb e))
theorem next_wide_end {it : Addr} {x : Str} {t : Tok} {i : Nat} {Q : Option Value → Shared → Prop} (H : HeldOk A.handled s.heap) (hne : ∀ e, A.handled = some (.ref e) → e ≠ it)
    (hit : s.heap.IsStrIter it "str_iterator" x t i) (hx : x.cps[i]? = none)
    (hQ : ∀ h', Heap.ExtBut it s.heap h' → Q none { s with heap := h' }) : wpAny (model prog w) A (pyNext (.ref it)) Q E s := by
  obtain ⟨o, ho, hc, hd⟩ := id hit
  unfold pyNext
  refine wpAny_bind (wpAny_attempt (wpAny_callSpecial?_slot (name := Str.ofString "__next__") hit.typeIs F.slot_str_iterator_next
    (wpAny_call_entry F.slot_str_iterator_next hit.typeIs F.entry_str_iterator_next ?_ (F.args_str_iterator_next_1 _))))
  show wpAny _ _ (field (.ref it) 0 >>= _) _ _ s
  refine wpAny_bind (wpAny_field ho hd (x := .str x t) rfl ?_)
  show wpAny _ _ (field (.ref it) 1 >>= _) _ _ s
  refine wpAny_bind (wpAny_field ho hd (x := .int i 0) rfl ?_)
  simp only [Int.toNat_natCast, hx]
  refine wpAny_bind (wpAny_rule (wpAny_bind (wpAny_setField ho hd (by simp) (wpAny_bind (wpAny_letGo ?_)))))
  have hs := (Heap.SameBut.update s.heap it (Obj.mapFields (·.setIfInBounds 0 Value.none))).extBut
  refine stop_end (H.but hne hs) (fun h' a o' hk hg hc' => ?_) hs
  refine wpAny_bind (wpAny_isInstance (T := "StopIteration") (b := true) ⟨_, hg, hc'⟩ isSubtype_stop ?_)
  exact wpAny_pure (hQ _ fun b o hb e => hk b o (hs b o hb e))
theorem next_bytes_end {it : Addr} {b : Array UInt8} {t : Tok} {i : Nat} {Q : Option Value → Shared → Prop} (H : HeldOk A.handled s.heap) (hne : ∀ e, A.handled = some (.ref e) → e ≠ it)
    (hit : KBw.IsBytesIter s.heap it b t i) (hx : b[i]? = none)
    (hQ : ∀ h', Heap.ExtBut it s.heap h' → Q none { s with heap := h' }) : wpAny (model prog w) A (pyNext (.ref it)) Q E s := by
  obtain ⟨o, ho, hc, hd⟩ := id hit
  unfold pyNext
  refine wpAny_bind (wpAny_attempt (wpAny_callSpecial?_slot (name := PySem.Str.ofString "__next__") (KBw.iter_typeIs hit) KBw.slot_next
    (wpAny_call_entry KBw.slot_next (KBw.iter_typeIs hit) KBw.entry_next ?_ (KBw.args_next _))))
  show wpAny _ _ (field (.ref it) 0 >>= _) _ _ s
  refine wpAny_bind (wpAny_field ho hd (x := .bytes b t) rfl ?_)
  show wpAny _ _ (if (Value.bytes b t == Value.none) = true then _ else _) _ _ s
  rw [if_neg (show ¬ ((Value.bytes b t == Value.none) = true) from Bool.false_ne_true)]
  show wpAny _ _ (field (.ref it) 1 >>= _) _ _ s
  refine wpAny_bind (wpAny_field ho hd (x := .int i 0) rfl ?_)
  refine wpAny_bind (wpAny_of_eq (a := b) rfl ?_)
  simp only [Int.toNat_natCast, hx]
  refine wpAny_bind (wpAny_rule (wpAny_bind (wpAny_setField ho hd (by simp) ?_)))
  have hs := (Heap.SameBut.update s.heap it (Obj.mapFields (·.setIfInBounds 0 Value.none))).extBut
  refine stop_end (H.but hne hs) (fun h' a o' hk hg hc' => ?_) hs
  refine wpAny_bind (wpAny_isInstance (T := "StopIteration") (b := true) ⟨_, hg, hc'⟩ isSubtype_stop ?_)
  exact wpAny_pure (hQ _ fun b o hb e => hk b o (hs b o hb e))
end
def heldAt : Option Value → List Addr
  | some (.ref e) => [e]
  | _ => []
theorem mem_heldAt {hd : Option Value} {e : Addr} (h : hd = some (.ref e)) : e ∈ heldAt hd := by rw [h]; exact List.mem_singleton.mpr rfl
theorem heldAt_mem {hd : Option Value} {b : Addr} (h : b ∈ heldAt hd) : hd = some (.ref b) := by
  unfold heldAt at h
  split at h
  · rw [List.mem_singleton.mp h]
  · cases h
theorem HeldOk.at {hd : Option Value} {h h' : Heap} (H : HeldOk hd h) (k : ∀ b ∈ heldAt hd, ∀ o, h.get? b = some o → h'.get? b = some o) : HeldOk hd h' := by
  rcases H with H | ⟨e, oe, ve, h1, h2, h3, h4⟩
  · exact .inl H
  · exact .inr ⟨e, oe, ve, h1, k e (mem_heldAt h1) _ h2, h3, h4⟩
theorem HeldOk.there {hd : Option Value} {h : Heap} (H : HeldOk hd h) {b : Addr} (hb : b ∈ heldAt hd) : ∃ o, h.get? b = some o := by
  have h0 := heldAt_mem hb
  rcases H with H | ⟨e, oe, ve, h1, h2, h3, h4⟩
  · rw [H] at h0; cases h0
  · rw [h1] at h0; cases h0; exact ⟨_, h2⟩
theorem held_walks {prog : Program} {w : World} {A : Around} {I : Addr} {fp : List Addr} {n : Nat} {P : Nat → Value → Prop} {St : Nat → Heap → Prop} (hI : I ∈ fp) (hne : ∀ e, A.handled = some (.ref e) → e ≠ I)
    (frame : ∀ i h h', St i h → (∀ b ∈ fp, ∀ o, h.get? b = some o → h'.get? b = some o) → St i h')
    (item : ∀ i (s : Shared) (Q : Option Value → Shared → Prop) (E : Value → Shared → Prop), i < n → St i s.heap → (∀ v h' tk, P i v → St (i + 1) h' → Heap.ExtBut I s.heap h' → Q (some v) { s with heap := h', toks := tk }) → wpAny (model prog w) A (pyNext (.ref I)) Q E s)
    (done : ∀ (s : Shared) (Q : Option Value → Shared → Prop) (E : Value → Shared → Prop), HeldOk A.handled s.heap → St n s.heap → (∀ h', Heap.ExtBut I s.heap h' → Q none { s with heap := h' }) → wpAny (model prog w) A (pyNext (.ref I)) Q E s)
    (self : ∀ i (s : Shared) (Q : Value → Shared → Prop) (E : Value → Shared → Prop), St i s.heap → Q (.ref I) s → wpAny (model prog w) A (pyIter (.ref I)) Q E s) :
    Walks prog w A I (heldAt A.handled ++ fp) [I] n P (fun i h => St i h ∧ HeldOk A.handled h) where
  sub := fun b hb => by rw [List.mem_singleton.mp hb]; exact List.mem_append_right _ hI
  frame := fun i h h' st hk => ⟨frame i h h' st.1 fun b hb => hk b (List.mem_append_right _ hb), st.2.at fun b hb => hk b (List.mem_append_left _ hb)⟩
  item := fun i s Q E hi st hQ => item i s Q E hi st.1 fun v h' tk hp hs hx => hQ v h' tk hp ⟨hs, st.2.but hne hx⟩ fun b o hb e => hx b o (fun q => hb (List.mem_singleton.mpr q)) e
  done := fun s Q E st hQ => done s Q E st.2 st.1 fun h' hx => hQ h' s.toks fun b o hb e => hx b o (fun q => hb (List.mem_singleton.mpr q)) e
  self := fun i s Q E st hQ => self i s Q E st.1 hQ
section
variable {prog : Program} {w : World} {A : Around}
theorem walks_list (I ax : Addr) (hne : ∀ e, A.handled = some (.ref e) → e ≠ I) (hax : ax ≠ I) (items : Array Value) :
    Walks prog w A I (heldAt A.handled ++ [I, ax]) [I] items.size (fun i v => items[i]? = some v) (fun i h => (h.IsListIter I ax i ∧ h.IsList ax items) ∧ HeldOk A.handled h) :=
  held_walks (List.mem_cons_self ..) hne (fun _ _ _ st hk => ⟨st.1.at fun o e => hk I (by simp) o e, st.2.at fun o e => hk ax (by simp) o e⟩)
    (fun i s Q E hi st hQ => wpAny_pyNext_list_item st.1 st.2 (x := items[i]) (by simp [hi]) fun h' hit' hs' => hQ _ h' s.toks (by simp [hi]) ⟨hit', st.2.extBut hs'.extBut hax⟩ hs'.extBut)
    (fun s Q E H st hQ => next_list_end H hne st.1 st.2 (by simp) hQ) (fun _ _ _ _ st hQ => wpAny_pyIter_listiter st.1 hQ)
theorem walks_ascii (I : Addr) (hne : ∀ e, A.handled = some (.ref e) → e ≠ I) (x : Str) (t : Tok) :
    Walks prog w A I (heldAt A.handled ++ [I]) [I] x.cps.size (SignAt x) (fun i h => h.IsStrIter I "str_ascii_iterator" x t i ∧ HeldOk A.handled h) :=
  held_walks (List.mem_cons_self ..) hne (fun _ _ _ st hk => let ⟨o, ho, r⟩ := st; ⟨o, hk I (by simp) o ho, r⟩)
    (fun i s Q E hi st hQ => wpAny_pyNext_ascii_item st (c := x.cps[i]) (by simp [hi]) fun h' hit' hs' => hQ _ h' (s.toks + 1) ⟨_, _, by simp [hi], rfl⟩ hit' hs'.extBut)
    (fun s Q E H st hQ => next_ascii_end H hne st (by simp) hQ) (fun _ _ _ _ st hQ => wpAny_pyIter_striter_ascii st hQ)
theorem walks_wide (I : Addr) (hne : ∀ e, A.handled = some (.ref e) → e ≠ I) (x : Str) (t : Tok) :
    Walks prog w A I (heldAt A.handled ++ [I]) [I] x.cps.size (SignAt x) (fun i h => h.IsStrIter I "str_iterator" x t i ∧ HeldOk A.handled h) :=
  held_walks (List.mem_cons_self ..) hne (fun _ _ _ st hk => let ⟨o, ho, r⟩ := st; ⟨o, hk I (by simp) o ho, r⟩)
    (fun i s Q E hi st hQ => wpAny_pyNext_wide_item st (c := x.cps[i]) (by simp [hi]) fun h' hit' hs' => hQ _ h' (s.toks + 1) ⟨_, _, by simp [hi], rfl⟩ hit' hs'.extBut)
    (fun s Q E H st hQ => next_wide_end H hne st (by simp) hQ) (fun _ _ _ _ st hQ => wpAny_pyIter_striter_wide st hQ)
theorem walks_bytes (I : Addr) (hne : ∀ e, A.handled = some (.ref e) → e ≠ I) (b : Array UInt8) (t : Tok) :
    Walks prog w A I (heldAt A.handled ++ [I]) [I] b.size (fun i v => ∃ c u, b[i]? = some c ∧ v = .int (c.toNat : Int) u) (fun i h => KBw.IsBytesIter h I b t i ∧ HeldOk A.handled h) :=
  held_walks (List.mem_cons_self ..) hne (fun _ _ _ st hk => let ⟨o, ho, r⟩ := st; ⟨o, hk I (by simp) o ho, r⟩)
    (fun i s Q E hi st hQ => KBw.next_item st (c := b[i]) (by simp [hi]) fun h' hit' hs' => hQ _ h' (s.toks + 1) ⟨_, _, by simp [hi], rfl⟩ hit' hs'.extBut)
    (fun s Q E H st hQ => next_bytes_end H hne st (by simp) hQ) (fun _ _ _ _ st hQ => KBw.pyIter_self st hQ)
end
end Mine
end
section
open PySem PySem.W PyProof.Rows PySem.Spec PySem.Calls
set_option maxRecDepth 100000
namespace Mine
section
open LCg
variable {prog : Program} {w : World} {A : Around} {E : Value → Shared → Prop} {s : Shared} {h₀ : Heap} {L : Addr} {m : Str → Option Value} {env : Env}
theorem held_new {h : Heap} (F : Fr h₀ L h m) (HH : HeldOk A.handled h₀) : ∀ e, A.handled = some (.ref e) → e ≠ h.objs.size := fun e he =>
  Nat.ne_of_lt ((HH.keeps F.keep).old e he)
theorem held_lt {hd : Option Value} {h : Heap} {o : Obj} (HH : HeldOk hd h) {b : Addr} (hb : b ∈ heldAt hd ++ [h.objs.size]) : b < (h.push o).objs.size := by
  rw [Heap.size_push]
  rcases List.mem_append.mp hb with hb | hb
  · obtain ⟨o, e⟩ := HH.there hb
    exact Nat.lt_succ_of_lt (Heap.lt_size e)
  · rw [List.mem_singleton.mp hb]; exact Nat.lt_succ_self _
theorem listcomp_textH {elt iter : Expr} {x : Str} {px : Pos} {scope : Scope} {cl : List (Str × Addr)} {pos : Pos} {Q : Value → Shared → Prop} (_F₀ : Fr h₀ L s.heap m) (HH : HeldOk A.handled h₀)
    (hclos : closureFor scope env = pure cl) (hcell : ∀ y ∈ scope.names, y.2 ≠ .cell) (hkind : scope.kind = .function)
    (hnames : ∀ y ∈ scope.names, y.2 = .local → scope.names.lookup y.1 = some .local) (hx : scope.names.lookup x = some .local)
    (h : wpAny (model prog w) A (eval iter env) (fun xv s₁ => ∃ (y : Str) (t : Tok) (news : List (Addr × Obj)), xv = .str y t ∧ Fr h₀ L s₁.heap m ∧ News h₀ L s₁.heap news ∧ y.cps.size ≤ sizeLine ∧
      ∀ s₂ : Shared, (∃ h, s₂ = { s₁ with heap := h }) → CompRest prog w A h₀ L m env elt x scope cl s₂ (fun _ => True) (SignAt y) (FinE h₀ L m s₂ Q) y.cps.size 0 [] news) E s)
    (hs : ∀ x, foldedSetIterable iter env x = pure x := by intro _; rfl) :
    wpAny (model prog w) A (eval (.ListComp elt [⟨.Name x px, iter, [], 0⟩] scope pos) env) Q E s := by
  rw [eval_ListComp]
  refine wpAny_comprehension_free (use := none) rfl hs hclos hkind hnames (wpAny_mono h (fun xv s₁ h₁ => ?_) fun _ _ e => e)
  obtain ⟨y, t, news, rfl, F, N, hsz, R⟩ := h₁
  have fin : ∀ (o : Obj), ∀ D C (h : Heap) tk m' ys news', Fr h₀ L h m → News h₀ L h ((D, lst ys) :: news') → Off1 D news' → h.Ns C m' → h₀.get? C = none → h₀.get? D = none → C ≠ L → D ≠ L → C ≠ D → (∀ p ∈ news', p.1 ≠ C) → FinE h₀ L m { s₁ with heap := s₁.heap.push o } Q ys news' →
      ∃ m', h.Ns C m' ∧ ∀ h'', Heap.SameBut C h h'' → Q (.ref D) { s₁ with heap := h'', toks := tk } := by
    intro o D C h tk m' ys news' F' N' o1 hn hC₀ hD₀ hCL hDL hCD offC fin
    refine ⟨m', hn, fun h'' hs'' => fin D h'' tk (F'.change hs'' hCL hC₀) (fun p hp => ?_) o1⟩
    refine ⟨hs''.extBut _ _ ?_ (N' p hp).1, (N' p hp).2⟩
    rcases List.mem_cons.mp hp with rfl | hp
    · exact Ne.symm hCD
    · exact offC p hp
  cases ha : y.cps.all (· < 128)
  · refine wpAny_pyIter_wide ha ?_
    refine block_U (walks_wide s₁.heap.objs.size (held_new F HH) y t) hsz (fun i h st => by obtain ⟨o, e, _⟩ := st.1; exact ⟨o, e⟩) (fun i h h' o nw st e1 e2 k n z => ⟨striter_st i h h' o nw st.1 e1 e2 k n z, HH.keeps k⟩) hcell hkind hx ⟨⟨_, Heap.get?_push_size _ rfl, rfl, rfl⟩, (HH.keeps F.keep).keeps fun _ _ e => Heap.get?_push_of_some _ e⟩ (fun b hb => ?_)
      (F.keeps fun _ _ e => Heap.get?_push_of_some _ e) (N.grown fun _ _ e => Heap.get?_push_of_some _ e) (Nat.ne_of_lt F.ns.lt) (next_is_new F) (fun p hp => Nat.ne_of_lt (Heap.lt_size (N p hp).1)) trivial (R _ ⟨_, rfl⟩) (fun D C h tk m' ys news' a b c d e f g i j k l => fin _ D C h tk m' ys news' a b c d e f g i j k l)
    exact held_lt (HH.keeps F.keep) hb
  · refine wpAny_pyIter_ascii ha ?_
    refine block_U (walks_ascii s₁.heap.objs.size (held_new F HH) y t) hsz (fun i h st => by obtain ⟨o, e, _⟩ := st.1; exact ⟨o, e⟩) (fun i h h' o nw st e1 e2 k n z => ⟨striter_st i h h' o nw st.1 e1 e2 k n z, HH.keeps k⟩) hcell hkind hx ⟨⟨_, Heap.get?_push_size _ rfl, rfl, rfl⟩, (HH.keeps F.keep).keeps fun _ _ e => Heap.get?_push_of_some _ e⟩ (fun b hb => ?_)
      (F.keeps fun _ _ e => Heap.get?_push_of_some _ e) (N.grown fun _ _ e => Heap.get?_push_of_some _ e) (Nat.ne_of_lt F.ns.lt) (next_is_new F) (fun p hp => Nat.ne_of_lt (Heap.lt_size (N p hp).1)) trivial (R _ ⟨_, rfl⟩) (fun D C h tk m' ys news' a b c d e f g i j k l => fin _ D C h tk m' ys news' a b c d e f g i j k l)
    exact held_lt (HH.keeps F.keep) hb
theorem listcomp_listH {elt iter : Expr} {x : Str} {px : Pos} {scope : Scope} {cl : List (Str × Addr)} {pos : Pos} {Q : Value → Shared → Prop} (_F₀ : Fr h₀ L s.heap m) (HH : HeldOk A.handled h₀)
    (hclos : closureFor scope env = pure cl) (hcell : ∀ y ∈ scope.names, y.2 ≠ .cell) (hkind : scope.kind = .function)
    (hnames : ∀ y ∈ scope.names, y.2 = .local → scope.names.lookup y.1 = some .local) (hx : scope.names.lookup x = some .local)
    (h : wpAny (model prog w) A (eval iter env) (fun xv s₁ => ∃ (ax : Addr) (its : Array Value) (news : List (Addr × Obj)), xv = .ref ax ∧ Fr h₀ L s₁.heap m ∧ News h₀ L s₁.heap news ∧ SrcAt h₀ ax its news ∧ its.size ≤ sizeLine ∧
      ∀ s₂ : Shared, (∃ h, s₂ = { s₁ with heap := h }) → CompRest prog w A h₀ L m env elt x scope cl s₂ (SrcAt h₀ ax its) (fun i v => its[i]? = some v) (FinE h₀ L m s₂ Q) its.size 0 [] news) E s)
    (hs : ∀ x, foldedSetIterable iter env x = pure x := by intro _; rfl) :
    wpAny (model prog w) A (eval (.ListComp elt [⟨.Name x px, iter, [], 0⟩] scope pos) env) Q E s := by
  rw [eval_ListComp]
  refine wpAny_comprehension_free (use := none) rfl hs hclos hkind hnames (wpAny_mono h (fun xv s₁ h₁ => ?_) fun _ _ e => e)
  obtain ⟨ax, its, news, rfl, F, N, S, hsz, R⟩ := h₁
  have hl := S.list F.keep N
  have hlt : ax < s₁.heap.objs.size := by obtain ⟨_, e, _⟩ := hl; exact Heap.lt_size e
  refine wpAny_pyIter_list hl ?_
  have up : ∀ b o, s₁.heap.get? b = some o → (s₁.heap.push { cls := .type "list_iterator", data := .fields #[.ref ax, .int 0 0] }).get? b = some o := fun b o e => Heap.get?_push_of_some _ e
  refine block_U (walks_list s₁.heap.objs.size ax (held_new F HH) (Nat.ne_of_lt hlt) its) hsz (fun i h st => by obtain ⟨o, e, _⟩ := st.1.1; exact ⟨o, e⟩) (fun i h h' o nw st e1 e2 k n z => ⟨list_st i h h' o nw st.1 e1 e2 k n z, HH.keeps k⟩) hcell hkind hx
    ⟨⟨⟨_, Heap.get?_push_size _ rfl, rfl, rfl⟩, hl.push _⟩, (HH.keeps F.keep).keeps up⟩ (fun b hb => ?_)
    (F.keeps up) (N.grown up) (Nat.ne_of_lt F.ns.lt) (next_is_new F) (fun p hp => Nat.ne_of_lt (Heap.lt_size (N p hp).1)) S (R _ ⟨_, rfl⟩) ?_
  · show b < (s₁.heap.push _).objs.size
    rcases List.mem_append.mp hb with hb | hb
    · exact held_lt (HH.keeps F.keep) (List.mem_append_left _ hb)
    · rcases List.mem_cons.mp hb with hb | hb
      · exact held_lt (HH.keeps F.keep) (List.mem_append_right _ (List.mem_singleton.mpr hb))
      · rw [Heap.size_push, List.mem_singleton.mp hb]; exact Nat.lt_succ_of_lt hlt
  · intro D C h tk m' ys news' F' N' o1 hn hC₀ hD₀ hCL hDL hCD offC fin
    refine ⟨m', hn, fun h'' hs'' => fin D h'' tk (F'.change hs'' hCL hC₀) (fun p hp => ?_) o1⟩
    refine ⟨hs''.extBut _ _ ?_ (N' p hp).1, (N' p hp).2⟩
    rcases List.mem_cons.mp hp with rfl | hp
    · exact Ne.symm hCD
    · exact offC p hp
end
section
variable {prog : Program} {w : World} {A : Around} {E : Value → Shared → Prop} {s : Shared} {env : Env} {h₀ : Heap} {x : PySem.Str} {body : List Stmt} {Q : Flow → Shared → Prop}
theorem kst_bytesH {σ : Type} {b : Array UInt8} {ks : List Int} {len : Nat} {tb : Tok} {m₀ : PySem.Str → Option Value} (Led : σ → List (Addr × Obj)) (ps : σ → List (PySem.Str × Value)) (Facts : σ → Prop) (stored : List PySem.Str) (P : List Int → σ → Prop) (c₀ : σ)
    (hb : KBw.bInts b = ks) (hl : ks.length = len) (HH : HeldOk A.handled h₀) (F : Fr h₀ env.locals s.heap m₀) (N : News h₀ env.locals s.heap (Led c₀)) (hf : Facts c₀) (hk : ∀ p ∈ ps c₀, m₀ p.1 = some p.2) (hp : P [] c₀)
    (turn : ∀ (c : σ) (pre post : List Int) (n : Int) t (u : PySem.Str → Option Value) h tk own, ks = pre ++ n :: post → pre.length < len → 0 ≤ n → n < 256 → OwnOff own ((Led c₀).map (·.1)) → Facts c → P pre c →
      Fr h₀ env.locals h (fun y => if y = x then some (.int n t) else kstB (fun z => if stored.contains z then u z else m₀ z) (ps c) y) → News h₀ env.locals h (Led c ++ own) →
      wpAny (model prog w) A (execs body env) (InvPostN h₀ env.locals (KstS Led ps Facts x stored m₀ P (pre ++ [n])) own ((Led c₀).map (·.1)) { s with heap := h, toks := tk } Q) E { s with heap := h, toks := tk })
    (done : ∀ (c : σ) (u : PySem.Str → Option Value) h tk, ks.length = len → Facts c → P ks c → Fr h₀ env.locals h (fun y => if y = x then u y else kstB (fun z => if stored.contains z then u z else m₀ z) (ps c) y) → News h₀ env.locals h (Led c) → Q .next { s with heap := h, toks := tk }) :
    wpAny (model prog w) A (pyIter (.bytes b tb)) (fun it s₂ => LoopAtV prog w A h₀ env x body Q E it s₂) E s := by
  subst hb
  refine KBw.pyIter_bytes ?_
  have W := walks_bytes (prog := prog) (w := w) (A := A) s.heap.objs.size (held_new F HH) b tb
  have H1 : HeldOk A.handled s.heap := HH.keeps F.keep
  refine loop_invN (fun i m nx => KstS Led ps Facts x stored m₀ P ((KBw.bInts b).take i) m nx) W ?_ ?_ ?_ ?_ ⟨⟨_, Heap.get?_push_size _ rfl, rfl, rfl⟩, H1.keeps fun _ _ e => Heap.get?_push_of_some _ e⟩ (F.push _) (fun p hp => ⟨Heap.get?_push_of_some _ (N p hp).1, (N p hp).2⟩) ⟨c₀, rfl, hf, hk, fun _ _ _ _ => rfl, by simpa using hp⟩ ?_ ?_
  · intro hm
    rcases List.mem_append.mp hm with hm | hm
    · obtain ⟨o, e⟩ := HH.there hm
      exact absurd (Heap.lt_size e) (Nat.not_lt.mpr F.above)
    · exact absurd F.ns.lt ((List.mem_singleton.mp hm) ▸ Nat.lt_irrefl _)
  · intro b' hb
    rw [List.mem_singleton.mp hb]
    exact next_is_new F
  · intro p hp hI
    exact absurd (Heap.lt_size (N p hp).1) ((List.mem_singleton.mp hI) ▸ Nat.lt_irrefl _)
  · intro p hp hI
    rcases List.mem_append.mp hI with hI | hI
    · obtain ⟨o, e⟩ := HH.there hI
      have := (N p hp).2.2
      rw [this] at e; cases e
    · exact absurd (Heap.lt_size (N p hp).1) ((List.mem_singleton.mp hI) ▸ Nat.lt_irrefl _)
  · rintro i v m₁ nx h tk own hi ⟨n, u, hn, rfl⟩ _ hoff ⟨c, rfl, hf', h1, h2, hp'⟩ F₁ N₁
    have hn' := KBw.ints_get hn
    have hs : (KBw.bInts b).take (i + 1) = (KBw.bInts b).take i ++ [(n.toNat : Int)] := by simp [List.take_add_one, hn']
    have e : KBw.bInts b = (KBw.bInts b).take i ++ (n.toNat : Int) :: (KBw.bInts b).drop (i + 1) := by
      have ht := List.take_append_drop (i + 1) (KBw.bInts b)
      rw [hs, List.append_assoc] at ht
      exact ht.symm
    have hb := KBw.ints_in (List.mem_of_getElem? hn')
    have hlt : ((KBw.bInts b).take i).length < len := by
      have h9 := congrArg List.length e
      rw [List.length_append, List.length_cons, hl] at h9
      omega
    rw [hs]
    exact turn c _ _ (n.toNat : Int) u m₁ h tk own e hlt hb.1 hb.2 hoff hf' hp' (kst_fr h1 h2 F₁) N₁
  · rintro m₁ nx h tk ⟨c, rfl, hf', h1, h2, hp'⟩ F₁ N₁
    have h8 : b.size = (KBw.bInts b).length := (KBw.ints_length b).symm
    rw [h8, List.take_length] at hp'
    exact done c m₁ h tk hl hf' hp' (kst_frOut h1 h2 F₁) N₁
end
end Mine
end
section
open PySem PySem.W PyProof.Rows PySem.Spec PySem.Calls
set_option maxRecDepth 100000
namespace Mine
def TracedP (h base : Heap) (e : Addr) (cls : Value) (P : Array Value → Prop) : Prop :=
  ∃ oe vs T oT ts, h.get? e = some oe ∧ (oe.cls = cls ∧ P vs) ∧ oe.data = .fields vs ∧ vs[1]? = some (.ref T) ∧ base.get? T = none ∧ T ≠ e ∧ h.get? T = some oT ∧ oT.data = .fields ts ∧ ts[3]? = some .none
def TracedAtP (h base : Heap) (e : Addr) (cls : Value) (P : Array Value → Prop) (fl : Value) : Prop :=
  ∃ oe vs T oT ts, h.get? e = some oe ∧ (oe.cls = cls ∧ P vs) ∧ oe.data = .fields vs ∧ vs[1]? = some (.ref T) ∧ base.get? T = none ∧ T ≠ e ∧ h.get? T = some oT ∧ oT.data = .fields ts ∧ ts[3]? = some fl
theorem TracedP.at {h base : Heap} {e : Addr} {cls : Value} {P : Array Value → Prop} (x : TracedP h base e cls P) : TracedAtP h base e cls P .none := x
theorem TracedAtP.there {h base : Heap} {e : Addr} {cls : Value} {P : Array Value → Prop} {fl : Value} (x : TracedAtP h base e cls P fl) : ∃ ob, h.get? e = some ob ∧ ob.cls = cls := by
  obtain ⟨oe, _, _, _, _, he, hc, _⟩ := x
  exact ⟨oe, he, hc.1⟩
def NotedP (base : Heap) (l : List Env) (e : Addr) (cls : Value) (P : Array Value → Prop) (fl : Value) (h h' : Heap) : Prop :=
  base.StaysIn h' ∧ h'.FunFrames base l ∧ TracedAtP h' base e cls P fl ∧ ∀ b o, h.get? b = some o → (∀ vs, o.data ≠ .fields vs) → ∃ sl, h'.get? b = some { o with slots := sl }
section
variable {M : Model} {A : Around} {E : Value → Shared → Prop} {s : Shared}
def LeftP (base : Heap) (l : List Env) (e : Addr) (cls : Value) (P : Array Value → Prop) (h h' : Heap) : Prop :=
  base.StaysIn h' ∧ h'.FunFrames base l ∧ TracedP h' base e cls P ∧
    ∀ b o, h.get? b = some o → (∀ vs, o.data ≠ .fields vs) → ∃ sl, h'.get? b = some { o with slots := sl }

theorem newEntryP {base : Heap} {env : Env} {outer : List Env} {L e : Addr} {oe : Obj} {vs : Array Value} {head : Value} {P : Array Value → Prop} {hadNext : Bool} {Q : Unit → Shared → Prop} (KP : ∀ vs x, P vs → P (vs.setIfInBounds 1 x))
    (hfr : A.frames = some (env :: outer)) (hl : s.heap.FunFrames base (env :: outer)) (hf : env.frame = some L)
    (he : s.heap.get? e = some oe) (hkb : base.StaysIn s.heap) (hen : base.get? e = none) (hd : oe.data = .fields vs) (hsz : 1 < vs.size) (h0 : P vs)
    (h : ∀ h', LeftP base (env :: outer) e oe.cls P s.heap h' → Q () { s with heap := h' }) :
    wpAny M A (do let a ← frameOf env; let pl ← entryPlaceOf L hadNext; let b ← EntryCells.newEntry head a .none (rawInt L) .none pl; setField (.ref e) 1 b) (fun _ s' => wpAny M A (setFlight (.ref e) none) Q E s') E s := by
  have hene : e ∉ (env :: outer).filterMap (·.frame) := fun hm => by
    obtain ⟨_, o, ho, hnf⟩ := hl.mem hm
    rw [he] at ho; injection ho with ho; subst ho; exact hnf vs hd
  refine wpAny_bind (wpAny_frameOf_fun hfr hl hf fun h₁ hs₁ => ?_)
  refine wpAny_bind (wpAny_entryPlaceOf fun pl hpl => ?_)
  unfold EntryCells.newEntry newFields
  refine wpAny_bind (wpAny_newObj_type ?_ (hpl.sizeOk5 _ _ _ _ _))
  have he₁ : h₁.get? e = some oe := (hs₁.2.1 e hene).trans he
  have kb₁ : base.StaysIn h₁ := fun b o hbo => (hs₁.2.1 b fun hm => by rw [(hl.mem hm).1] at hbo; cases hbo).trans (hkb b o hbo)
  have he₂ := Heap.get?_push_of_some (h := h₁) { cls := .type "traceback", dict := none, data := .fields ([head, .ref L, .none, rawInt L, .none] ++ (if pl.isEmpty then List.replicate 6 Value.none else pl)).toArray } he₁
  refine wpAny_setField he₂ hd hsz ?_
  have hTe : h₁.objs.size ≠ e := Nat.ne_of_gt (Heap.lt_size he₁)
  have hd₃ := Obj.data_mapFields hd (·.setIfInBounds 1 (Value.ref h₁.objs.size))
  have he₃ := Heap.get?_update_self (Obj.mapFields (·.setIfInBounds 1 (Value.ref h₁.objs.size))) he₂ (Obj.isFreed_of_fields hd₃)
  have hT₃ := (Heap.get?_update_other (h₁.push { cls := .type "traceback", dict := none, data := .fields ([head, .ref L, .none, rawInt L, .none] ++ (if pl.isEmpty then List.replicate 6 Value.none else pl)).toArray })
    (Obj.mapFields (·.setIfInBounds 1 (Value.ref h₁.objs.size))) (Ne.symm hTe)).trans (Heap.get?_push_size h₁ rfl)
  unfold setFlight
  refine wpAny_bind (wpAny_field he₃ hd₃ (x := .ref h₁.objs.size) (by simp [hsz]) ?_)
  rw [if_pos (show (Value.ref h₁.objs.size != Value.none) = true from by simp)]
  refine wpAny_setField hT₃ rfl (by simp only [List.size_toArray, List.length_append, List.length_cons, List.length_nil] <;> omega) (h _ ?_)

  have keep : ∀ b o, b ≠ e → h₁.get? b = some o →
      (((h₁.push { cls := .type "traceback", dict := none, data := .fields ([head, .ref L, .none, rawInt L, .none] ++ (if pl.isEmpty then List.replicate 6 Value.none else pl)).toArray }).update e (Obj.mapFields (·.setIfInBounds 1 (Value.ref h₁.objs.size)))).update h₁.objs.size
        (Obj.mapFields (·.setIfInBounds 3 ((none : Option Addr).elim Value.none fun f => rawInt f)))).get? b = some o := fun b o hbe hb => by
    have hbT : h₁.objs.size ≠ b := Nat.ne_of_gt (Heap.lt_size hb)
    rw [Heap.get?_update_other _ _ hbT, Heap.get?_update_other _ _ (Ne.symm hbe)]
    exact Heap.get?_push_of_some _ hb
  have noRecord : ∀ b o, s.heap.get? b = some o → (∀ vs, o.data ≠ .fields vs) → b ≠ e := fun b o hb hnf q => by
    rw [q, he] at hb; injection hb with hb; subst hb; exact hnf vs hd
  refine ⟨fun b o hbo => keep b o (fun q => by rw [q, hen] at hbo; cases hbo) (kb₁ b o hbo), hl.of_keeps fun b o hb hnf => ?_, ?_, fun b o hb hnf => ?_⟩
  · obtain ⟨sl, hs⟩ := hs₁.2.2 b o hb
    exact ⟨_, keep b _ (noRecord b o hb hnf) hs, rfl⟩
  · refine ⟨_, _, h₁.objs.size, _, _, ?_, ⟨Obj.cls_mapFields _ _, KP _ _ h0⟩, hd₃, by simp [hsz], kb₁.fresh, hTe, Heap.get?_update_self _ hT₃ (Obj.isFreed_of_fields (Obj.data_mapFields rfl _)), Obj.data_mapFields rfl _, by first | (simp; done) | (rcases hpl with rfl | ⟨_, _, _, _, _, _, _, rfl⟩ <;> simp)⟩
    rw [Heap.get?_update_other _ _ hTe]; exact he₃
  · obtain ⟨sl, hs⟩ := hs₁.2.2 b o hb
    exact ⟨sl, keep b _ (noRecord b o hb hnf) hs⟩

theorem leaving_firstP {base : Heap} {env : Env} {outer : List Env} {L e : Addr} {oe : Obj} {vs : Array Value} {P : Array Value → Prop} {Q : Unit → Shared → Prop} (KP : ∀ vs x, P vs → P (vs.setIfInBounds 1 x))
    (hfr : A.frames = some (env :: outer)) (hl : s.heap.FunFrames base (env :: outer)) (hf : env.frame = some L)
    (he : s.heap.get? e = some oe) (hkb : base.StaysIn s.heap) (hen : base.get? e = none) (hd : oe.data = .fields vs) (h1 : vs[1]? = some .none) (h0 : P vs)
    (h : ∀ h', LeftP base (env :: outer) e oe.cls P s.heap h' → Q () { s with heap := h' }) : wpAny M A (leaving env (.ref e)) Q E s := by
  unfold leaving noteFrame
  simp only [hf]
  refine wpAny_bind (wpAny_bind (wpAny_field he hd h1 ?_))
  rw [if_neg (by decide)]
  exact newEntryP KP hfr hl hf he hkb hen hd (Array.getElem?_eq_some_iff.mp h1).1 h0 h

def FlyingP (base : Heap) (l : List Env) (e : Addr) (cls : Value) (P : Array Value → Prop) (h : Heap) : Prop :=
  base.StaysIn h ∧ base.get? e = none ∧ h.FunFrames base l ∧ TracedP h base e cls P

theorem entryP {base : Heap} {env : Env} {outer : List Env} {L e : Addr} {oe : Obj} {vs : Array Value} {head : Value} {P : Array Value → Prop} {hadNext : Bool} {Q : Unit → Shared → Prop} (KP : ∀ vs x, P vs → P (vs.setIfInBounds 1 x))
    (hfr : A.frames = some (env :: outer)) (hl : s.heap.FunFrames base (env :: outer)) (hf : env.frame = some L)
    (he : s.heap.get? e = some oe) (hkb : base.StaysIn s.heap) (hen : base.get? e = none) (hd : oe.data = .fields vs) (hsz : 1 < vs.size) (h0 : P vs)
    (h : ∀ h', NotedP base (env :: outer) e oe.cls P (rawInt L) s.heap h' → Q () { s with heap := h' }) :
    wpAny M A (do let a ← frameOf env; let pl ← entryPlaceOf L hadNext; let b ← EntryCells.newEntry head a .none (rawInt L) .none pl; setField (.ref e) 1 b) Q E s := by
  have hene : e ∉ (env :: outer).filterMap (·.frame) := fun hm => by
    obtain ⟨_, o, ho, hnf⟩ := hl.mem hm
    rw [he] at ho; injection ho with ho; subst ho; exact hnf vs hd
  refine wpAny_bind (wpAny_frameOf_fun hfr hl hf fun h₁ hs₁ => ?_)
  refine wpAny_bind (wpAny_entryPlaceOf fun pl hpl => ?_)
  unfold EntryCells.newEntry newFields
  refine wpAny_bind (wpAny_newObj_type ?_ (hpl.sizeOk5 _ _ _ _ _))
  have he₁ : h₁.get? e = some oe := (hs₁.2.1 e hene).trans he
  have kb₁ : base.StaysIn h₁ := fun b o hbo => (hs₁.2.1 b fun hm => by rw [(hl.mem hm).1] at hbo; cases hbo).trans (hkb b o hbo)
  have he₂ := Heap.get?_push_of_some (h := h₁) { cls := .type "traceback", dict := none, data := .fields ([head, .ref L, .none, rawInt L, .none] ++ (if pl.isEmpty then List.replicate 6 Value.none else pl)).toArray } he₁
  refine wpAny_setField he₂ hd hsz (h _ ?_)
  have hTe : h₁.objs.size ≠ e := Nat.ne_of_gt (Heap.lt_size he₁)
  have hd₃ := Obj.data_mapFields hd (·.setIfInBounds 1 (Value.ref h₁.objs.size))
  have he₃ := Heap.get?_update_self (Obj.mapFields (·.setIfInBounds 1 (Value.ref h₁.objs.size))) he₂ (Obj.isFreed_of_fields hd₃)
  have hT₃ := (Heap.get?_update_other (h₁.push { cls := .type "traceback", dict := none, data := .fields ([head, .ref L, .none, rawInt L, .none] ++ (if pl.isEmpty then List.replicate 6 Value.none else pl)).toArray })
    (Obj.mapFields (·.setIfInBounds 1 (Value.ref h₁.objs.size))) (Ne.symm hTe)).trans (Heap.get?_push_size h₁ rfl)
  have keep : ∀ b o, b ≠ e → h₁.get? b = some o →
      ((h₁.push { cls := .type "traceback", dict := none, data := .fields ([head, .ref L, .none, rawInt L, .none] ++ (if pl.isEmpty then List.replicate 6 Value.none else pl)).toArray }).update e (Obj.mapFields (·.setIfInBounds 1 (Value.ref h₁.objs.size)))).get? b = some o :=
    fun b o hbe hb => by
      rw [Heap.get?_update_other _ _ (Ne.symm hbe)]
      exact Heap.get?_push_of_some _ hb
  have noRecord : ∀ b o, s.heap.get? b = some o → (∀ vs, o.data ≠ .fields vs) → b ≠ e := fun b o hb hnf q => by
    rw [q, he] at hb; injection hb with hb; subst hb; exact hnf vs hd
  refine ⟨fun b o hbo => keep b o (fun q => by rw [q, hen] at hbo; cases hbo) (kb₁ b o hbo), hl.of_keeps fun b o hb hnf => ?_, ?_, fun b o hb hnf => ?_⟩
  · obtain ⟨sl, hs⟩ := hs₁.2.2 b o hb
    exact ⟨_, keep b _ (noRecord b o hb hnf) hs, rfl⟩
  · exact ⟨_, _, h₁.objs.size, _, _, he₃, ⟨Obj.cls_mapFields _ _, KP _ _ h0⟩, hd₃, by simp [hsz], kb₁.fresh, hTe, hT₃, rfl, by first | (simp; done) | (rcases hpl with rfl | ⟨_, _, _, _, _, _, _, rfl⟩ <;> simp)⟩
  · obtain ⟨sl, hs⟩ := hs₁.2.2 b o hb
    exact ⟨sl, keep b _ (noRecord b o hb hnf) hs⟩

theorem noteFrame_onP {base : Heap} {env : Env} {outer : List Env} {L e : Addr} {cls : Value} {P : Array Value → Prop} {Q : Unit → Shared → Prop} (KP : ∀ vs x, P vs → P (vs.setIfInBounds 1 x))
    (hfr : A.frames = some (env :: outer)) (hl : s.heap.FunFrames base (env :: outer)) (hf : env.frame = some L) (ht : TracedP s.heap base e cls P) (hkb : base.StaysIn s.heap) (hen : base.get? e = none)
    (h : ∀ h', NotedP base (env :: outer) e cls P (rawInt L) s.heap h' → Q () { s with heap := h' }) : wpAny M A (noteFrame (.ref e) env) Q E s := by
  obtain ⟨oe, vs, T, oT, ts, he, ⟨hcls, h0⟩, hd, h1, hnT, hTe, hT, hdT, h3⟩ := ht
  subst hcls
  unfold noteFrame
  simp only [hf]
  refine wpAny_bind (wpAny_field he hd h1 ?_)
  rw [if_pos (show (Value.ref T != Value.none) = true from by simp)]
  refine wpAny_bind (wpAny_field hT hdT h3 ?_)
  rw [if_neg (show ¬ ((Value.none == rawInt L) = true) from by simp [rawInt])]
  refine wpAny_bind (wpAny_setField hT hdT (Array.getElem?_eq_some_iff.mp h3).1 ?_)
  have other : ∀ b, b ≠ T → (s.heap.update T (Obj.mapFields (·.setIfInBounds 3 Value.none))).get? b = s.heap.get? b := fun b hb => Heap.get?_update_other _ _ (Ne.symm hb)
  have noRecord : ∀ b o, s.heap.get? b = some o → (∀ vs, o.data ≠ .fields vs) → b ≠ T := fun b o hb hnf q => by
    rw [q, hT] at hb; injection hb with hb; subst hb; exact hnf ts hdT
  refine entryP KP hfr (hl.of_keeps fun b o hb hnf => ⟨o, (other b (noRecord b o hb hnf)).trans hb, rfl⟩) hf ((other e (Ne.symm hTe)).trans he)
    (fun b o hbo => (other b fun q => by rw [q, hnT] at hbo; cases hbo).trans (hkb b o hbo)) hen hd (Array.getElem?_eq_some_iff.mp h1).1 h0
    fun h' ⟨x1, x2, x3, x4⟩ => h h' ⟨x1, x2, x3, fun b o hb hnf => x4 b o ((other b (noRecord b o hb hnf)).trans hb) hnf⟩

theorem setFlight_noneP {base : Heap} {l : List Env} {e : Addr} {cls : Value} {P : Array Value → Prop} {fl : Value} {Q : Unit → Shared → Prop}
    (hkb : base.StaysIn s.heap) (hl : s.heap.FunFrames base l) (ht : TracedAtP s.heap base e cls P fl)
    (h : ∀ h', base.StaysIn h' → h'.FunFrames base l → TracedP h' base e cls P → (∀ b o, s.heap.get? b = some o → (∀ vs, o.data ≠ .fields vs) → h'.get? b = some o) → Q () { s with heap := h' }) :
    wpAny M A (setFlight (.ref e) none) Q E s := by
  obtain ⟨oe, vs, T, oT, ts, he, hcls, hd, h1, hnT, hTe, hT, hdT, h3⟩ := ht
  have hsz3 : 3 < ts.size := (Array.getElem?_eq_some_iff.mp h3).1
  have other : ∀ b, b ≠ T → (s.heap.update T (Obj.mapFields (·.setIfInBounds 3 ((none : Option Addr).elim Value.none fun f => rawInt f)))).get? b = s.heap.get? b :=
    fun b hb => Heap.get?_update_other _ _ (Ne.symm hb)
  have noRecord : ∀ b o, s.heap.get? b = some o → (∀ vs, o.data ≠ .fields vs) → b ≠ T := fun b o hb hnf q => by
    rw [q, hT] at hb; injection hb with hb; subst hb; exact hnf ts hdT
  unfold setFlight
  refine wpAny_bind (wpAny_field he hd h1 ?_)
  rw [if_pos (show (Value.ref T != Value.none) = true from by simp)]
  refine wpAny_setField hT hdT hsz3 (h _ (fun b o hbo => (other b fun q => by rw [q, hnT] at hbo; cases hbo).trans (hkb b o hbo))
    (hl.of_keeps fun b o hb hnf => ⟨o, (other b (noRecord b o hb hnf)).trans hb, rfl⟩) ?_ fun b o hb hnf => (other b (noRecord b o hb hnf)).trans hb)
  exact ⟨oe, vs, T, _, _, (other e (Ne.symm hTe)).trans he, hcls, hd, h1, hnT, hTe, Heap.get?_update_self _ hT (Obj.isFreed_of_fields (Obj.data_mapFields hdT _)), Obj.data_mapFields hdT _, by simp [hsz3]⟩

def HeldP (base : Heap) (l : List Env) (e : Addr) (cls : Value) (P : Array Value → Prop) (L : Addr) (h : Heap) : Prop :=
  base.StaysIn h ∧ base.get? e = none ∧ h.FunFrames base l ∧ TracedAtP h base e cls P (rawInt L)

theorem looks_onP {base : Heap} {env : Env} {outer : List Env} {L e : Addr} {cls : Value} {P : Array Value → Prop} {Q : Unit → Shared → Prop} (KP : ∀ vs x, P vs → P (vs.setIfInBounds 1 x))
    (hfr : A.frames = some (env :: outer)) (hf : env.frame = some L) (hfl : FlyingP base (env :: outer) e cls P s.heap)
    (hQ : ∀ h', HeldP base (env :: outer) e cls P L h' → s.heap.UpToSlots h' → Q () { s with heap := h' }) : wpAny M A (noteFrame (.ref e) env) Q E s := by
  obtain ⟨f1, f2, f3, f4⟩ := hfl
  refine noteFrame_onP KP hfr f3 hf f4 f1 f2 fun h' hN => ?_
  obtain ⟨k1, k2, k3, k4⟩ := hN
  exact hQ h' ⟨k1, f2, k2, k3⟩ k4

theorem landsP {base : Heap} {l : List Env} {e L : Addr} {cls : Value} {P : Array Value → Prop} {Q : Unit → Shared → Prop} (hh : HeldP base l e cls P L s.heap)
    (hQ : ∀ h', FlyingP base l e cls P h' → s.heap.UpToSlots h' → Q () { s with heap := h' }) : wpAny M A (setFlight (.ref e) none) Q E s := by
  obtain ⟨f1, f2, f3, f4⟩ := hh
  exact setFlight_noneP f1 f3 f4 fun h' k1 k2 k3 k4 => hQ h' ⟨k1, f2, k2, k3⟩ fun b o hb hn => ⟨o.slots, k4 b o hb hn⟩
end
end Mine
end
section
open PySem PySem.W PyProof.Rows PySem.Spec PySem.Calls
set_option maxRecDepth 100000
namespace Mine
def PF (t : Addr) (ws : Array Value) : Prop := ws[0]? = some (.ref t) ∧ ws[2]? = some .none
theorem KPF (t : Addr) : ∀ vs x, PF t vs → PF t (vs.setIfInBounds 1 x) := fun vs x h =>
  ⟨by rw [Array.getElem?_setIfInBounds_ne (by decide)]; exact h.1, by rw [Array.getElem?_setIfInBounds_ne (by decide)]; exact h.2⟩
def RaisedP (base G : Heap) (l : List Env) (e : Addr) (cls : Value) (t : Addr) (vs : List Value) (news : List (Addr × Obj)) (h : Heap) : Prop :=
  (∃ B, base.StaysIn B ∧ (∀ b o, G.get? b = some o → b ∉ l.filterMap (·.frame) → B.get? b = some o) ∧ (∀ q ∈ news, B.get? q.1 = some q.2 ∧ G.get? q.1 = none ∧ base.get? q.1 = none) ∧ FlyingP B l e cls (PF t) h ∧ B.get? t = none) ∧ h.TupAt t vs
section
variable {M : Model} {A : Around} {E : Value → Shared → Prop}
theorem againP {s : Shared} {base : Heap} {l : List Env} {e : Addr} {cls : Value} {P : Array Value → Prop} {Q : Unit → Shared → Prop} (hh : FlyingP base l e cls P s.heap)
    (hQ : ∀ h', FlyingP base l e cls P h' → s.heap.UpToSlots h' → Q () { s with heap := h' }) : wpAny M A (setFlight (.ref e) none) Q E s := by
  obtain ⟨f1, f2, f3, f4⟩ := hh
  exact setFlight_noneP f1 f3 f4.at fun h' k1 k2 k3 k4 => hQ h' ⟨k1, f2, k2, k3⟩ fun b o hb hn => ⟨o.slots, k4 b o hb hn⟩
theorem leaves_fromP {s : Shared} {base h : Heap} {env : Env} {outer : List Env} {L e C : Addr} {args : List Value} {Q : Unit → Shared → Prop}
    (hfr : A.frames = some (env :: outer)) (hf : env.frame = some L) (hkb : base.StaysIn h) (hl : h.FunFrames base (env :: outer)) (hx : FromExc h s.heap e C args)
    (hQ : ∀ h' t, FlyingP base outer e (.ref C) (PF t) h' → h'.TupAt t args → base.get? t = none → s.heap.UpToSlots h' → Q () { s with heap := h' }) : wpAny M A (leaving env (.ref e)) Q E s := by
  obtain ⟨t, he, htn, ht⟩ := hx.there
  have fresh : ∀ b, h.get? b = none → base.get? b = none := fun b hb => by
    cases hq : base.get? b with
    | none => rfl
    | some o' => have := hkb b o' hq; rw [hb] at this; cases this
  refine leaving_firstP (P := PF t) (KPF t) hfr (hl.of_keeps fun b o hb _ => ⟨o, hx.keeps b o hb, rfl⟩) hf he (fun b o hb => hx.keeps b o (hkb b o hb)) (fresh e hx.new) rfl rfl ⟨rfl, rfl⟩ fun h' hL => ?_
  obtain ⟨k1, ⟨_, _, k2⟩, k3, k4⟩ := hL
  exact hQ h' t ⟨k1, fresh e hx.new, k2, k3⟩ (Heap.TupAt.of_slots ⟨_, _, ht, rfl, rfl⟩ k4) (fresh t htn) k4
variable {s' : Shared} {base g g₂ h : Heap} {outer : List Env} {L a e t C : Addr} {m : Str → Option Value} {name : Str} {scope : Scope} {cd : Value} {Q : Unit → Shared → Prop} {news : List (Addr × Obj)}
theorem leave_raiseP {vs : List Value} (K : Below A base outer g) (hx : FromExc h s'.heap e C vs) (F : Fr g L h m) (N : News g L h news)
    (hQ : ∀ h' t, RaisedP base g outer e (.ref C) t vs news h' → g.UpToSlots h' → Q () { s' with heap := h' }) (hk : scope.kind = .function := by rfl) :
    wpAny M (A.deeper (envOf name scope L a cd)) (leaving (envOf name scope L a cd) (.ref e)) Q E s' := by
  have K' := K.push (name := name) (a := a) (cd := cd) F hk
  have hin : ∀ env ∈ (envOf name scope L a cd :: outer), ∀ b, env.frame = some b → b ∈ (envOf name scope L a cd :: outer).filterMap (·.frame) := fun env he b hb => List.mem_filterMap.mpr ⟨env, he, hb⟩
  have st : base.StaysIn (hideAll h ((envOf name scope L a cd :: outer).filterMap (·.frame))) := fun b o q => hideAll_get _ (K'.stays b o q) fun hm => by
    rw [(K'.frames.mem hm).1] at q; cases q
  have sg : ∀ b o, g.get? b = some o → b ∉ outer.filterMap (·.frame) → (hideAll h ((envOf name scope L a cd :: outer).filterMap (·.frame))).get? b = some o := fun b o q nm => hideAll_get _ (F.keep b o q) fun hm => by
    rcases kts_mem hm with z | z
    · rw [z, kts_self F] at q
      cases q
    · exact nm z
  have hl : ∀ q ∈ news, (hideAll h ((envOf name scope L a cd :: outer).filterMap (·.frame))).get? q.1 = some q.2 ∧ g.get? q.1 = none ∧ base.get? q.1 = none := fun q hq => by
    refine ⟨hideAll_get _ (N q hq).1 fun hm => ?_, (N q hq).2.2, fresh_of_stays K.stays (N q hq).2.2⟩
    obtain ⟨env, he, hf⟩ := List.mem_filterMap.mp hm
    rcases List.mem_cons.mp he with rfl | he
    · exact (N q hq).2.1 (Option.some.inj hf).symm
    · obtain ⟨o, ho, _⟩ := (K.frames.mem (List.mem_filterMap.mpr ⟨env, he, hf⟩)).2
      rw [(N q hq).2.2] at ho; cases ho
  exact leaves_fromP K'.stack rfl (fun b o q => of_hideAll _ q) (funFrames_hide K'.frames hin) hx fun h' t x1 x2 x3 x4 =>
    hQ h' t ⟨⟨_, st, sg, hl, x1, x3⟩, x2⟩ (((Heap.UpToSlots.of_keeps F.keep).trans (Heap.UpToSlots.of_keeps hx.keeps)).trans x4)
end
section
variable {prog : Program} {w : World} {A₀ : Around} {E : Value → Shared → Prop} {s' : Shared} {base g g₀ G : Heap} {outer : List Env} {L a e t C : Addr} {m : Str → Option Value} {name : Str} {scope : Scope} {cd : Value}
  {vs : List Value} {n : Str} {b₀ : Stmt} {suite : List Stmt} {pos np : Pos} {rest : List ExceptHandler} {Q : Flow → Shared → Prop} {news : List (Addr × Obj)} {KF : Frag}
  {p : Program} {loose : List Str} {mean : ExcName → Option Value} {mg mb : Str → Option Value} {x : Str}
theorem caughtP (R : RaisedP base G (envOf name scope L a cd :: outer) e (.ref C) t vs news s'.heap) (F : Fr g L G m) (K : Below A₀ base outer g) (hsm : G.UpToSlots s'.heap) (XB : KF.In base) (TB : Top p loose mean mg mb base)
    (D : KtsDicts (outer.filterMap (·.frame)) g) (T0 : KtsTurn (outer.filterMap (·.frame)) g₀ g)
    (ex : nsIn KF mainGlobals x = some (some (.ref C))) (q : ktsIn KF C "BaseException" = true)
    (k : ∀ h' g' tk d₁ ws sl₁ d₂ nt sl₂, KtsTurn (outer.filterMap (·.frame)) g₀ g' → Fr g' L h' (fun y => if y = n then some (.ref e) else m y) → News g' L h' ((e, excAt C d₁ ws sl₁) :: (t, tupAt d₂ vs nt sl₂) :: news) → PF t ws → (∀ q ∈ (t, tupAt d₂ vs nt sl₂) :: news, q.1 ≠ e) → Below A₀ base outer g' → KF.In g' → Top p loose mean mg mb g' → KtsDicts (outer.filterMap (·.frame)) g' →
      wpAny (model prog w) ((A₀.deeper (envOf name scope L a cd)).mark (some (.ref e))) (execs (b₀ :: suite) (envOf name scope L a cd))
        (fun f s₄ => wpAny (model prog w) (A₀.deeper (envOf name scope L a cd)) (do bindName (envOf name scope L a cd) n .none; unbindBehindTheSuite (envOf name scope L a cd) n pos) (fun _ s₅ => Q f s₅) E s₄)
        (AsSuiteRaised (model prog w) ((A₀.deeper (envOf name scope L a cd)).mark (some (.ref e))) (envOf name scope L a cd) n pos (notedBy (model prog w) ((A₀.deeper (envOf name scope L a cd)).mark (some (.ref e))) (envOf name scope L a cd) (cameBackBy (model prog w) (A₀.deeper (envOf name scope L a cd)) (envOf name scope L a cd) E)))
        { s' with heap := h', toks := tk })
    (hk : scope.kind = .function := by rfl) (hlo : (envOf name scope L a cd).kindOf n = some .local := by rfl) (hx : (envOf name scope L a cd).kindOf x = some .globalImplicit := by rfl) (hd : (x == ("__debug__" : Str)) = false := by decide) :
    wpAny (model prog w) (A₀.deeper (envOf name scope L a cd)) (noteFrame (.ref e) (envOf name scope L a cd))
      (fun _ s₂ => wpAny (model prog w) (A₀.deeper (envOf name scope L a cd)) (setFlight (.ref e) none) (fun _ s₃ =>
        wpAny (model prog w) (A₀.deeper (envOf name scope L a cd)) (handleBy (.ref e) (envOf name scope L a cd) (.ExceptHandler (some (.Name x np)) (some n) (b₀ :: suite) pos :: rest)) Q E s₃) E s₂) E s' := by
  obtain ⟨⟨B, hB, hBG, hl, hfl, hnew⟩, htup⟩ := R
  have hL : B.get? L = none := by
    obtain ⟨_, ⟨L', _, hf, hn', _⟩, _⟩ := hfl.2.2.1
    obtain rfl : L = L' := Option.some.inj hf
    exact hn'
  refine looks_onP (KPF t) (Around.frames_deeper K.stack) rfl hfl fun h₄ hheld₄ hsm₄ => ?_
  refine landsP hheld₄ fun h₅ hheld hsm₅' => ?_
  have hsm₅ := hsm₄.trans hsm₅'
  obtain ⟨g₅, T₅, F₅, K₅⟩ := kts_ground K F hBG hheld.1 (hsm.trans hsm₅)
  have X₅ : KF.In g₅ := XB.keeps K₅.stays
  have P₅ : TopRead p loose mg mb g₅ := topRead_of (TB.keeps K₅.stays)
  obtain ⟨ob, hob, hobc⟩ := hheld.2.2.2.at.there
  obtain ⟨nm, q', N, bs, bm, hdct, sn, sub, ab, col, dd, k0, k1, k2, k3, k5, newId, hC, hbase, hbT⟩ := kts_cls X₅ q
  have hC₅ := F₅.keep _ _ hC
  refine wpAny_handleBy_cons (codeAny_handlers_test (name_K F₅ X₅ P₅ ex ?_ hk hx hd)) (by intro q; cases q)
  refine wpAny_excMatches_sub_self hC₅ hob hobc hbase (codeAny_handlers_suite_as ?_)
  refine againP hheld fun h₆ hfl₆ hsm₆ => ?_
  obtain ⟨g₆, T₆, F₆, K₆⟩ := kts_ground K F hBG hfl₆.1 ((hsm.trans hsm₅).trans hsm₆)
  obtain ⟨oe, ws, T9, oT9, ts9, hoe, ⟨hoec, hoe0⟩, hoed, _⟩ := hfl₆.2.2.2
  obtain ⟨ot, nt, hot, hotc, hotd⟩ := (htup.of_slots hsm₅).of_slots hsm₆
  have ne₆ : g₆.get? e = none := T₆.none_ _ (kts_fresh F hBG hfl₆.2.1 fun o ho m => by
    obtain ⟨_, o', ho', hd⟩ := K.frames.mem m
    rw [ho] at ho'
    cases ho'
    obtain ⟨sl, hs⟩ := ((hsm.trans hsm₅).trans hsm₆) _ _ (F.keep _ _ ho) hd
    rw [hoe] at hs
    cases hs
    exact hd _ hoed)
  have nt₆ : g₆.get? t = none := T₆.none_ _ (kts_fresh F hBG hnew fun o ho m => by
    obtain ⟨o', es, n', ho', hd⟩ := D _ m
    rw [ho] at ho'
    cases ho'
    obtain ⟨sl, hs⟩ := ((hsm.trans hsm₅).trans hsm₆) _ _ (F.keep _ _ ho) (fun vs q => by rw [hd] at q; cases q)
    rw [hot] at hs
    cases hs
    have z := hd.symm.trans hotd
    cases z)
  have N₆ := News.more F₆ (News.more F₆ News.nil hot (fun es n q => by rw [hotd] at q; cases q) nt₆) hoe (fun es n q => by rw [hoed] at q; cases q) ne₆
  have Nl : News g₆ L h₆ news := fun q hq => ⟨hfl₆.1 _ _ (hl q hq).1, (fun z => by have := (hl q hq).1; rw [z, hL] at this; cases this), T₆.none_ _ (kts_none F.keep (hl q hq).2.1)⟩
  have X₆ : KF.In g₆ := XB.keeps K₆.stays
  have P₆ : Top p loose mean mg mb g₆ := TB.keeps K₆.stays
  have D₆ : KtsDicts (outer.filterMap (·.frame)) g₆ := D.turn T₆
  refine stN F₆ (news := _ ++ news) (fun q hq => (List.mem_append.mp hq).elim (N₆ q) (Nl q)) (fun h₇ F₇ N₇ => ?_) hk hlo
  obtain ⟨c1, d1, dt1, sl1⟩ := oe
  obtain ⟨c2, d2, dt2, sl2⟩ := ot
  dsimp only at hoec hoed hotc hotd
  subst hoec hoed hotc hotd
  refine k h₇ g₆ _ d1 ws sl1 d2 nt sl2 (T0.trans T₆) F₇ ?_ hoe0 ?_ K₆ X₆ P₆ D₆
  · intro q hq
    rcases List.mem_cons.mp hq with rfl | hq
    · exact N₇ _ (List.mem_append_left _ (.head _))
    · rcases List.mem_cons.mp hq with rfl | hq
      · exact N₇ _ (List.mem_append_left _ (.tail _ (.head _)))
      · exact N₇ _ (List.mem_append_right _ hq)
  · intro q hq hz
    rcases List.mem_cons.mp hq with rfl | hq
    · rw [show t = e from hz] at hot
      rw [hoe] at hot
      cases hot
    · have h9 := (hl q hq).1
      rw [hz, hfl.2.1] at h9
      cases h9
end
end Mine
end
section
open PySem PySem.W PyProof.Rows PySem.Spec PySem.Calls
set_option maxRecDepth 100000
namespace Mine
theorem get_iff {h : Heap} {a : Addr} {o : Obj} : h.get? a = some o ↔ h.objs[a]? = some o ∧ o.isFreed = false := by
  unfold Heap.get?
  cases e : h.objs[a]? with
  | none => simp
  | some x =>
    obtain ⟨c, d, dt, sl⟩ := x
    cases dt <;> simp only [Option.some.injEq, reduceCtorEq, false_iff, not_and, Bool.not_eq_false]
    all_goals first
      | (constructor
         · rintro rfl; exact ⟨rfl, rfl⟩
         · rintro ⟨rfl, _⟩; rfl)
      | (rintro rfl; rfl)
theorem with_obj {g : Heap} {n : Nat} {e : Addr} {o : Obj} (hg : g.objs.size ≤ n) (he : @LT.lt Nat _ e n) (ho : o.isFreed = false) (hn : g.get? e = none) :
    ∃ g' : Heap, g'.objs.size = n ∧ g'.get? e = some o ∧ (∀ b x, g.get? b = some x → g'.get? b = some x) ∧ ∀ b, b ≠ e → g.get? b = none → g'.get? b = none := by
  have hsz : (g.objs ++ Array.replicate (n - g.objs.size) ({ cls := .none, data := .freed } : Obj)).size = n := by simp; omega
  refine ⟨⟨(g.objs ++ Array.replicate (n - g.objs.size) ({ cls := .none, data := .freed } : Obj)).setIfInBounds e o, g.life⟩, by simp; omega, ?_, fun b x hb => ?_, fun b hbe hb => ?_⟩
  · rw [get_iff]
    refine ⟨?_, ho⟩
    show ((g.objs ++ Array.replicate (n - g.objs.size) ({ cls := .none, data := .freed } : Obj)).setIfInBounds e o)[e]? = some o
    rw [Array.getElem?_setIfInBounds_self_of_lt (by rw [hsz]; exact he)]
  · have hbe : b ≠ e := fun z => by rw [z, hn] at hb; cases hb
    rw [get_iff] at hb ⊢
    refine ⟨?_, hb.2⟩
    show ((g.objs ++ Array.replicate (n - g.objs.size) ({ cls := .none, data := .freed } : Obj)).setIfInBounds e o)[b]? = some x
    rw [Array.getElem?_setIfInBounds_ne (fun z => hbe z.symm)]
    have hlt : b < g.objs.size := (Array.getElem?_eq_some_iff.mp hb.1).1
    rw [Array.getElem?_append_left hlt]
    exact hb.1
  · cases q : (⟨(g.objs ++ Array.replicate (n - g.objs.size) ({ cls := .none, data := .freed } : Obj)).setIfInBounds e o, g.life⟩ : Heap).get? b with
    | none => rfl
    | some x =>
      exfalso
      rw [get_iff] at q
      obtain ⟨q1, q2⟩ := q
      have q1 : ((g.objs ++ Array.replicate (n - g.objs.size) ({ cls := .none, data := .freed } : Obj)).setIfInBounds e o)[b]? = some x := q1
      rw [Array.getElem?_setIfInBounds_ne (fun z => hbe z.symm)] at q1
      by_cases hlt : @LT.lt Nat _ b g.objs.size
      · rw [Array.getElem?_append_left hlt] at q1
        have : g.get? b = some x := get_iff.mpr ⟨q1, q2⟩
        rw [hb] at this; cases this
      · rw [Array.getElem?_append_right (Nat.le_of_not_lt hlt)] at q1
        have := Array.getElem?_eq_some_iff.mp q1
        obtain ⟨h1, h2⟩ := this
        rw [Array.getElem_replicate] at h2
        subst h2
        exact absurd q2 (by decide)
section
variable {prog : Program} {w : World} {A₀ A : Around} {s : Shared} {base h₀ : Heap} {outer : List Env} {L e : Addr} {oe : Obj} {m : Str → Option Value} {news : List (Addr × Obj)} {K : Frag} {p : Program} {loose : List Str} {mean : ExcName → Option Value} {mg mb : Str → Option Value}
theorem code_defE {env : Env} {R : Result → Shared → Prop} {name qual : Str} {params : Arguments} {body : List Stmt} {scope : Scope} {dV kV doc pm cdv ct oc : Value} {an od : Option Addr} {osl : Array (Option Value)} {f : Addr} {args : Args} {binds : List (Str × Value)}
    (B : Below A₀ base outer h₀) (F : Fr h₀ L s.heap m) (X₀ : K.In h₀) (N : News h₀ L s.heap ((e, oe) :: news)) (off : ∀ p ∈ news, p.1 ≠ e) (T : Top p loose mean mg mb h₀) (hA : A.frames = some (env :: outer)) (hf : env.frame = some L) (hke : env.scope.kind = .function)
    (ho : K.lookup f = some ⟨oc, od, .func (fnOf name qual params body scope dV kV doc pm an cdv ct), osl⟩) (hcd : codeIn K cdv qual = true) (hroom : A.depth < recursionLimit)
    (hbind : BindsTo s (fnOf name qual params body scope dV kV doc pm an cdv ct) args binds) (hloc : ∀ y ∈ binds, scope.names.lookup y.1 = some .local)
    (h : ∀ g L' h₁, Fr h₀ L g m → Fr g L' h₁ (fun y => binds.reverse.lookup y) → News g L' h₁ news → Below A base (env :: outer) g → K.In g → Top p loose mean mg mb g → g.get? e = some oe →
      wpAny (model prog w) (A.deeper (envOf qual scope L' f cdv)) (execs body (envOf qual scope L' f cdv))
        (fun fl s' => LeaveK h₀ L m g (fun r s' => News h₀ L s'.heap [(e, oe)] → R r s') (match fl with | .ret v => v | _ => .none) s')
        (fun e s' => wpAny (model prog w) (A.deeper (envOf qual scope L' f cdv)) (leaving (envOf qual scope L' f cdv) e) (fun _ s'' => R (.error e) s'') (fun e' s'' => R (.error e') s'') s')
        { s with heap := h₁, toks := s.toks + binds.length })
    (hco : scope.isCoroutine = false) (hgen : scope.isGenerator = false) (hk : scope.kind = .function)
    (hcell : ∀ x ∈ scope.names, x.2 ≠ .cell) : codeAny (model prog w) A (.call (.ref f) args) R s := by
  refine callX_plain (cl := []) B F N T.nolimit hA hf hke ((X₀.keeps F.keep) _ _ ho) rfl (codeRec_of (X₀.keeps F.keep) hcd) hroom hbind hloc (fun g L' h₁ FG F' N' B' st l1 => ?_) hcell hco hgen hk
  have hE := N' (e, oe) List.mem_cons_self
  have he0 := N (e, oe) List.mem_cons_self
  obtain ⟨g', hsz, hge, hkeep, hnone⟩ := with_obj F'.above (l1 (e, oe) List.mem_cons_self) (get_iff.mp hE.1).2 hE.2.2
  have F'' : Fr g' L' h₁ (fun y => binds.reverse.lookup y) := ⟨F'.ns, fun b o hb => by
    by_cases hbe : b = e
    · subst hbe
      rw [hge] at hb; cases hb
      exact hE.1
    · cases q : g.get? b with
      | none => rw [hnone b hbe q] at hb; cases hb
      | some x =>
        have := hkeep b x q
        rw [hb] at this; cases this
        exact F'.keep b o q, Nat.le_of_eq hsz⟩
  have FG' : Fr h₀ L g' m := ⟨FG.ns.keeps hkeep, fun b o hb => hkeep b o (FG.keep b o hb), FG.above⟩
  have N'' : News g' L' h₁ news := fun q hq => ⟨(N' q (List.mem_cons_of_mem _ hq)).1, (N' q (List.mem_cons_of_mem _ hq)).2.1, hnone _ (off q hq) (N' q (List.mem_cons_of_mem _ hq)).2.2⟩
  have B'' : Below A base (env :: outer) g' := ⟨B'.stack, fun b o hb => hkeep b o (B'.stays b o hb), B'.frames.of_keeps fun b o hb _ => ⟨o, hkeep b o hb, rfl⟩⟩
  refine wpAny_mono (h g' L' h₁ FG' F'' N'' B'' (X₀.keeps FG'.keep) (T.keeps FG'.keep) hge) (fun fl s' hl => ?_) fun _ _ y => y
  obtain ⟨L₂, m₂, news₂, F₂, N₂, k₂⟩ := hl
  refine ⟨L₂, m₂, (e, oe) :: news₂, ⟨F₂.ns, fun b o hb => F₂.keep b o (hkeep b o hb), ?_⟩, ?_, fun f n => k₂ f (News.tail' n) fun q hq => n q (by rw [List.mem_singleton.mp hq]; exact List.mem_cons_self)⟩
  · exact Nat.le_trans (Nat.le_trans F'.above (Nat.le_of_eq hsz.symm)) F₂.above
  · intro q hq
    rcases List.mem_cons.mp hq with rfl | hq
    · refine ⟨F₂.keep _ _ hge, ?_, hE.2.2⟩
      intro hz
      have h1 : @LT.lt Nat _ e g'.objs.size := Heap.lt_size hge
      exact absurd F₂.above (by rw [← hz]; exact Nat.not_le.mpr h1)
    · refine ⟨(N₂ q hq).1, (N₂ q hq).2.1, ?_⟩
      cases z : g.get? q.1 with
      | none => rfl
      | some o => have := hkeep _ _ z; rw [(N₂ q hq).2.2] at this; cases this
end
theorem news_cons {h₀ h : Heap} {L : Addr} {p : Addr × Obj} {news : List (Addr × Obj)} (x : News h₀ L h [p]) (n : News h₀ L h news) : News h₀ L h (p :: news) := fun q hq => by
  rcases List.mem_cons.mp hq with rfl | hq
  · exact x _ (List.mem_singleton.mpr rfl)
  · exact n q hq
end Mine
end
section
open PySem PySem.W PyProof.Rows PySem.Spec PySem.Calls
set_option maxRecDepth 100000
namespace Mine
def Plain (x : Str) : Prop := ∀ c ∈ x.cps.toList, c < 0x110000
theorem plain_lit (s : String) : Plain (Str.ofString s) := by
  intro c hc
  rw [PySem.Str.ofString_eq_toList] at hc
  simp only [List.mem_map] at hc
  obtain ⟨ch, _, rfl⟩ := hc
  have := ch.valid
  rcases this with h | h
  · have : ch.toNat = ch.val.toNat := rfl
    omega
  · have : ch.toNat = ch.val.toNat := rfl
    omega
theorem plain_app {x y : Str} (hx : Plain x) (hy : Plain y) : Plain (x ++ y) := by
  intro c hc
  rw [str_app, List.mem_append] at hc
  exact hc.elim (hx c) (hy c)
theorem plain_one {n : Nat} (h : n < 0x110000) : Plain ⟨#[n]⟩ := by
  intro c hc
  have : c = n := by simpa using hc
  omega
theorem plain_repr {d : Str} (hd : Okt d) : Plain (reprText d) := by
  rw [← repr_is (d := d) (q := reprQuote d) (x := ⟨(repBody (reprQuote d) d).toArray⟩) rfl rfl]
  have hq := quote_two d
  have key : (signs.all (fun c => (Builtin.Str.reprChar 39 c).all (· < 0x110000)) && signs.all (fun c => (Builtin.Str.reprChar 34 c).all (· < 0x110000))) = true := by decide +kernel
  rw [Bool.and_eq_true] at key
  refine plain_app (plain_app (plain_one ?_) ?_) (plain_one ?_)
  · rcases hq with h | h <;> rw [h] <;> decide
  · intro c hc
    have hc' : c ∈ d.cps.toList.flatMap (Builtin.Str.reprChar (reprQuote d)) := by simpa [repBody] using hc
    obtain ⟨y, hy, hcy⟩ := List.mem_flatMap.mp hc'
    rcases hq with h | h
    · rw [h] at hcy
      simpa using List.all_eq_true.mp (List.all_eq_true.mp key.1 y (hd.2 y hy)) c hcy
    · rw [h] at hcy
      simpa using List.all_eq_true.mp (List.all_eq_true.mp key.2 y (hd.2 y hy)) c hcy
  · rcases hq with h | h <;> rw [h] <;> decide
theorem shownB_small (q : Nat) (hq : q < 256) (n : Int) (h0 : 0 ≤ n) (h1 : n < 256) : ∀ c ∈ shownB q n, c < 0x110000 := by
  intro c hc
  unfold shownB at hc
  dsimp only at hc
  repeat' split at hc
  all_goals simp only [List.mem_cons, List.not_mem_nil, or_false] at hc
  all_goals omega
theorem plain_bytes (b : Array UInt8) : Plain (Builtin.Bytes.literal b) := by
  rw [← literal_is (b := b) rfl (x := ⟨((KBw.bInts b).flatMap (shownB _)).toArray⟩) rfl]
  have hq : (if b.contains 39 && !b.contains 34 then 34 else 39) < 256 := by split <;> decide
  refine plain_app (plain_app (plain_app (plain_lit _) (plain_one (Nat.lt_trans hq (by decide)))) ?_) (plain_one (Nat.lt_trans hq (by decide)))
  intro c hc
  have hc' : c ∈ (KBw.bInts b).flatMap (shownB (if b.contains 39 && !b.contains 34 then 34 else 39)) := by simpa using hc
  obtain ⟨y, hy, hcy⟩ := List.mem_flatMap.mp hc'
  have := KBw.ints_in hy
  exact shownB_small _ hq y this.1 this.2 c hcy
theorem leaf_plain {v : Value} {t : Str} (h : Leaf v t) : Plain t := by
  cases h with
  | str d u hd => exact plain_repr hd
  | bytes bs u hb => exact plain_bytes bs
  | int i u h1 h2 => exact plain_lit _
  | bool b => cases b <;> exact plain_lit _
  | none => exact plain_lit _
theorem plain_join (sep : Str) (hs : Plain sep) : ∀ (ts : List Str), (∀ t ∈ ts, Plain t) → Plain (Str.join sep ts)
  | [], _ => by intro c hc; simp [Str.join, Str.empty] at hc
  | [t], h => h t (List.mem_cons_self ..)
  | t :: u :: r, h => by
    show Plain (t ++ sep ++ Str.join sep (u :: r))
    exact plain_app (plain_app (h t (List.mem_cons_self ..)) hs) (plain_join sep hs (u :: r) fun x hx => h x (List.mem_cons_of_mem _ hx))
theorem plain_list {ts : List Str} (h : ∀ t ∈ ts, Plain t) : Plain (listText ts) := by
  rw [← list_text]
  have e1 : Txt.join (Str.ofString ", ") ts = Str.join (Str.ofString ", ") ts := StrLaws.glued_eq_join _ _
  rw [e1]
  exact plain_app (plain_app (plain_lit _) (plain_join _ (plain_lit _) ts h)) (plain_lit _)
theorem thing_plain {news : List (Addr × Obj)} : ∀ {k : Nat} {v : Value} {t : Str}, Thing news k v t → Plain t
  | 0, _, _, h => leaf_plain h
  | k + 1, _, _, h => by
    rcases h with h | ⟨a, vs, n, ts, rfl, rfl, _, _, _, htl, hits, _⟩
    · exact leaf_plain h
    · refine plain_list fun t ht => ?_
      obtain ⟨i, hi, rfl⟩ := List.getElem_of_mem ht
      exact thing_plain (hits i vs[i] ts[i] (List.getElem?_eq_getElem (by omega)) (List.getElem?_eq_getElem hi))
theorem words_lay {x : Str} (h : Plain x) : PyData.canLay0 (.str (x ++ Str.ofString " is not a valid netmask")) = true :=
  strOk_of_list (plain_app h (plain_lit _))
end Mine
end
section
open PySem PySem.W PyProof.Rows PySem.Spec PySem.Calls
set_option maxRecDepth 100000
namespace Mine
section
open LCg
variable {prog : Program} {w : World} {A : Around} {E : Value → Shared → Prop} {s : Shared} {h₀ : Heap} {L : Addr} {m : Str → Option Value} {env : Env}
theorem comp_rel {elt : Expr} {x : Str} {scope : Scope} {cl : List (Str × Addr)} {Fin : List Value → List (Addr × Obj) → Prop} {news : List (Addr × Obj)} {S : List (Addr × Obj) → Prop} {vs : List Value} (Rel : Nat → Value → Prop)
    (turn : ∀ (i : Nat) v I oI C oC D m₂ ys h tk (E' : Value → Shared → Prop), vs[i]? = some v → NsObj oC m₂ → m₂ x = some v → Fr h₀ L h m → News h₀ L h ((I, oI) :: (C, oC) :: (D, lst ys) :: news) → Off3 I C D news → ((@Ne Nat I C) ∧ (@Ne Nat I D) ∧ (@Ne Nat C D)) →
      wpAny (model prog w) A (eval elt (compEnvC scope cl C env)) (CompEnd h₀ L m { s with heap := h, toks := tk } I oI C oC D (lst ys) S (fun y news' => news' = news ∧ Rel i y)) E' { s with heap := h, toks := tk })
    (fin : ∀ ys : List Value, ys.length = vs.length → (∀ i y, ys[i]? = some y → Rel i y) → Fin ys news) : CompRest prog w A h₀ L m env elt x scope cl s S (fun i v => vs.toArray[i]? = some v) Fin vs.toArray.size 0 [] news := by
  have key : ∀ (j i : Nat) (ys : List Value), i + j = vs.length → ys.length = i → (∀ k y, ys[k]? = some y → Rel k y) → CompRest prog w A h₀ L m env elt x scope cl s S (fun i v => vs.toArray[i]? = some v) Fin j i ys news := by
    intro j
    induction j with
    | zero =>
      intro i ys hi hl hr
      exact CompRest.zero (fin ys (by omega) hr)
    | succ j ih =>
      intro i ys hi hl hr
      refine CompRest.succ ?_
      intro v I oI C oC D m₂ h tk E' hv hC hx F N off ne
      have hv' : vs[i]? = some v := by simpa using hv
      refine wpAny_mono (turn i v I oI C oC D m₂ _ h tk E' hv' hC hx F N off ne) (fun v s₂ hq => ?_) fun _ _ e => e
      obtain ⟨h', tk', nw, e, F', N', off', hS, hn, hy'⟩ := hq
      rw [hn] at N' off' hS
      refine ⟨h', tk', news, e, F', N', off', hS, ?_⟩
      refine ih (i + 1) _ (by omega) (by simp [hl]) fun k y hk => ?_
      by_cases hlt : k < ys.length
      · rw [List.getElem?_append_left hlt] at hk
        exact hr k y hk
      · rw [List.getElem?_append_right (by omega)] at hk
        have hk0 : k - ys.length = 0 := by
          rcases Nat.eq_zero_or_pos (k - ys.length) with h | h
          · exact h
          · rw [List.getElem?_eq_none (by simp only [List.length_singleton]; exact h)] at hk; cases hk
        rw [hk0] at hk
        have : v = y := by simpa using hk
        subst this
        have : k = i := by omega
        subst this
        exact hy'
  rw [List.size_toArray]
  exact key vs.length 0 [] (by omega) rfl (fun k y hk => by simp at hk)
end
theorem ints_at : ∀ {vs : List Value} {ns : List Int}, IntsAre vs ns → ∀ {i : Nat} {v : Value}, vs[i]? = some v → ∃ k t, ns[i]? = some k ∧ v = .int k t
  | _, _, .nil, i, v, h => by simp at h
  | _, _, .cons n t hr, i, v, h => by
    cases i with
    | zero => exact ⟨n, t, rfl, by simpa using h.symm⟩
    | succ i => simpa using ints_at hr (by simpa using h)
theorem strs_of : ∀ (ys : List Value) (P : Nat → Str → Prop), (∀ i y, ys[i]? = some y → ∃ x t, y = .str x t ∧ P i x) → ∃ ps : List (Str × Tok), ys = strValues ps ∧ ∀ (i : Nat) p, ps[i]? = some p → P i p.1
  | [], P, _ => ⟨[], rfl, fun i p h => by simp at h⟩
  | y :: ys, P, h => by
    obtain ⟨ps, e, hp⟩ := strs_of ys (fun i x => P (i + 1) x) fun i y hy => h (i + 1) y (by simpa using hy)
    obtain ⟨x, t, rfl, hx⟩ := h 0 y rfl
    refine ⟨(x, t) :: ps, by rw [e]; rfl, fun i p hi => ?_⟩
    cases i with
    | zero => have : (x, t) = p := by simpa using hi
              subst this; exact hx
    | succ i => exact hp i p (by simpa using hi)
theorem ints_of : ∀ (ys : List Value) (P : Nat → Int → Prop), (∀ i y, ys[i]? = some y → ∃ x t, y = .int x t ∧ P i x) → ∃ ns : List Int, IntsAre ys ns ∧ ns.length = ys.length ∧ ∀ (i : Nat) n, ns[i]? = some n → P i n
  | [], P, _ => ⟨[], .nil, rfl, fun i p h => by simp at h⟩
  | y :: ys, P, h => by
    obtain ⟨ns, e, hl, hp⟩ := ints_of ys (fun i x => P (i + 1) x) fun i y hy => h (i + 1) y (by simpa using hy)
    obtain ⟨x, t, rfl, hx⟩ := h 0 y rfl
    refine ⟨x :: ns, .cons x t e, by simp [hl], fun i p hi => ?_⟩
    cases i with
    | zero => have : x = p := by simpa using hi
              subst this; exact hx
    | succ i => exact hp i p (by simpa using hi)
abbrev lawSigns : Str := ⟨#[48, 51, 37, 47, 46, 32, 39, 34, 92, 10, 13, 9, 0, 27, 127, 133, 160, 173, 233, 1635, 8203, 8232, 120792, 917505]⟩
def signOk (i : Nat) : Bool := (Txt.item lawSigns (i : Int)).length == 1 && (Txt.item lawSigns (i : Int)).cps.toList.all (fun c => signs.contains c)
theorem sign_all : (List.range 24).all signOk = true := by decide +kernel
theorem sign_item {k : Int} (h0 : 0 ≤ k) (h1 : k < 24) : (Txt.item lawSigns k).length = 1 ∧ ∀ c ∈ (Txt.item lawSigns k).cps.toList, c ∈ signs := by
  obtain ⟨j, rfl⟩ := Int.eq_ofNat_of_zero_le h0
  have h := List.all_eq_true.mp sign_all j (List.mem_range.mpr (by omega))
  unfold signOk at h
  rw [Bool.and_eq_true, beq_iff_eq, List.all_eq_true] at h
  exact ⟨h.1, fun c hc => List.contains_iff_mem.mp (h.2 c hc)⟩
def SignText (x : Str) : Prop := x.length = 1 ∧ ∀ c ∈ x.cps.toList, c ∈ signs
theorem join_signs_len : ∀ (ts : List Str), (∀ t ∈ ts, SignText t) → (Str.join (Str.ofString "") ts).length = ts.length ∧ ∀ c ∈ (Str.join (Str.ofString "") ts).cps.toList, c ∈ signs := by
  intro ts h
  have e := join_none ts
  have key : ∀ (ts : List Str), (∀ t ∈ ts, SignText t) → ((ts.map (·.cps.toList)).flatten).length = ts.length ∧ ∀ c ∈ (ts.map (·.cps.toList)).flatten, c ∈ signs := by
    intro ts
    induction ts with
    | nil => intro _; simp
    | cons t r ih =>
      intro h
      have h1 := h t (List.mem_cons_self ..)
      have h2 := ih fun x hx => h x (List.mem_cons_of_mem _ hx)
      have e1 : t.cps.toList.length = 1 := by simpa [Str.length] using h1.1
      refine ⟨by simp only [List.map_cons, List.flatten_cons, List.length_append, List.length_cons, h2.1, e1]; omega, fun c hc => ?_⟩
      simp only [List.map_cons, List.flatten_cons, List.mem_append] at hc
      exact hc.elim (h1.2 c) (h2.2 c)
  have k' := key ts h
  rw [← e] at k'
  exact ⟨by rw [← k'.1]; simp [Str.length], k'.2⟩
section
variable {prog : Program} {w : World} {A : Around} {E : Value → Shared → Prop} {s : Shared} {t : Tok} {Q : Value → Shared → Prop}
theorem join_signs {D : Addr} {ps : List (Str × Tok)} (hl : s.heap.IsList D (strValues ps).toArray) (hp : ∀ p ∈ ps, SignText p.1) (hn : ps.length ≤ 63)
    (k : ∀ x t' n, x.length ≤ 63 → (∀ c ∈ x.cps.toList, c ∈ signs) → Q (.str x t') { s with toks := n }) : wpAny (model prog w) A (call (.builtin "str.join") [.str (Str.ofString "") t, .ref D]) Q E s := by
  have h := join_signs_len (ps.map (·.1)) fun t ht => by
    obtain ⟨p, hp', rfl⟩ := List.mem_map.mp ht
    exact hp p hp'
  have e1 : Txt.join (Str.ofString "") (ps.map (·.1)) = Str.join (Str.ofString "") (ps.map (·.1)) := StrLaws.glued_eq_join _ _
  rw [List.length_map] at h
  refine SC.join hl rfl (joinOk_of_weight ?_ (by decide +kernel)) fun t' n => k _ t' n (by rw [e1]; omega) (by rw [e1]; exact h.2)
  have hs : ((ps.map (·.1)).map (·.length)).sum = ps.length := by
    clear hl h e1 k hn
    induction ps with
    | nil => rfl
    | cons p r ih =>
      have := (hp p (List.mem_cons_self ..)).1
      simp only [List.map_cons, List.sum_cons, List.length_cons, this]
      have := ih fun q hq => hp q (List.mem_cons_of_mem _ hq)
      simp only [List.map_map] at this ⊢
      omega
  rw [hs, List.length_map]
  omega
theorem bytes_made {h₀ : Heap} {L D : Addr} {m : Str → Option Value} {news : List (Addr × Obj)} {vs : List Value} {ns : List Int} (F : Fr h₀ L s.heap m) (N : News h₀ L s.heap news) (hl : s.heap.IsList D vs.toArray) (hi : IntsAre vs ns) (hr : ∀ n ∈ ns, 0 ≤ n ∧ n < 256) (hz : vs.length ≤ 63) (hh : A.handled = none)
    (hQ : ∀ h' t k, Fr h₀ L h' m → News h₀ L h' news → (byteArr ns).size ≤ 64 → Q (.bytes (byteArr ns) t) { s with heap := h', toks := k }) : wpAny (model prog w) A (call (.type "bytes") [.ref D]) Q E s :=
  call_bytes_ints hl hi hr (by rw [sizeLine_eq]; omega) hh fun h' t k e => hQ h' t k (F.keeps e) (N.grown e) (by rw [byteArr_size, ← hi.length]; omega)
end
theorem okt_text {x : Str} (hx : x.length ≤ 63) (h : ∀ c ∈ x.cps.toList, c ∈ signs) : Okt (Str.ofString "3" ++ x) := by
  have e : (Str.ofString "3").cps.toList = [51] := by decide +kernel
  refine ⟨?_, fun c hc => ?_⟩
  · rw [PySem.Str.length_append]
    have : (Str.ofString "3").length = 1 := by decide +kernel
    omega
  · rw [str_app, e] at hc
    rcases List.mem_append.mp hc with hc | hc
    · have : c = 51 := by simpa using hc
      subst this; decide
    · exact h c hc
theorem num_bound (a s : Int) (hs : s = 1 ∨ s = -1) : -(10 ^ 40) < a.fmod (10 ^ Int.toNat 40) * s ∧ a.fmod (10 ^ Int.toNat 40) * s < 10 ^ 40 := by
  have h0 := Int.fmod_nonneg_of_pos a (b := 10 ^ Int.toNat 40) (by decide)
  have h1 := Int.fmod_lt_of_pos a (b := 10 ^ Int.toNat 40) (by decide)
  have e : (10 : Int) ^ Int.toNat 40 = 10 ^ 40 := rfl
  rw [e] at h0 h1 ⊢
  rcases hs with rfl | rfl <;> omega
end Mine
end
section
open PySem PySem.W PyProof.Rows PySem.Spec PySem.Calls
set_option maxRecDepth 100000
namespace Mine
section
variable {prog : Program} {w : World} {A₀ A : Around} {s : Shared} {base h₀ g₀ : Heap} {outer : List Env} {env : Env} {L a : Addr} {m : Str → Option Value} {news : List (Addr × Obj)} {K : Frag} {p : Program} {loose : List Str} {mean : ExcName → Option Value} {mg mb : Str → Option Value}
  {R : Result → Shared → Prop} {name qual : Str} {params : Arguments} {body : List Stmt} {scope : Scope} {dV kV doc pm cdv ct oc : Value} {an od : Option Addr} {osl : Array (Option Value)} {f : Addr} {args : Args} {binds : List (Str × Value)}
theorem memX {b : Addr} (hf : env.frame = some L) (hm : b ∈ (env :: outer).filterMap (·.frame)) : b = L ∨ b ∈ outer.filterMap (·.frame) := by
  obtain ⟨e, he, hfb⟩ := List.mem_filterMap.mp hm
  rcases List.mem_cons.mp he with rfl | he
  · exact .inl (Option.some.inj (hfb.symm.trans hf))
  · exact .inr (List.mem_filterMap.mpr ⟨e, he, hfb⟩)
theorem pushX {h : Heap} (K : Below A₀ base outer h₀) (F : Fr h₀ L h m) (hA : A.frames = some (env :: outer)) (hf : env.frame = some L) (hk : env.scope.kind = .function) : Below A base (env :: outer) h := by
  have hnew : base.get? L = none := by
    cases hq : base.get? L with
    | none => rfl
    | some o => exact absurd (Nat.lt_of_lt_of_le (Heap.lt_size (K.stays L o hq)) F.above) (Nat.lt_irrefl _)
  exact ⟨hA, fun b o e => F.keep b o (K.stays b o e), .cons (by rw [hk]; decide) hf F.ns hnew (K.frames.of_keeps fun b o e _ => ⟨o, F.keep b o e, rfl⟩)⟩
theorem enterX (B : Below A₀ base outer h₀) (F : Fr h₀ L s.heap m) (N : News h₀ L s.heap news) (hA : A.frames = some (env :: outer)) (hf : env.frame = some L) (hck : env.scope.kind = .function) :
    ∃ oL es ep, (hideAll s.heap (news.map (·.1))).get? L = some oL ∧ oL.data = .dict es ep ∧ (∀ h', h'.get? L = some oL → Heap.Ns h' L m) ∧ (∀ (sl : Array (Option Value)) h', h'.get? L = some { oL with slots := sl } → Heap.Ns h' L m) ∧
      h₀.StaysIn (hideAll s.heap (news.map (·.1))) ∧ Below A base (env :: outer) (hideAll s.heap (news.map (·.1))) := by
  have nm : ∀ b o, h₀.get? b = some o → b ∉ news.map (·.1) := fun b o e q => by
    obtain ⟨p, hp, rfl⟩ := List.mem_map.mp q
    rw [(N p hp).2.2] at e; cases e
  have st : h₀.StaysIn (hideAll s.heap (news.map (·.1))) := fun b o e => hideAll_get _ (F.keep b o e) (nm b o e)
  obtain ⟨oL, es, ep, hL, hLd, hLk, hLf⟩ := F.ns
  have nL : L ∉ news.map (·.1) := fun q => by
    obtain ⟨p, hp, e⟩ := List.mem_map.mp q
    exact (N p hp).2.1 e
  have hLg := hideAll_get (news.map (·.1)) hL nL
  have B₁ := pushX B F hA hf hck
  exact ⟨oL, es, ep, hLg, hLd, fun h' e => ⟨oL, es, ep, e, hLd, hLk, hLf⟩, fun sl h' e => ⟨_, es, ep, e, hLd, hLk, hLf⟩, st, ⟨hA, fun b o e => st b o (B.stays b o e), funFrames_hideAll B₁.frames fun env' he b hb hf' => by
    cases he with
    | head => exact nL ((Option.some.inj (hf.symm.trans hf') : L = b) ▸ hb)
    | tail _ he =>
      obtain ⟨L₁, o₁, hf₁, ho₁⟩ := funFrames_in B.frames env' he
      rw [hf₁] at hf'
      exact nm L₁ o₁ ho₁ ((Option.some.inj hf' : L₁ = b) ▸ hb)⟩⟩
theorem code_defSX (B : Below A₀ base outer h₀) (F : Fr h₀ L s.heap m) (X₀ : K.In h₀) (N : News h₀ L s.heap news) (T : Top p loose mean mg mb h₀) (XB : K.In base) (TB : Top p loose mean mg mb base) (D : KtsDicts (outer.filterMap (·.frame)) h₀)
    (T0 : KtsTurn (outer.filterMap (·.frame)) g₀ h₀) (hA : A.frames = some (env :: outer)) (hfX : env.frame = some L)
    (ho : K.lookup f = some ⟨oc, od, .func (fnOf name qual params body scope dV kV doc pm an cdv ct), osl⟩) (hcd : codeIn K cdv qual = true) (hroom : A.depth < recursionLimit)
    (hbind : BindsTo s (fnOf name qual params body scope dV kV doc pm an cdv ct) args binds) (hloc : ∀ y ∈ binds, scope.names.lookup y.1 = some .local)
    (h : ∀ g L' h₁, Fr h₀ L g m → Fr g L' h₁ (fun y => binds.reverse.lookup y) → News g L' h₁ news → Below A base (env :: outer) g → K.In g → Top p loose mean mg mb g → KtsDicts ((env :: outer).filterMap (·.frame)) g →
      wpAny (model prog w) (A.deeper (envOf qual scope L' f cdv)) (execs body (envOf qual scope L' f cdv))
        (fun fl s' => LeaveS ((env :: outer).filterMap (·.frame)) A₀ base outer K p loose mean mg mb g₀ h₀ L m g R (match fl with | .ret v => v | _ => .none) s')
        (fun e s' => wpAny (model prog w) (A.deeper (envOf qual scope L' f cdv)) (leaving (envOf qual scope L' f cdv) e) (fun _ s'' => R (.error e) s'') (fun e' s'' => R (.error e') s'') s')
        { s with heap := h₁, toks := s.toks + binds.length })
    (hck : env.scope.kind = .function) (hco : scope.isCoroutine = false) (hgen : scope.isGenerator = false) (hk : scope.kind = .function)
    (hcell : ∀ x ∈ scope.names, x.2 ≠ .cell) : codeAny (model prog w) A (.call (.ref f) args) R s := by
  have X := X₀.keeps F.keep
  refine codeAny_call_def (fd := fnOf name qual params body scope dV kV doc pm an cdv ct) (body := body) (binds := binds) hroom (X _ _ ho) rfl (T.nolimit.keeps F.keep) (codeRec_of X hcd) rfl hbind hcell hloc (fun h₁ hns hk₁ => ?_) hco hgen hk
  obtain ⟨oL, es, ep, hLg, hLd, hN, hNs, st, B₂⟩ := enterX B F N hA hfX hck
  refine wpAny_mono (h _ s.heap.objs.size h₁ ⟨hN _ hLg, st, F.above⟩ ⟨hns, fun b o e => hk₁ b o (of_hideAll _ e), Nat.le_of_eq (hideAll_size _ _)⟩
    (fun p hp => ⟨hk₁ _ _ (N p hp).1, Nat.ne_of_lt (Heap.lt_size (N p hp).1), hideAll_none _ (List.mem_map_of_mem hp)⟩) B₂ (X₀.keeps st) (T.keeps st) (fun b hb => by
      rcases memX hfX hb with rfl | hb
      · exact ⟨oL, es, ep, hLg, hLd⟩
      · obtain ⟨o, es', n', ho', hd'⟩ := D b hb
        exact ⟨o, es', n', st b o ho', hd'⟩)) (fun fl s' hl => ?_) fun _ _ y => y
  have nL₀ : h₀.get? L = none := kts_self F
  rcases hl with ⟨L', m', news', F', N', k⟩ | ⟨g', L', m', news', T', F', N', k⟩
  · refine k ⟨hN _ (F'.keep _ _ hLg), fun b o e => F'.keep b o (st b o e), F.above⟩ fun p hp => ⟨(N' p hp).1, fun q => ?_, ?_⟩
    · have := (N' p hp).2.2; rw [q, hLg] at this; cases this
    · cases q : h₀.get? p.1 with
      | none => rfl
      | some o => have := (N' p hp).2.2; rw [st _ _ q] at this; cases this
  obtain ⟨sl, hs⟩ := T'.up hLg
  obtain ⟨T₁, S₁⟩ := kts_turn_at (h := s'.heap) (fs := outer.filterMap (·.frame)) (g := h₀)
    (fun b hb => by
      obtain ⟨_, o, ho', _⟩ := B.frames.mem hb
      exact ⟨o, ho'⟩)
    (fun b o e nmem => F'.keep b o (T'.other b o (st b o e) (fun q => by
      rcases memX hfX q with z | z
      · rw [z, nL₀] at e
        cases e
      · exact nmem z)))
    (fun b o e hm => by
      obtain ⟨sl', hs'⟩ := T'.up (st b o e)
      exact ⟨sl', F'.keep _ _ hs'⟩)
  have B₃ : Below A₀ base outer (ktsHeap s'.heap (outer.filterMap (·.frame)) h₀) := ⟨B.stack, fun b o e => T₁.other b o (B.stays b o e) (fun hm => by
    rw [(B.frames.mem hm).1] at e
    cases e), B.frames.of_keeps fun b o e _ => by
    obtain ⟨sl', hs'⟩ := T₁.up e
    exact ⟨_, hs', rfl⟩⟩
  refine k _ (T0.trans T₁) ⟨hNs sl _ (F'.keep _ _ hs), S₁, by rw [T₁.size]; exact F.above⟩ (fun p hp => ⟨(N' p hp).1, fun q => ?_, ?_⟩) B₃ (XB.keeps B₃.stays) (TB.keeps B₃.stays) (D.turn T₁)
  · have := (N' p hp).2.2; rw [q, hs] at this; cases this
  · refine T₁.none_ _ ?_
    cases q : h₀.get? p.1 with
    | none => rfl
    | some o =>
      obtain ⟨sl', hs'⟩ := T'.up (st _ _ q)
      have := (N' p hp).2.2
      rw [hs'] at this
      cases this
end
end Mine
end
section
open PySem PySem.W PyProof.Rows PySem.Spec PySem.Calls
set_option maxRecDepth 100000
namespace Mine
def TAll (news : List (Addr × Obj)) (k : Nat) : List Value → List Str → Prop
  | [], [] => True
  | v :: vs, t :: ts => Thing news k v t ∧ TAll news k vs ts
  | _, _ => False
theorem TAll.len {news : List (Addr × Obj)} {k : Nat} : ∀ {vs : List Value} {ts : List Str}, TAll news k vs ts → ts.length = vs.length
  | [], [], _ => rfl
  | _ :: _, _ :: _, h => by simp [TAll.len h.2]
  | [], _ :: _, h => h.elim
  | _ :: _, [], h => h.elim
theorem TAll.at {news : List (Addr × Obj)} {k : Nat} : ∀ {vs : List Value} {ts : List Str}, TAll news k vs ts → ∀ (i : Nat) (x : Value) (y : Str), vs[i]? = some x → ts[i]? = some y → Thing news k x y
  | [], [], _, i, x, y, hx, _ => by simp at hx
  | v :: vs, t :: ts, h, i, x, y, hx, hy => by
    cases i with
    | zero =>
      have e1 : v = x := by simpa using hx
      have e2 : t = y := by simpa using hy
      subst e1 e2
      exact h.1
    | succ i => exact TAll.at h.2 i x y (by simpa using hx) (by simpa using hy)
  | [], _ :: _, h, _, _, _, _, _ => h.elim
  | _ :: _, [], h, _, _, _, _, _ => h.elim
theorem list_len (ts : List Str) : (listText ts).length ≤ (ts.map (·.length)).sum + 2 * ts.length + 2 := by
  have e : (listText ts).length = (textFrom 0 (Str.ofString "[") ts).length + (Str.ofString "]").length := PySem.Str.length_append ..
  have e1 : (Str.ofString "[").length = 1 := by decide +kernel
  have e2 : (Str.ofString "]").length = 1 := by decide +kernel
  rw [text_len, e1, e2] at e
  cases ts with
  | nil => simp at e ⊢; omega
  | cons t r =>
    simp only [gt_iff_lt, Nat.lt_irrefl, if_false, reduceCtorEq] at e
    simp only [List.length_cons] at e ⊢
    omega
def Under (a : Addr) : Value → Prop
  | .ref b => @LT.lt Nat _ b a
  | _ => True
def UnderAll (a : Addr) : List Value → Prop
  | [] => True
  | v :: vs => Under a v ∧ UnderAll a vs
theorem UnderAll.at {a : Addr} : ∀ {vs : List Value}, UnderAll a vs → ∀ (i : Nat) (b : Addr), vs[i]? = some (.ref b) → @LT.lt Nat _ b a
  | [], _, i, b, h => by simp at h
  | v :: vs, u, i, b, h => by
    cases i with
    | zero =>
      have e : v = .ref b := by simpa using h
      subst e
      exact u.1
    | succ i => exact UnderAll.at u.2 i b (by simpa using h)
theorem thing_list {news : List (Addr × Obj)} {k : Nat} {a : Addr} {vs : List Value} {n : Nat} {ts : List Str} (hm : (a, lstObj vs n) ∈ news) (hu : UnderAll a vs) (h : TAll news k vs ts) (hl : vs.length ≤ 64) (hz : (ts.map (·.length)).sum ≤ 99000) :
    Thing news (k + 1) (.ref a) (listText ts) :=
  .inr ⟨a, vs, n, ts, rfl, rfl, hm, hu.at, hl, h.len, h.at, by have := list_len ts; have := h.len; omega⟩
theorem leafs_of {news : List (Addr × Obj)} {k : Nat} {a : Addr} : ∀ (ys : List Value), (∀ (i : Nat) y, ys[i]? = some y → ∃ x t, y = .int x t ∧ (-(10 ^ 40) < x ∧ x < 10 ^ 40)) → ∃ ts : List Str, TAll news k ys ts ∧ UnderAll a ys ∧ (ts.map (·.length)).sum ≤ 1000 * ys.length
  | [], _ => ⟨[], trivial, trivial, by simp⟩
  | y :: ys, h => by
    obtain ⟨ts, h1, h2, h3⟩ := leafs_of ys fun i y hy => h (i + 1) y (by simpa using hy)
    obtain ⟨x, t, rfl, b1, b2⟩ := h 0 y rfl
    have hl : Leaf (.int x t) (Str.ofString (toString x)) := .int x t b1 b2
    refine ⟨_ :: ts, ⟨hl.to, h1⟩, ⟨trivial, h2⟩, ?_⟩
    have := leaf_len hl
    simp only [List.map_cons, List.sum_cons, List.length_cons]
    omega
end Mine
end
section
open PySem PySem.W PyProof.Rows PySem.Spec PySem.Calls
set_option maxRecDepth 100000
namespace Mine
section
variable {prog : Program} {w : World} {A : Around} {E : Value → Shared → Prop} {s : Shared} {env : Env} {x : Str} {px : Pos} {body : List Stmt} {it : Value} {Q : Flow → Shared → Prop}
def ForTurn (prog : Program) (w : World) (A : Around) (E : Value → Shared → Prop) (env : Env) (x : Str) (px : Pos) (body : List Stmt) (Q : Flow → Shared → Prop) (I : Nat → Shared → Prop) (n : Nat) (r : Option Value) (s₁ : Shared) : Prop := match r with
  | none => wpAny (model prog w) A (execs [] env) Q E s₁
  | some v => wpAny (model prog w) A (assign (.Name x px) env v) (fun _ s₂ => wpAny (model prog w) A (execs body env) (WPost I n Q) E s₂) E s₁
theorem for_ind (hE : PassesOwn (model prog w) A env E) (I : Nat → Shared → Prop) (turn : ∀ n s, I n s → wpAny (model prog w) A (pyNext it) (ForTurn prog w A E env x px body Q I n) E s) (n : Nat) (h : I n s)
    (ht : ∀ v, letOwnedTupleGo (.Name x px) it v = pure () := by intro _; rfl) :
    codeAny (model prog w) A (.forLoop (.Name x px) it body [] env) (fun r s' => match r with | .ok f => Q f s' | .error e => cameBackBy (model prog w) A env E e s') s := by
  refine codeAny_forLoop I (fun n s hI => wpAny_passesOwn hE (wpAny_mono (turn n s hI) (fun r s₁ hr => ?_) fun _ _ e => e)) n h ht
  cases r with
  | none => exact wpAny_passesOwn hE hr
  | some v =>
    refine wpAny_passesOwn hE (wpAny_mono hr (fun _ s₂ h₂ => wpAny_passesOwn hE (wpAny_mono h₂ (fun f s₃ h₃ => ?_) fun _ _ e => e)) fun _ _ e => e)
    cases f with
    | next => exact h₃
    | cont => exact h₃
    | brk => exact h₃
    | ret v => exact h₃
end
theorem Thing.up {news : List (Addr × Obj)} : ∀ {k : Nat} {v : Value} {t : Str}, Thing news k v t → Thing news (k + 1) v t
  | 0, _, _, h => .inl h
  | k + 1, _, _, h => by
    rcases h with h | ⟨a, vs, n, ts, e1, e2, hm, hb, h1, h2, h3, h4⟩
    · exact .inl h
    · exact .inr ⟨a, vs, n, ts, e1, e2, hm, hb, h1, h2, fun i x y hx hy => (h3 i x y hx hy).up, h4⟩
end Mine
end
section
open PySem PySem.W PyProof.Rows PySem.Spec PySem.Calls
set_option maxRecDepth 100000
namespace Mine
theorem TAll.more {news news' : List (Addr × Obj)} {k : Nat} (h : ∀ p ∈ news, p ∈ news') : ∀ {vs : List Value} {ts : List Str}, TAll news k vs ts → TAll news' k vs ts
  | [], [], _ => trivial
  | _ :: _, _ :: _, x => ⟨x.1.more h, TAll.more h x.2⟩
  | [], _ :: _, x => x.elim
  | _ :: _, [], x => x.elim
def AllThings (news : List (Addr × Obj)) (vs : List Value) : Prop := ∀ (i : Nat) (v : Value), vs[i]? = some v → ∃ t, Thing news 3 v t
theorem things7 {h₀ h : Heap} {L l nest inner tn D3 : Addr} {rest : List (Addr × Obj)} {d : Str} {bs : Array UInt8} {n : Int} {t1 t2 t3 t4 t5 t6 : Tok} {z1 z2 z3 z4 z5 : Nat} {ys : List Value}
    (_N : News h₀ L h ((l, W.listOf #[.str d t1, .bytes bs t2, .ref D3, .ref nest, .bool true, .none, .int n t3] z1) :: (nest, W.listOf #[.str d t4, .ref inner, .int (-1) t5] z2) :: (inner, W.listOf #[.bytes bs t6, .ref D3, .ref tn] z3) ::
      (tn, W.listOf #[.bool true, .none] z4) :: (D3, lstObj ys z5) :: rest))
    (hd : Okt d) (hb : bs.size ≤ 64) (hn : -(10 ^ 40) < n ∧ n < 10 ^ 40) (h1 : @LT.lt Nat _ D3 inner) (h2 : @LT.lt Nat _ tn inner) (h3 : @LT.lt Nat _ inner nest) {ts : List Str} (hy : TAll [] 0 ys ts) (hu : UnderAll D3 ys) (hyl : ys.length ≤ 63) (hz : (ts.map (·.length)).sum ≤ 1000 * ys.length) :
    AllThings ((l, W.listOf #[.str d t1, .bytes bs t2, .ref D3, .ref nest, .bool true, .none, .int n t3] z1) :: (nest, W.listOf #[.str d t4, .ref inner, .int (-1) t5] z2) :: (inner, W.listOf #[.bytes bs t6, .ref D3, .ref tn] z3) ::
      (tn, W.listOf #[.bool true, .none] z4) :: (D3, lstObj ys z5) :: rest) [.str d t1, .bytes bs t2, .ref D3, .ref nest, .bool true, .none, .int n t3] := by
  generalize hLED : ((l, W.listOf #[.str d t1, .bytes bs t2, .ref D3, .ref nest, .bool true, .none, .int n t3] z1) :: (nest, W.listOf #[.str d t4, .ref inner, .int (-1) t5] z2) :: (inner, W.listOf #[.bytes bs t6, .ref D3, .ref tn] z3) ::
      (tn, W.listOf #[.bool true, .none] z4) :: (D3, lstObj ys z5) :: rest) = LED
  have m1 : (nest, lstObj [.str d t4, .ref inner, .int (-1) t5] z2) ∈ LED := by rw [← hLED]; exact .tail _ (.head _)
  have m2 : (inner, lstObj [.bytes bs t6, .ref D3, .ref tn] z3) ∈ LED := by rw [← hLED]; exact .tail _ (.tail _ (.head _))
  have m3 : (tn, lstObj [.bool true, .none] z4) ∈ LED := by rw [← hLED]; exact .tail _ (.tail _ (.tail _ (.head _)))
  have m4 : (D3, lstObj ys z5) ∈ LED := by rw [← hLED]; exact .tail _ (.tail _ (.tail _ (.tail _ (.head _))))
  have eT : Leaf (.bool true) (Str.ofString "True") := Leaf.bool true
  have lT := leaf_len eT
  have lN := leaf_len Leaf.none
  have lS := leaf_len (Leaf.str d t1 hd)
  have lB := leaf_len (Leaf.bytes bs t2 hb)
  have lM := leaf_len (Leaf.int (-1) t5 (by decide) (by decide))
  have T4 : Thing LED 1 (.ref D3) (listText ts) := thing_list m4 hu (hy.more fun p hp => by cases hp) (by omega) (by omega)
  have len4 : (listText ts).length ≤ 64000 := by have := list_len ts; have := hy.len; omega
  have T3 : Thing LED 1 (.ref tn) (listText [Str.ofString "True", Str.ofString "None"]) := thing_list m3 ⟨trivial, trivial, trivial⟩ ⟨eT.to, Leaf.none.to, trivial⟩ (by simp) (by simp only [List.map_cons, List.map_nil, List.sum_cons, List.sum_nil]; omega)
  have len3 : (listText [Str.ofString "True", Str.ofString "None"]).length ≤ 2100 := by
    have := list_len [Str.ofString "True", Str.ofString "None"]
    simp only [List.map_cons, List.map_nil, List.sum_cons, List.sum_nil, List.length_cons, List.length_nil] at this
    omega
  have T2 : Thing LED 2 (.ref inner) (listText [Builtin.Bytes.literal bs, listText ts, listText [Str.ofString "True", Str.ofString "None"]]) :=
    thing_list m2 ⟨trivial, h1, h2, trivial⟩ ⟨(Leaf.bytes bs t6 hb).to, T4, T3, trivial⟩ (by simp) (by simp only [List.map_cons, List.map_nil, List.sum_cons, List.sum_nil]; omega)
  have len2 : (listText [Builtin.Bytes.literal bs, listText ts, listText [Str.ofString "True", Str.ofString "None"]]).length ≤ 70000 := by
    have := list_len [Builtin.Bytes.literal bs, listText ts, listText [Str.ofString "True", Str.ofString "None"]]
    simp only [List.map_cons, List.map_nil, List.sum_cons, List.sum_nil, List.length_cons, List.length_nil] at this
    omega
  have T1 : Thing LED 3 (.ref nest) (listText [reprText d, listText [Builtin.Bytes.literal bs, listText ts, listText [Str.ofString "True", Str.ofString "None"]], Str.ofString (toString (-1 : Int))]) :=
    thing_list m1 ⟨trivial, h3, trivial, trivial⟩ ⟨(Leaf.str d t4 hd).to, T2, (Leaf.int (-1) t5 (by decide) (by decide)).to, trivial⟩ (by simp) (by simp only [List.map_cons, List.map_nil, List.sum_cons, List.sum_nil]; omega)
  intro i v hv
  rcases i with _ | _ | _ | _ | _ | _ | _ | i
  · cases hv; exact ⟨_, (Leaf.str d t1 hd).to⟩
  · cases hv; exact ⟨_, (Leaf.bytes bs t2 hb).to⟩
  · cases hv; exact ⟨_, T4.up.up⟩
  · cases hv; exact ⟨_, T1⟩
  · cases hv; exact ⟨_, eT.to⟩
  · cases hv; exact ⟨_, Leaf.none.to⟩
  · cases hv; exact ⟨_, (Leaf.int n t3 hn.1 hn.2).to⟩
  · simp at hv
theorem pack7 {h₀ h : Heap} {L l : Addr} {m : Str → Option Value} {LED : List (Addr × Obj)} {vsL : List Value} (F : Fr h₀ L h m) (N : News h₀ L h LED) (T : AllThings LED vsL) (hl : h.IsList l vsL.toArray) (hm : ∃ n, (l, lstObj vsL n) ∈ LED) :
    ∃ LED' vs' m' l', Fr h₀ L h m' ∧ News h₀ L h LED' ∧ AllThings LED' vs' ∧ h.IsList l' vs'.toArray ∧ vs' = vsL ∧ l' = l ∧ ∃ n, (l', lstObj vs' n) ∈ LED' := ⟨_, _, _, _, F, N, T, hl, rfl, rfl, hm⟩
theorem iter_new {h₀ h : Heap} {L l : Addr} {m : Str → Option Value} {LED : List (Addr × Obj)} (F : Fr h₀ L h m) (N : News h₀ L h LED) :
    News h₀ L (h.push { cls := .type "list_iterator", data := .fields #[.ref l, .int 0 0] }) ((h.objs.size, { cls := .type "list_iterator", data := .fields #[.ref l, .int 0 0] }) :: LED) ∧ ∀ p ∈ LED, p.1 ≠ h.objs.size := by
  refine ⟨fun p hp => ?_, fun p hp => Nat.ne_of_lt (Heap.lt_size (N p hp).1)⟩
  rcases List.mem_cons.mp hp with rfl | hp
  · exact ⟨Heap.get?_push_size _ rfl, Ne.symm (Nat.ne_of_lt F.ns.lt), next_is_new F⟩
  · exact ⟨Heap.get?_push_of_some _ (N p hp).1, (N p hp).2⟩
theorem iter_step {h₀ h h' : Heap} {L I l : Addr} {m : Str → Option Value} {LED : List (Addr × Obj)} {oI : Obj} {i : Nat} (F : Fr h₀ L h m) (N : News h₀ L h ((I, oI) :: LED)) (off : ∀ p ∈ LED, p.1 ≠ I) (hit : h'.IsListIter I l i) (hs : Heap.SameBut I h h') :
    ∃ o', o'.cls = .type "list_iterator" ∧ o'.data = .fields #[.ref l, .int i 0] ∧ Fr h₀ L h' m ∧ News h₀ L h' ((I, o') :: LED) := by
  obtain ⟨o', h1, h2, h3⟩ := hit
  have hI := N (I, oI) List.mem_cons_self
  refine ⟨o', h2, h3, F.change hs hI.2.1 hI.2.2, fun p hp => ?_⟩
  rcases List.mem_cons.mp hp with rfl | hp
  · exact ⟨h1, hI.2⟩
  · exact ⟨(hs.2 _ (off p hp)).trans (N p (List.mem_cons_of_mem _ hp)).1, (N p (List.mem_cons_of_mem _ hp)).2⟩
theorem iter_at {h₀ h : Heap} {L I l : Addr} {LED : List (Addr × Obj)} {oI : Obj} {i : Nat} (N : News h₀ L h ((I, oI) :: LED)) (h1 : oI.cls = .type "list_iterator") (h2 : oI.data = .fields #[.ref l, .int i 0]) : h.IsListIter I l i :=
  ⟨oI, (N (I, oI) List.mem_cons_self).1, h1, h2⟩
end Mine
end
section
open PySem PySem.W PyProof.Rows
namespace Mine
abbrev fs (outer : List Env) : List Addr := outer.filterMap (·.frame)
abbrev atH (ho : Option Value) (dp un : Nat) (gd : Option (List Code)) (env : Env) (outer : List Env) : Around := { handled := ho, depth := dp, frames := some (env :: outer), guards := gd, units := un }
abbrev at_ (dp un : Nat) (gd : Option (List Code)) (env : Env) (outer : List Env) : Around := { handled := none, depth := dp, frames := some (env :: outer), guards := gd, units := un }
abbrev P2 : Program := PySem.Challenge.rw_km0038_02.row.prog
end Mine
local macro_rules | `(tactic| walk_at "mine pad") => `(tactic| skip)
local macro_rules | `(tactic| walk_at "mine pad") => `(tactic| skip)
local macro_rules | `(tactic| walk_at "mine pad") => `(tactic| skip)
local macro_rules | `(tactic| walk_at "mine pad") => `(tactic| skip)
local macro_rules | `(tactic| walk_at "mine pad") => `(tactic| skip)
local macro_rules | `(tactic| walk_at "mine pad") => `(tactic| skip)
local macro_rules | `(tactic| walk_at "mine pad") => `(tactic| skip)
local macro_rules | `(tactic| walk_at "mine pad") => `(tactic| skip)
local macro_rules | `(tactic| walk_at "mine pad") => `(tactic| skip)
local macro_rules | `(tactic| walk_at "mine pad") => `(tactic| skip)
local macro_rules | `(tactic| walk_at "mine pad") => `(tactic| skip)
local macro_rules | `(tactic| walk_at "mine pad") => `(tactic| skip)
local macro_rules | `(tactic| walk_at "mine pad") => `(tactic| skip)
local macro_rules | `(tactic| walk_at "mine pad") => `(tactic| skip)
local macro_rules | `(tactic| walk_at "mine pad") => `(tactic| skip)
local macro_rules | `(tactic| walk_at "mine pad") => `(tactic| skip)
local macro_rules | `(tactic| walk_at "mine pad") => `(tactic| skip)
local macro_rules | `(tactic| walk_at "mine pad") => `(tactic| skip)
local macro_rules | `(tactic| walk_at "mine pad") => `(tactic| skip)
local macro_rules | `(tactic| walk_at "mine pad") => `(tactic| skip)
local macro_rules | `(tactic| walk_at "mine pad") => `(tactic| skip)
local macro_rules | `(tactic| walk_at "mine pad") => `(tactic| skip)
local macro_rules | `(tactic| k_all) => `(tactic| assumption)
local macro_rules | `(tactic| walk_at "getMethod ref") => `(tactic| ((try dsimp only); k_dflt (refine' PyProof.Rows.getMethod_tab (knd := PySem.strKind _ _) PySem.F.slot_dict_update PySem.F.type_dict_update ?T ?_; (case T => k_tabat); k_whole); (try dsimp only)))
local macro_rules | `(tactic| walk_at "callWith") => `(tactic| (refine callWith_method1 ?_))
local macro_rules | `(tactic| walk_at "setItem ref str") => `(tactic| (refine Mine.stop_here ?_))
local macro_rules | `(tactic| walk_at "call builtin:str.join") => `(tactic| (k_here; k_dflt (refine' Mine.join_esc ?hl ?hp ?hq ?hd ?_; (case hl => first | assumption | exact News.isList (by k_asm) (by k_mem)); (case hp => assumption); (case hq => first | exact .inl rfl | exact .inr rfl); (case hd => assumption); k_whole); intro _ _ _ _ _))
local macro_rules | `(tactic| walk_at "binaryOp Add str str") => `(tactic| (k_here; k_dflt (refine' Mine.add_mid ?hx ?hy ?_; (case hx => first | omega | decide +kernel | (simp only [PySem.Str.length_append, Mine.len_q1, Mine.len_q2]; omega)); (case hy => first | omega | decide +kernel); k_whole); intro t' tk'))
local macro_rules | `(tactic| walk_at "exec Expr") => `(tactic| (refine Mine.stop_here ?_))
local macro_rules | `(tactic| walk_at "call builtin:dict.update") => `(tactic| (refine Mine.stop_here ?_))
local macro_rules | `(tactic| walk_at "eval ListComp") => `(tactic| (refine Mine.stop_here ?_))
local macro_rules | `(tactic| k_room) => `(tactic| ktr_room)
local macro_rules | `(tactic| ke_room) => `(tactic| ktr_units)
local macro_rules | `(tactic| k_units) => `(tactic| ktr_units)
namespace Mine
set_option maxRecDepth 100000 in
set_option maxHeartbeats 8000000 in
theorem text_spec (w : World) {loose : List Str} {mean : ExcName → Option Value} {mg mb : Str → Option Value} {d : Str} {ho : Option Value} {dp un : Nat} {gd : Option (List Code)} {cn : Str} {cs : Scope} {a : Addr} {ccd : Value} {outer : List Env} {A₀ : Around} {base h₀ : Heap} {L : Addr} {m : Str → Option Value}
    {news : List (Addr × Obj)} {s : Shared} {tk0 : Tok} {Q E : Value → Shared → Prop}
    (B : Below A₀ base outer h₀) (F : Fr h₀ L s.heap m) (HO : HeldOk ho h₀) (X : (hd.heap_39 w.params).In h₀) (N : News h₀ L s.heap news) (T : Top hd.view_39 loose mean mg mb h₀) (hk : cs.kind = .function) (hok : Okt d) (hdp : dp + 3 < recursionLimit) (hu : un + 200 < cLine)
    (rS : ∀ h' tk' t', Fr h₀ L h' m → News h₀ L h' news → Q (.str (reprText d) t') { s with heap := h', toks := tk' }) :
    wpAny (model P2 w) (atH ho dp un gd (envOf cn cs L a ccd) outer) (call (.ref 166) [.str d tk0]) Q E s := by
  have hq : PySem.Challenge.rw_km0038_02 = PySem.Challenge.rw_km0038_02 ∧ hd.heap_39 = hd.heap_39 := ⟨rfl, rfl⟩
  revert hq
  k_fill
  intro hq
  w_on
  have hl64 := hok.1
  refine wpAny_call ?_
  k_dflt (refine' code_defC ?k1 ?k2 ?k3 ?k4 ?k5 ?kA ?kF ?kK ?k6 ?k7 ?k8 ?k9 ?kB ?kD ?_ ?c2 ?c3 ?c4; (case kA => exact rfl); (case kF => exact rfl); (case kK => exact hk); (case k1 => k_asm); (case k2 => k_asm); (case k3 => k_asm); (case k4 => k_asm); (case k5 => k_asm); (case k6 => k_is); (case k7 => k_is); (case k8 => k_room); (case k9 => first | exact BindsTo.of_eq rfl | exact binds_K (by k_in) rfl (by k_is) rfl rfl rfl); (case kB => exact rfl); (case kD => decide +kernel); (case c2 => exact rfl); (case c3 => exact rfl); (case c4 => exact rfl); k_whole; intro g' L' h' tk' cells' FG' F' N' Y' B' X' T' l1; (try k_lt l1); k_cells Y'; (try simp only [List.cons_append, List.nil_append] at N'); (try dsimp only); (try k_lift B'); (try k_fold))
  have hC : ∀ p ∈ news, p.1 ≠ L' + 1 := fun p hp => Nat.ne_of_lt (Nat.lt_succ_of_lt (l1 p hp))
  w_strict k_steps
  unfold Stop
  (try dsimp only)
  refine any_toks (s := s) ?_
  intro tk1
  rename _ = Data.cell _ => dc1
  (try dsimp only at dc1)
  refine wpAny_Expr_any ?_
  w_strict k_steps
  unfold Stop
  dsimp only [List.cons_append, List.nil_append]
  refine any_toks (s := s) ?_
  intro tk2
  refine' kt_update_K (knd := PySem.strKind _ _) PyProof.V.same_str ?eF ?eN ?eU ?ed ?ef ?et ?en ?_ ?ez
  (case eF => k_asm); (case eN => k_asm); (case eU => k_updF); (case ed => k_asm); (case ef => k_asm); (case et => k_tabat)
  (case en => (refine neN ?_; omega))
  (case ez => exact Nat.le_trans (Nat.le_of_eq (show _ = 12 from rfl)) (by rw [sizeLine_eq]; decide))
  intro h5 o5 kvs5 F5 N5 hd5 hf5
  (try dsimp only at N5)
  have e12 := fp_eq (D' := D12) hf5 (by kernel_rfl)
  clear hf5
  have N6 := News.tail' N5
  clear N5
  refine any_toks (s := s) ?_
  intro tk3
  w_strict k_steps
  unfold Stop

  (try dsimp only)
  refine' setItem_K PyProof.V.same_str (strKind_is _ _ _ _) ?sv ?sF ?sN ?sU ?sd ?sf ?_ ?sz
  (case sF => k_asm); (case sN => k_asm); (case sU => k_updF); (case sd => k_asm); (case sf => exact e12); (case sz => exact len12); (case sv => k_flat)
  intro h6 o6 F6 N6' hd6 hf6
  (try dsimp only at N6')
  obtain ⟨kvs6, hd6, e13⟩ : ∃ k, Obj.IsDictOf (PySem.strKind P2 w) o6 k ∧ PyProof.V.FlatPairs PyData.str k D13 := ⟨_, hd6, fp_eq hf6 (by kernel_rfl)⟩
  clear hf6 e12
  refine any_toks (s := s) ?_
  intro tk4
  w_strict k_steps
  · unfold Stop
    (try dsimp only)
    have hqt := quote_no (by assumption)
    refine' setItem_K PyProof.V.same_str (strKind_is _ _ _ _) ?tv ?tF ?tN ?tU ?td ?tf ?_ ?tz
    (case tF => k_asm); (case tN => k_asm); (case tU => k_updF); (case td => exact hd6); (case tf => exact e13); (case tz => exact len13); (case tv => k_flat)
    intro h7 o7 F7 N7 hd7 hf7
    (try dsimp only at N7)
    obtain ⟨kvs7, hd7, e14⟩ : ∃ k, Obj.IsDictOf (PySem.strKind P2 w) o7 k ∧ PyProof.V.FlatPairs PyData.str k (D14 39) := ⟨_, hd7, fp_eq hf7 (by kernel_rfl)⟩
    clear hf7
    refine any_toks (s := s) ?_
    intro tk5
    w_strict k_steps
    unfold Stop
    (try dsimp only)
    refine listcomp_textH F7 (HO.keeps FG'.keep) (by with_unfolding_all rfl) (by decide) (by rfl) (by decide) (by rfl) ?_
    walk1
    refine ⟨d, tk0, _, rfl, F7, N7, by rw [sizeLine_eq]; exact Nat.le_trans hl64 (by decide), fun s₂ ⟨g9, e9⟩ => ?_⟩
    subst e9
    refine comp_text (escq 39) ?_ ?_
    · intro c t I oI C oC D m₂ ys h tk E' hc hC hx F N off ne
      have hcs : c ∈ signs := hok.2 c hc
      have hsg := told_cases (q := 39) (.inl rfl) hcs
      rcases hsg with hsg | ⟨hsg, hse⟩
      · w_strict k_steps
        all_goals rename _ = _ => hb9
        all_goals rw [hsg] at hb9
        all_goals first
          | (exfalso; simp at hb9; done)
          | exact LCg.CompEnd.intro F N _ (fun p hp => hp) off trivial ⟨rfl, _, rfl⟩
      · w_strict k_steps
        all_goals rename _ = _ => hb9
        all_goals rw [hsg] at hb9
        all_goals first
          | (exfalso; simp at hb9; done)
          | exact LCg.CompEnd.intro F N _ (fun p hp => hp) off trivial ⟨rfl, _, by rw [hse]⟩
    · intro ps hps
      intro D h tk F N o1
      (try dsimp only)
      w_strict k_steps
      rename _ = repBody _ _ => hx9
      rw [lit_q1, repr_is hqt hx9]
      first
        | exact rS _ _ _ (by k_asm) (by k_asm)
        | exact rS _ _ _ (by k_asm) (News.tail' (by k_asm))
        | exact rS _ _ _ (by k_asm) (News.tail' (News.tail' (by k_asm)))
        | exact rS _ _ _ (by k_asm) (News.tail' (News.tail' (News.tail' (by k_asm))))
  · unfold Stop
    (try dsimp only)
    have hqt := quote_one (by assumption) (by assumption)
    refine' setItem_K PyProof.V.same_str (strKind_is _ _ _ _) ?tv ?tF ?tN ?tU ?td ?tf ?_ ?tz
    (case tF => k_asm); (case tN => k_asm); (case tU => k_updF); (case td => exact hd6); (case tf => exact e13); (case tz => exact len13); (case tv => k_flat)
    intro h7 o7 F7 N7 hd7 hf7
    (try dsimp only at N7)
    obtain ⟨kvs7, hd7, e14⟩ : ∃ k, Obj.IsDictOf (PySem.strKind P2 w) o7 k ∧ PyProof.V.FlatPairs PyData.str k (D14 34) := ⟨_, hd7, fp_eq hf7 (by kernel_rfl)⟩
    clear hf7
    refine any_toks (s := s) ?_
    intro tk5
    w_strict k_steps
    unfold Stop
    (try dsimp only)
    refine listcomp_textH F7 (HO.keeps FG'.keep) (by with_unfolding_all rfl) (by decide) (by rfl) (by decide) (by rfl) ?_
    walk1
    refine ⟨d, tk0, _, rfl, F7, N7, by rw [sizeLine_eq]; exact Nat.le_trans hl64 (by decide), fun s₂ ⟨g9, e9⟩ => ?_⟩
    subst e9
    refine comp_text (escq 34) ?_ ?_
    · intro c t I oI C oC D m₂ ys h tk E' hc hC hx F N off ne
      have hcs : c ∈ signs := hok.2 c hc
      have hsg := told_cases (q := 34) (.inr rfl) hcs
      rcases hsg with hsg | ⟨hsg, hse⟩
      · w_strict k_steps
        all_goals rename _ = _ => hb9
        all_goals rw [hsg] at hb9
        all_goals first
          | (exfalso; simp at hb9; done)
          | exact LCg.CompEnd.intro F N _ (fun p hp => hp) off trivial ⟨rfl, _, rfl⟩
      · w_strict k_steps
        all_goals rename _ = _ => hb9
        all_goals rw [hsg] at hb9
        all_goals first
          | (exfalso; simp at hb9; done)
          | exact LCg.CompEnd.intro F N _ (fun p hp => hp) off trivial ⟨rfl, _, by rw [hse]⟩
    · intro ps hps
      intro D h tk F N o1
      (try dsimp only)
      w_strict k_steps
      rename _ = repBody _ _ => hx9
      rw [lit_q2, repr_is hqt hx9]
      first
        | exact rS _ _ _ (by k_asm) (by k_asm)
        | exact rS _ _ _ (by k_asm) (News.tail' (by k_asm))
        | exact rS _ _ _ (by k_asm) (News.tail' (News.tail' (by k_asm)))
        | exact rS _ _ _ (by k_asm) (News.tail' (News.tail' (News.tail' (by k_asm))))
  · unfold Stop
    (try dsimp only)
    have hqt := quote_both (by assumption)
    refine' setItem_K PyProof.V.same_str (strKind_is _ _ _ _) ?tv ?tF ?tN ?tU ?td ?tf ?_ ?tz
    (case tF => k_asm); (case tN => k_asm); (case tU => k_updF); (case td => exact hd6); (case tf => exact e13); (case tz => exact len13); (case tv => k_flat)
    intro h7 o7 F7 N7 hd7 hf7
    (try dsimp only at N7)
    obtain ⟨kvs7, hd7, e14⟩ : ∃ k, Obj.IsDictOf (PySem.strKind P2 w) o7 k ∧ PyProof.V.FlatPairs PyData.str k (D14 39) := ⟨_, hd7, fp_eq hf7 (by kernel_rfl)⟩
    clear hf7
    refine any_toks (s := s) ?_
    intro tk5
    w_strict k_steps
    unfold Stop
    (try dsimp only)
    refine listcomp_textH F7 (HO.keeps FG'.keep) (by with_unfolding_all rfl) (by decide) (by rfl) (by decide) (by rfl) ?_
    walk1
    refine ⟨d, tk0, _, rfl, F7, N7, by rw [sizeLine_eq]; exact Nat.le_trans hl64 (by decide), fun s₂ ⟨g9, e9⟩ => ?_⟩
    subst e9
    refine comp_text (escq 39) ?_ ?_
    · intro c t I oI C oC D m₂ ys h tk E' hc hC hx F N off ne
      have hcs : c ∈ signs := hok.2 c hc
      have hsg := told_cases (q := 39) (.inl rfl) hcs
      rcases hsg with hsg | ⟨hsg, hse⟩
      · w_strict k_steps
        all_goals rename _ = _ => hb9
        all_goals rw [hsg] at hb9
        all_goals first
          | (exfalso; simp at hb9; done)
          | exact LCg.CompEnd.intro F N _ (fun p hp => hp) off trivial ⟨rfl, _, rfl⟩
      · w_strict k_steps
        all_goals rename _ = _ => hb9
        all_goals rw [hsg] at hb9
        all_goals first
          | (exfalso; simp at hb9; done)
          | exact LCg.CompEnd.intro F N _ (fun p hp => hp) off trivial ⟨rfl, _, by rw [hse]⟩
    · intro ps hps
      intro D h tk F N o1
      (try dsimp only)
      w_strict k_steps
      rename _ = repBody _ _ => hx9
      rw [lit_q1, repr_is hqt hx9]
      first
        | exact rS _ _ _ (by k_asm) (by k_asm)
        | exact rS _ _ _ (by k_asm) (News.tail' (by k_asm))
        | exact rS _ _ _ (by k_asm) (News.tail' (News.tail' (by k_asm)))
        | exact rS _ _ _ (by k_asm) (News.tail' (News.tail' (News.tail' (by k_asm))))
end Mine
end
section
open PySem PySem.W PyProof.Rows
local macro_rules | `(tactic| walk_at "mine pad") => `(tactic| skip)
local macro_rules | `(tactic| walk_at "mine pad") => `(tactic| skip)
local macro_rules | `(tactic| walk_at "mine pad") => `(tactic| skip)
local macro_rules | `(tactic| walk_at "mine pad") => `(tactic| skip)
local macro_rules | `(tactic| walk_at "mine pad") => `(tactic| skip)
local macro_rules | `(tactic| walk_at "mine pad") => `(tactic| skip)
local macro_rules | `(tactic| walk_at "mine pad") => `(tactic| skip)
local macro_rules | `(tactic| walk_at "mine pad") => `(tactic| skip)
local macro_rules | `(tactic| walk_at "mine pad") => `(tactic| skip)
local macro_rules | `(tactic| walk_at "mine pad") => `(tactic| skip)
local macro_rules | `(tactic| walk_at "mine pad") => `(tactic| skip)
local macro_rules | `(tactic| walk_at "mine pad") => `(tactic| skip)
local macro_rules | `(tactic| walk_at "mine pad") => `(tactic| skip)
local macro_rules | `(tactic| walk_at "mine pad") => `(tactic| skip)
local macro_rules | `(tactic| walk_at "mine pad") => `(tactic| skip)
local macro_rules | `(tactic| walk_at "mine pad") => `(tactic| skip)
local macro_rules | `(tactic| walk_at "mine pad") => `(tactic| skip)
local macro_rules | `(tactic| walk_at "mine pad") => `(tactic| skip)
local macro_rules | `(tactic| walk_at "mine pad") => `(tactic| skip)
local macro_rules | `(tactic| walk_at "mine pad") => `(tactic| skip)
local macro_rules | `(tactic| walk_at "mine pad") => `(tactic| skip)
local macro_rules | `(tactic| walk_at "mine pad") => `(tactic| skip)
local macro_rules | `(tactic| walk_at "mine pad") => `(tactic| skip)
local macro_rules | `(tactic| walk_at "mine pad") => `(tactic| skip)
local macro_rules | `(tactic| k_all) => `(tactic| assumption)
local macro_rules | `(tactic| k_room) => `(tactic| ktr_room)
local macro_rules | `(tactic| ke_room) => `(tactic| ktr_units)
local macro_rules | `(tactic| k_units) => `(tactic| ktr_units)
local macro_rules | `(tactic| walk_at "compareOp In int bytes") => `(tactic| (k_here; k_dflt (refine' Mine.in_bytes (by decide) (by decide) ?_; k_whole)))
local macro_rules | `(tactic| walk_at "compareOp NotIn int bytes") => `(tactic| (k_here; k_dflt (refine' Mine.notin_bytes (by decide) (by decide) ?_; k_whole)))
local macro_rules | `(tactic| walk_at "binaryOp Add") => `(tactic| ((try dsimp only); k_here; (with_reducible show wpAny _ _ (binaryOp Operator.Add (Value.str _ _) (Value.str _ _)) _ _ _); k_dflt (refine' Mine.add_mid ?hx ?hy ?_; (case hx => first | omega | decide +kernel | (simp only [PySem.Str.length_append]; (have q1 : (PySem.Str.ofString "\\").length = 1 := by decide +kernel); (have q2 : (PySem.Str.ofString "\\x").length = 2 := by decide +kernel); omega)); (case hy => first | omega | decide +kernel); k_whole); intro t' tk'))
local macro_rules | `(tactic| walk_at "InvEndN") => `(tactic| (refine Mine.stop_here ?_))
local macro_rules | `(tactic| walk_at "subscriptTail") => `(tactic| ((with_reducible show wpAny _ _ (subscriptTail _ _ (Value.ref _) _) _ _ _); (fail_if_success (rename Mine.Marked => q9)); refine Mine.stop_here ?_))
local macro_rules | `(tactic| walk_at "eval Dict") => `(tactic| (exfalso; (rename ([9, 10, 13].any _) = true => hd9); simp at hd9; omega))
local macro_rules | `(tactic| walk_at "pyIter bytes") => `(tactic| (refine Mine.stop_here ?_))
namespace Mine
set_option maxRecDepth 100000 in
set_option maxHeartbeats 8000000 in
theorem bytes_spec (w : World) {loose : List Str} {mean : ExcName → Option Value} {mg mb : Str → Option Value} {bs : Array UInt8} {ho : Option Value} {dp un : Nat} {gd : Option (List Code)} {cn : Str} {cs : Scope} {a : Addr} {ccd : Value} {outer : List Env} {A₀ : Around} {base h₀ : Heap} {L : Addr} {m : Str → Option Value}
    {news : List (Addr × Obj)} {s : Shared} {tk0 : Tok} {Q E : Value → Shared → Prop}
    (B : Below A₀ base outer h₀) (F : Fr h₀ L s.heap m) (HO : HeldOk ho h₀) (X : (hd.heap_39 w.params).In h₀) (N : News h₀ L s.heap news) (T : Top hd.view_39 loose mean mg mb h₀) (hk : cs.kind = .function) (hok : bs.size ≤ 64) (hdp : dp + 3 < recursionLimit) (hu : un + 200 < cLine)
    (rS : ∀ h' tk' t', Fr h₀ L h' m → News h₀ L h' news → Q (.str (Builtin.Bytes.literal bs) t') { s with heap := h', toks := tk' }) :
    wpAny (model P2 w) (atH ho dp un gd (envOf cn cs L a ccd) outer) (call (.ref 173) [.bytes bs tk0]) Q E s := by
  have hq : PySem.Challenge.rw_km0038_02 = PySem.Challenge.rw_km0038_02 ∧ hd.heap_39 = hd.heap_39 := ⟨rfl, rfl⟩
  revert hq
  k_fill
  intro hq
  w_on
  refine wpAny_call ?_
  k_dflt (refine' code_def ?k1 ?k2 ?k3 ?k4 ?k5 ?kA ?kF ?kK ?k6 ?k7 ?k8 ?k9 ?kB ?_ ?c2 ?c3 ?c4 ?c5; (case kA => exact rfl); (case kF => exact rfl); (case kK => exact hk); (case k1 => k_asm); (case k2 => k_asm); (case k3 => k_asm); (case k4 => k_asm); (case k5 => k_asm); (case k6 => k_is); (case k7 => k_is); (case k8 => k_room); (case k9 => first | exact BindsTo.of_eq rfl | exact binds_K (by k_in) rfl (by k_is) rfl rfl rfl); (case c5 => decide); (case kB => exact locs rfl); (case c2 => exact rfl); (case c3 => exact rfl); (case c4 => exact rfl); k_whole; intro g' L' h' FG' F' N' B' X' T'; (try dsimp only); (try k_lift B'); (try k_fold))
  w_strict k_steps
  · unfold Stop
    (try dsimp only)
    refine any_toks (s := s) ?_
    intro tk1
    rename Fr g' L' _ _ => F1
    rename News g' L' _ _ => N1
    with_unfolding_all refine' kst_bytesH (σ := Str × Tok) (fun _ => news) (fun c => [(Str.ofString "shown", .str c.1 c.2)]) (fun _ => True) [] (fun pre c => c.1.cps.toList = pre.flatMap (shownB 39)) (Str.ofString "", ?tqA) rfl rfl (HO.keeps FG'.keep) F1 N1 trivial ?kk ?kp ?_ ?_
    case kk => intro p hp; rw [List.mem_singleton.mp hp]; rfl
    case kp =>
      show (Str.ofString "").cps.toList = []
      decide +kernel
    · intro c pre post n t u h tk own he hlt h0 h1 ho _ hp F N
      obtain ⟨sh, tsh⟩ := c
      (try dsimp only at hp F N)
      clear F1 N1
      have hshl : sh.length ≤ 256 := by
        have hpl : pre.length ≤ 64 := by rw [KBw.ints_length] at hlt; omega
        have := shownB_len 39 pre
        rw [← hp] at this
        have e : sh.length = sh.cps.toList.length := by simp [Str.length]
        omega
      by_cases hn9 : n = 9 ∨ n = 10 ∨ n = 13
      · rcases hn9 with rfl | rfl | rfl
        all_goals w_strict k_steps
        all_goals unfold Stop
        all_goals refine any_toks (s := s) ?_
        all_goals intro tk9
        all_goals have mk9 : Marked := trivial
        all_goals w_strict k_steps
        all_goals unfold Stop
        all_goals rename Fr g' _ _ _ => F8
        all_goals rename News g' _ _ _ => N8
        · exact shown_end (q := 39) (l := [92, 116]) F8 N8 hp (fun z h1 h2 => by simp [h1, h2, kstB]) (hx_lit (by decide +kernel)) (by decide) (fun p hp => by simp [hp]) (fun p hp => by simp [hp])
        · exact shown_end (q := 39) (l := [92, 110]) F8 N8 hp (fun z h1 h2 => by simp [h1, h2, kstB]) (hx_lit (by decide +kernel)) (by decide) (fun p hp => by simp [hp]) (fun p hp => by simp [hp])
        · exact shown_end (q := 39) (l := [92, 114]) F8 N8 hp (fun z h1 h2 => by simp [h1, h2, kstB]) (hx_lit (by decide +kernel)) (by decide) (fun p hp => by simp [hp]) (fun p hp => by simp [hp])
      · w_strict k_steps
        all_goals unfold Stop
        all_goals rename Fr g' _ _ _ => F8
        all_goals rename News g' _ _ _ => N8
        · exact shown_end (q := 39) F8 N8 hp (fun z h1 h2 => by simp [h1, h2, kstB]) (hx_hex (q := 39) (by decide) h0 h1 hn9 (.inl (by omega))) rfl (fun p hp => by simp [hp]) (fun p hp => by simp [hp])
        · exact shown_end (q := 39) F8 N8 hp (fun z h1 h2 => by simp [h1, h2, kstB]) (hx_hex (q := 39) (by decide) h0 h1 hn9 (.inr (by omega))) rfl (fun p hp => by simp [hp]) (fun p hp => by simp [hp])
        · exact shown_end (q := 39) F8 N8 hp (fun z h1 h2 => by simp [h1, h2, kstB]) (hx_esc (q := 39) (by (rename ([(39 : Int), 92].any _) = true => hh); exact hh)) rfl (fun p hp => by simp [hp]) (fun p hp => by simp [hp])
        · exact shown_end (q := 39) F8 N8 hp (fun z h1 h2 => by simp [h1, h2, kstB]) (hx_same (q := 39) (by assumption) (by assumption) (by (rename ([(39 : Int), 92].any _) = false => hh); exact hh)) rfl (fun p hp => by simp [hp]) (fun p hp => by simp [hp])
    · intro c u h tk hl _ hp F N
      obtain ⟨sh, tsh⟩ := c
      (try dsimp only at hp F N)
      (try dsimp only)
      clear F1 N1
      have hshl : sh.length ≤ 256 := by
        have := shownB_len 39 (KBw.bInts bs)
        rw [← hp, KBw.ints_length] at this
        have e : sh.length = sh.cps.toList.length := by simp [Str.length]
        omega
      w_strict k_steps
      rename Fr _ _ _ _ => F8
      rename News _ _ _ _ => N8
      have hq8 : (if bs.contains 39 && !bs.contains 34 then 34 else 39) = 39 := by
        (rename bs.contains (Int.toNat 39).toUInt8 = true => c1); (rename bs.contains (Int.toNat 34).toUInt8 = true => c2); (have c1 : bs.contains 39 = true := c1); (have c2 : bs.contains 34 = true := c2); rw [c1, c2]; rfl
      have e8 := literal_is hq8 hp
      have key : ∀ x, x = Builtin.Bytes.literal bs → ∀ t' h8 tk', Fr h₀ L h8 m → News h₀ L h8 news → Q (.str x t') { s with heap := h8, toks := tk' } := fun x hx t' h8 tk' f n => hx ▸ rS _ _ _ f n
      exact key _ e8 _ _ _ F8 N8
  · unfold Stop
    (try dsimp only)
    refine any_toks (s := s) ?_
    intro tk1
    rename Fr g' L' _ _ => F1
    rename News g' L' _ _ => N1
    with_unfolding_all refine' kst_bytesH (σ := Str × Tok) (fun _ => news) (fun c => [(Str.ofString "shown", .str c.1 c.2)]) (fun _ => True) [] (fun pre c => c.1.cps.toList = pre.flatMap (shownB 34)) (Str.ofString "", ?tqB) rfl rfl (HO.keeps FG'.keep) F1 N1 trivial ?kk ?kp ?_ ?_
    case kk => intro p hp; rw [List.mem_singleton.mp hp]; rfl
    case kp =>
      show (Str.ofString "").cps.toList = []
      decide +kernel
    · intro c pre post n t u h tk own he hlt h0 h1 ho _ hp F N
      obtain ⟨sh, tsh⟩ := c
      (try dsimp only at hp F N)
      clear F1 N1
      have hshl : sh.length ≤ 256 := by
        have hpl : pre.length ≤ 64 := by rw [KBw.ints_length] at hlt; omega
        have := shownB_len 34 pre
        rw [← hp] at this
        have e : sh.length = sh.cps.toList.length := by simp [Str.length]
        omega
      by_cases hn9 : n = 9 ∨ n = 10 ∨ n = 13
      · rcases hn9 with rfl | rfl | rfl
        all_goals w_strict k_steps
        all_goals unfold Stop
        all_goals refine any_toks (s := s) ?_
        all_goals intro tk9
        all_goals have mk9 : Marked := trivial
        all_goals w_strict k_steps
        all_goals unfold Stop
        all_goals rename Fr g' _ _ _ => F8
        all_goals rename News g' _ _ _ => N8
        · exact shown_end (q := 34) (l := [92, 116]) F8 N8 hp (fun z h1 h2 => by simp [h1, h2, kstB]) (hx_lit (by decide +kernel)) (by decide) (fun p hp => by simp [hp]) (fun p hp => by simp [hp])
        · exact shown_end (q := 34) (l := [92, 110]) F8 N8 hp (fun z h1 h2 => by simp [h1, h2, kstB]) (hx_lit (by decide +kernel)) (by decide) (fun p hp => by simp [hp]) (fun p hp => by simp [hp])
        · exact shown_end (q := 34) (l := [92, 114]) F8 N8 hp (fun z h1 h2 => by simp [h1, h2, kstB]) (hx_lit (by decide +kernel)) (by decide) (fun p hp => by simp [hp]) (fun p hp => by simp [hp])
      · w_strict k_steps
        all_goals unfold Stop
        all_goals rename Fr g' _ _ _ => F8
        all_goals rename News g' _ _ _ => N8
        · exact shown_end (q := 34) F8 N8 hp (fun z h1 h2 => by simp [h1, h2, kstB]) (hx_hex (q := 34) (by decide) h0 h1 hn9 (.inl (by omega))) rfl (fun p hp => by simp [hp]) (fun p hp => by simp [hp])
        · exact shown_end (q := 34) F8 N8 hp (fun z h1 h2 => by simp [h1, h2, kstB]) (hx_hex (q := 34) (by decide) h0 h1 hn9 (.inr (by omega))) rfl (fun p hp => by simp [hp]) (fun p hp => by simp [hp])
        · exact shown_end (q := 34) F8 N8 hp (fun z h1 h2 => by simp [h1, h2, kstB]) (hx_esc (q := 34) (by (rename ([(34 : Int), 92].any _) = true => hh); exact hh)) rfl (fun p hp => by simp [hp]) (fun p hp => by simp [hp])
        · exact shown_end (q := 34) F8 N8 hp (fun z h1 h2 => by simp [h1, h2, kstB]) (hx_same (q := 34) (by assumption) (by assumption) (by (rename ([(34 : Int), 92].any _) = false => hh); exact hh)) rfl (fun p hp => by simp [hp]) (fun p hp => by simp [hp])
    · intro c u h tk hl _ hp F N
      obtain ⟨sh, tsh⟩ := c
      (try dsimp only at hp F N)
      (try dsimp only)
      clear F1 N1
      have hshl : sh.length ≤ 256 := by
        have := shownB_len 34 (KBw.bInts bs)
        rw [← hp, KBw.ints_length] at this
        have e : sh.length = sh.cps.toList.length := by simp [Str.length]
        omega
      w_strict k_steps
      rename Fr _ _ _ _ => F8
      rename News _ _ _ _ => N8
      have hq8 : (if bs.contains 39 && !bs.contains 34 then 34 else 39) = 34 := by
        (rename bs.contains _ = true => c1); (rename bs.contains _ = false => c2); (have c1 : bs.contains 39 = true := c1); (have c2 : bs.contains 34 = false := c2); rw [c1, c2]; rfl
      have e8 := literal_is hq8 hp
      have key : ∀ x, x = Builtin.Bytes.literal bs → ∀ t' h8 tk', Fr h₀ L h8 m → News h₀ L h8 news → Q (.str x t') { s with heap := h8, toks := tk' } := fun x hx t' h8 tk' f n => hx ▸ rS _ _ _ f n
      exact key _ e8 _ _ _ F8 N8
  · unfold Stop
    (try dsimp only)
    refine any_toks (s := s) ?_
    intro tk1
    rename Fr g' L' _ _ => F1
    rename News g' L' _ _ => N1
    with_unfolding_all refine' kst_bytesH (σ := Str × Tok) (fun _ => news) (fun c => [(Str.ofString "shown", .str c.1 c.2)]) (fun _ => True) [] (fun pre c => c.1.cps.toList = pre.flatMap (shownB 39)) (Str.ofString "", ?tqC) rfl rfl (HO.keeps FG'.keep) F1 N1 trivial ?kk ?kp ?_ ?_
    case kk => intro p hp; rw [List.mem_singleton.mp hp]; rfl
    case kp =>
      show (Str.ofString "").cps.toList = []
      decide +kernel
    · intro c pre post n t u h tk own he hlt h0 h1 ho _ hp F N
      obtain ⟨sh, tsh⟩ := c
      (try dsimp only at hp F N)
      clear F1 N1
      have hshl : sh.length ≤ 256 := by
        have hpl : pre.length ≤ 64 := by rw [KBw.ints_length] at hlt; omega
        have := shownB_len 39 pre
        rw [← hp] at this
        have e : sh.length = sh.cps.toList.length := by simp [Str.length]
        omega
      by_cases hn9 : n = 9 ∨ n = 10 ∨ n = 13
      · rcases hn9 with rfl | rfl | rfl
        all_goals w_strict k_steps
        all_goals unfold Stop
        all_goals refine any_toks (s := s) ?_
        all_goals intro tk9
        all_goals have mk9 : Marked := trivial
        all_goals w_strict k_steps
        all_goals unfold Stop
        all_goals rename Fr g' _ _ _ => F8
        all_goals rename News g' _ _ _ => N8
        · exact shown_end (q := 39) (l := [92, 116]) F8 N8 hp (fun z h1 h2 => by simp [h1, h2, kstB]) (hx_lit (by decide +kernel)) (by decide) (fun p hp => by simp [hp]) (fun p hp => by simp [hp])
        · exact shown_end (q := 39) (l := [92, 110]) F8 N8 hp (fun z h1 h2 => by simp [h1, h2, kstB]) (hx_lit (by decide +kernel)) (by decide) (fun p hp => by simp [hp]) (fun p hp => by simp [hp])
        · exact shown_end (q := 39) (l := [92, 114]) F8 N8 hp (fun z h1 h2 => by simp [h1, h2, kstB]) (hx_lit (by decide +kernel)) (by decide) (fun p hp => by simp [hp]) (fun p hp => by simp [hp])
      · w_strict k_steps
        all_goals unfold Stop
        all_goals rename Fr g' _ _ _ => F8
        all_goals rename News g' _ _ _ => N8
        · exact shown_end (q := 39) F8 N8 hp (fun z h1 h2 => by simp [h1, h2, kstB]) (hx_hex (q := 39) (by decide) h0 h1 hn9 (.inl (by omega))) rfl (fun p hp => by simp [hp]) (fun p hp => by simp [hp])
        · exact shown_end (q := 39) F8 N8 hp (fun z h1 h2 => by simp [h1, h2, kstB]) (hx_hex (q := 39) (by decide) h0 h1 hn9 (.inr (by omega))) rfl (fun p hp => by simp [hp]) (fun p hp => by simp [hp])
        · exact shown_end (q := 39) F8 N8 hp (fun z h1 h2 => by simp [h1, h2, kstB]) (hx_esc (q := 39) (by (rename ([(39 : Int), 92].any _) = true => hh); exact hh)) rfl (fun p hp => by simp [hp]) (fun p hp => by simp [hp])
        · exact shown_end (q := 39) F8 N8 hp (fun z h1 h2 => by simp [h1, h2, kstB]) (hx_same (q := 39) (by assumption) (by assumption) (by (rename ([(39 : Int), 92].any _) = false => hh); exact hh)) rfl (fun p hp => by simp [hp]) (fun p hp => by simp [hp])
    · intro c u h tk hl _ hp F N
      obtain ⟨sh, tsh⟩ := c
      (try dsimp only at hp F N)
      (try dsimp only)
      clear F1 N1
      have hshl : sh.length ≤ 256 := by
        have := shownB_len 39 (KBw.bInts bs)
        rw [← hp, KBw.ints_length] at this
        have e : sh.length = sh.cps.toList.length := by simp [Str.length]
        omega
      w_strict k_steps
      rename Fr _ _ _ _ => F8
      rename News _ _ _ _ => N8
      have hq8 : (if bs.contains 39 && !bs.contains 34 then 34 else 39) = 39 := by
        (rename bs.contains (Int.toNat 39).toUInt8 = false => c1); (have c1 : bs.contains 39 = false := c1); rw [c1]; rfl
      have e8 := literal_is hq8 hp
      have key : ∀ x, x = Builtin.Bytes.literal bs → ∀ t' h8 tk', Fr h₀ L h8 m → News h₀ L h8 news → Q (.str x t') { s with heap := h8, toks := tk' } := fun x hx t' h8 tk' f n => hx ▸ rS _ _ _ f n
      exact key _ e8 _ _ _ F8 N8
end Mine
end
section
open PySem PySem.W PyProof.Rows
local macro_rules | `(tactic| walk_at "mine pad") => `(tactic| skip)
local macro_rules | `(tactic| walk_at "mine pad") => `(tactic| skip)
local macro_rules | `(tactic| walk_at "mine pad") => `(tactic| skip)
local macro_rules | `(tactic| walk_at "mine pad") => `(tactic| skip)
local macro_rules | `(tactic| walk_at "mine pad") => `(tactic| skip)
local macro_rules | `(tactic| walk_at "mine pad") => `(tactic| skip)
local macro_rules | `(tactic| walk_at "mine pad") => `(tactic| skip)
local macro_rules | `(tactic| walk_at "mine pad") => `(tactic| skip)
local macro_rules | `(tactic| walk_at "mine pad") => `(tactic| skip)
local macro_rules | `(tactic| walk_at "mine pad") => `(tactic| skip)
local macro_rules | `(tactic| walk_at "mine pad") => `(tactic| skip)
local macro_rules | `(tactic| walk_at "mine pad") => `(tactic| skip)
local macro_rules | `(tactic| walk_at "mine pad") => `(tactic| skip)
local macro_rules | `(tactic| walk_at "mine pad") => `(tactic| skip)
local macro_rules | `(tactic| walk_at "mine pad") => `(tactic| skip)
local macro_rules | `(tactic| walk_at "mine pad") => `(tactic| skip)
local macro_rules | `(tactic| walk_at "mine pad") => `(tactic| skip)
local macro_rules | `(tactic| walk_at "mine pad") => `(tactic| skip)
local macro_rules | `(tactic| walk_at "mine pad") => `(tactic| skip)
local macro_rules | `(tactic| walk_at "mine pad") => `(tactic| skip)
local macro_rules | `(tactic| walk_at "mine pad") => `(tactic| skip)
local macro_rules | `(tactic| walk_at "mine pad") => `(tactic| skip)
local macro_rules | `(tactic| walk_at "mine pad") => `(tactic| skip)
local macro_rules | `(tactic| walk_at "mine pad") => `(tactic| skip)
local macro_rules | `(tactic| walk_at "mine pad") => `(tactic| skip)
local macro_rules | `(tactic| walk_at "mine pad") => `(tactic| skip)
local macro_rules | `(tactic| walk_at "mine pad") => `(tactic| skip)
local macro_rules | `(tactic| walk_at "mine pad") => `(tactic| skip)
local macro_rules | `(tactic| walk_at "mine pad") => `(tactic| skip)
local macro_rules | `(tactic| walk_at "mine pad") => `(tactic| skip)
local macro_rules | `(tactic| walk_at "mine pad") => `(tactic| skip)
local macro_rules | `(tactic| k_all) => `(tactic| assumption)
local macro_rules | `(tactic| k_room) => `(tactic| ktr_room)
local macro_rules | `(tactic| ke_room) => `(tactic| ktr_units)
local macro_rules | `(tactic| k_units) => `(tactic| ktr_units)
local macro_rules | `(tactic| walk_at "call ref") => `(tactic| (refine Mine.stop_here ?_))
namespace Mine
set_option maxRecDepth 100000 in
set_option maxHeartbeats 8000000 in
theorem leaf_spec (w : World) {loose : List Str} {mean : ExcName → Option Value} {mg mb : Str → Option Value} {v : Value} {t : Str} {ho : Option Value} {dp un : Nat} {gd : Option (List Code)} {cn : Str} {cs : Scope} {a : Addr} {ccd : Value} {outer : List Env} {A₀ : Around} {base h₀ : Heap} {L : Addr} {m : Str → Option Value}
    {news : List (Addr × Obj)} {s : Shared} {Q E : Value → Shared → Prop}
    (B : Below A₀ base outer h₀) (F : Fr h₀ L s.heap m) (HO : HeldOk ho h₀) (X : (hd.heap_39 w.params).In h₀) (N : News h₀ L s.heap news) (T : Top hd.view_39 loose mean mg mb h₀) (hk : cs.kind = .function) (hv : Leaf v t) (hdp : dp + 6 < recursionLimit) (hu : un + 210 < cLine)
    (rS : ∀ h' tk' t', Fr h₀ L h' m → News h₀ L h' news → Q (.str t t') { s with heap := h', toks := tk' }) :
    wpAny (model P2 w) (atH ho dp un gd (envOf cn cs L a ccd) outer) (call (.ref 178) [v]) Q E s := by
  have hq : PySem.Challenge.rw_km0038_02 = PySem.Challenge.rw_km0038_02 ∧ hd.heap_39 = hd.heap_39 := ⟨rfl, rfl⟩
  revert hq
  k_fill
  intro hq
  w_on
  refine wpAny_call ?_
  k_dflt (refine' code_def ?k1 ?k2 ?k3 ?k4 ?k5 ?kA ?kF ?kK ?k6 ?k7 ?k8 ?k9 ?kB ?_ ?c2 ?c3 ?c4 ?c5; (case kA => exact rfl); (case kF => exact rfl); (case kK => exact hk); (case k1 => k_asm); (case k2 => k_asm); (case k3 => k_asm); (case k4 => k_asm); (case k5 => k_asm); (case k6 => k_is); (case k7 => k_is); (case k8 => k_room); (case k9 => first | exact BindsTo.of_eq rfl | exact binds_K (by k_in) rfl (by k_is) rfl rfl rfl); (case c5 => decide); (case kB => exact locs rfl); (case c2 => exact rfl); (case c3 => exact rfl); (case c4 => exact rfl); k_whole; intro g' L' h' FG' F' N' B' X' T'; (try dsimp only); (try k_lift B'); (try k_fold))
  cases hv with
  | str d u hd =>
    w_strict k_steps
    unfold Stop
    with_unfolding_all refine' Mine.text_spec _ ?Btext_spec ?Ftext_spec ?HOtext_spec ?Xtext_spec ?Ntext_spec ?Ttext_spec ?hktext_spec ?oktext_spec ?dptext_spec ?untext_spec ?rStext_spec
    (case Btext_spec => k_asm); (case Ftext_spec => k_asm); (case HOtext_spec => exact HO.keeps FG'.keep); (case Xtext_spec => k_asm); (case Ntext_spec => k_asm); (case Ttext_spec => k_asm); (case hktext_spec => exact rfl); (case oktext_spec => exact hd); (case dptext_spec => ktr_room); (case untext_spec => ktr_units)
    intro h9 tk9 t9 F9 N9
    w_strict k_steps
    exact rS _ _ _ (by k_asm) (by k_asm)
  | bytes bs u hb =>
    w_strict k_steps
    unfold Stop
    with_unfolding_all refine' Mine.bytes_spec _ ?Bbytes_spec ?Fbytes_spec ?HObytes_spec ?Xbytes_spec ?Nbytes_spec ?Tbytes_spec ?hkbytes_spec ?okbytes_spec ?dpbytes_spec ?unbytes_spec ?rSbytes_spec
    (case Bbytes_spec => k_asm); (case Fbytes_spec => k_asm); (case HObytes_spec => exact HO.keeps FG'.keep); (case Xbytes_spec => k_asm); (case Nbytes_spec => k_asm); (case Tbytes_spec => k_asm); (case hkbytes_spec => exact rfl); (case okbytes_spec => exact hb); (case dpbytes_spec => ktr_room); (case unbytes_spec => ktr_units)
    intro h9 tk9 t9 F9 N9
    w_strict k_steps
    exact rS _ _ _ (by k_asm) (by k_asm)
  | int i u h1 h2 =>
    w_strict k_steps
    exact rS _ _ _ (by k_asm) (by k_asm)
  | bool b =>
    w_strict k_steps
    exact rS _ _ _ (by k_asm) (by k_asm)
  | none =>
    w_strict k_steps
    exact rS _ _ _ (by k_asm) (by k_asm)
end Mine
end
section
open PySem PySem.W PyProof.Rows
local macro_rules | `(tactic| walk_at "mine pad") => `(tactic| skip)
local macro_rules | `(tactic| walk_at "mine pad") => `(tactic| skip)
local macro_rules | `(tactic| walk_at "mine pad") => `(tactic| skip)
local macro_rules | `(tactic| walk_at "mine pad") => `(tactic| skip)
local macro_rules | `(tactic| walk_at "mine pad") => `(tactic| skip)
local macro_rules | `(tactic| walk_at "mine pad") => `(tactic| skip)
local macro_rules | `(tactic| walk_at "mine pad") => `(tactic| skip)
local macro_rules | `(tactic| walk_at "mine pad") => `(tactic| skip)
local macro_rules | `(tactic| walk_at "mine pad") => `(tactic| skip)
local macro_rules | `(tactic| walk_at "mine pad") => `(tactic| skip)
local macro_rules | `(tactic| walk_at "mine pad") => `(tactic| skip)
local macro_rules | `(tactic| walk_at "mine pad") => `(tactic| skip)
local macro_rules | `(tactic| walk_at "mine pad") => `(tactic| skip)
local macro_rules | `(tactic| walk_at "mine pad") => `(tactic| skip)
local macro_rules | `(tactic| walk_at "mine pad") => `(tactic| skip)
local macro_rules | `(tactic| walk_at "mine pad") => `(tactic| skip)
local macro_rules | `(tactic| walk_at "mine pad") => `(tactic| skip)
local macro_rules | `(tactic| walk_at "mine pad") => `(tactic| skip)
local macro_rules | `(tactic| walk_at "mine pad") => `(tactic| skip)
local macro_rules | `(tactic| walk_at "mine pad") => `(tactic| skip)
local macro_rules | `(tactic| walk_at "mine pad") => `(tactic| skip)
local macro_rules | `(tactic| walk_at "mine pad") => `(tactic| skip)
local macro_rules | `(tactic| walk_at "mine pad") => `(tactic| skip)
local macro_rules | `(tactic| walk_at "mine pad") => `(tactic| skip)
local macro_rules | `(tactic| walk_at "mine pad") => `(tactic| skip)
local macro_rules | `(tactic| walk_at "mine pad") => `(tactic| skip)
local macro_rules | `(tactic| walk_at "mine pad") => `(tactic| skip)
local macro_rules | `(tactic| walk_at "mine pad") => `(tactic| skip)
local macro_rules | `(tactic| k_all) => `(tactic| assumption)
local macro_rules | `(tactic| k_room) => `(tactic| ktr_room)
local macro_rules | `(tactic| ke_room) => `(tactic| ktr_units)
local macro_rules | `(tactic| k_units) => `(tactic| ktr_units)
local macro_rules | `(tactic| walk_at "call ref") => `(tactic| (refine Mine.stop_here ?_))
local macro_rules | `(tactic| walk_at "eval ListComp") => `(tactic| (refine Mine.stop_here ?_))
local macro_rules | `(tactic| walk_at "call builtin:isinstance") => `(tactic| first
  | (refine IsiPair.isList_str (News.isList (by k_asm) (by assumption)) (fun _ _ e => e) ?_)
  | (refine IsiPair.isList_bytes (News.isList (by k_asm) (by assumption)) (fun _ _ e => e) ?_)
  | (refine IsiPair.isList_list (News.isList (by k_asm) (by assumption)) (fun _ _ e => e) ?_))
local macro_rules | `(tactic| walk_at "call builtin:str.join") => `(tactic| (k_here; k_dflt (refine' Mine.join_list ?hl ?hp ?hd ?_; (case hl => first | assumption | exact News.isList (by k_asm) (by k_mem)); (case hp => assumption); (case hd => assumption); k_whole); intro _ _ _ _ _))
local macro_rules | `(tactic| walk_at "binaryOp Add str str") => `(tactic| (k_here; k_dflt (refine' Mine.add_mid ?hx ?hy ?_; (case hx => first | omega | decide +kernel | (simp only [PySem.Str.length_append]; omega)); (case hy => first | omega | decide +kernel); k_whole); intro t' tk'))
namespace Mine
set_option maxRecDepth 100000 in
set_option maxHeartbeats 8000000 in
theorem written_spec (w : World) {loose : List Str} {mean : ExcName → Option Value} {mg mb : Str → Option Value} : ∀ (k : Nat) {v : Value} {t : Str} {ho : Option Value} {dp un : Nat} {gd : Option (List Code)} {cn : Str} {cs : Scope} {a : Addr} {ccd : Value} {outer : List Env} {A₀ : Around} {base h₀ : Heap} {L : Addr} {m : Str → Option Value}
    {news : List (Addr × Obj)} {s : Shared} {Q E : Value → Shared → Prop}
    (_B : Below A₀ base outer h₀) (_F : Fr h₀ L s.heap m) (_HO : HeldOk ho h₀) (_X : (hd.heap_39 w.params).In h₀) (_N : News h₀ L s.heap news) (_T : Top hd.view_39 loose mean mg mb h₀) (_hk : cs.kind = .function) (_hv : Thing news k v t) (_hdp : dp + 6 + 2 * k < recursionLimit) (_hu : un + 210 + 20 * k < cLine)
    (_rS : ∀ h' tk' t', Fr h₀ L h' m → News h₀ L h' news → Q (.str t t') { s with heap := h', toks := tk' }),
    wpAny (model P2 w) (atH ho dp un gd (envOf cn cs L a ccd) outer) (call (.ref 178) [v]) Q E s
  | 0, v, t, ho, dp, un, gd, cn, cs, a, ccd, outer, A₀, base, h₀, L, m, news, s, Q, E, B, F, HO, X, N, T, hk, hv, hdp, hu, rS => leaf_spec w B F HO X N T hk hv (by omega) (by omega) rS
  | k + 1, v, t, ho, dp, un, gd, cn, cs, a, ccd, outer, A₀, base, h₀, L, m, news, s, Q, E, B, F, HO, X, N, T, hk, hv, hdp, hu, rS => by
    have ih := @written_spec w loose mean mg mb k
    rcases hv with hv | ⟨a9, vs, nv, ts, rfl, rfl, hm9, hab, hvl, htl, hits, hlen9⟩
    · exact leaf_spec w B F HO X N T hk hv (by omega) (by omega) rS
    have hq : PySem.Challenge.rw_km0038_02 = PySem.Challenge.rw_km0038_02 ∧ hd.heap_39 = hd.heap_39 := ⟨rfl, rfl⟩
    revert hq
    k_fill
    intro hq
    w_on
    refine wpAny_call ?_
    k_dflt (refine' code_def ?k1 ?k2 ?k3 ?k4 ?k5 ?kA ?kF ?kK ?k6 ?k7 ?k8 ?k9 ?kB ?_ ?c2 ?c3 ?c4 ?c5; (case kA => exact rfl); (case kF => exact rfl); (case kK => exact hk); (case k1 => k_asm); (case k2 => k_asm); (case k3 => k_asm); (case k4 => k_asm); (case k5 => k_asm); (case k6 => k_is); (case k7 => k_is); (case k8 => k_room); (case k9 => first | exact BindsTo.of_eq rfl | exact binds_K (by k_in) rfl (by k_is) rfl rfl rfl); (case c5 => decide); (case kB => exact locs rfl); (case c2 => exact rfl); (case c3 => exact rfl); (case c4 => exact rfl); k_whole; intro g' L' h' FG' F' N' B' X' T'; (try dsimp only); (try k_lift B'); (try k_fold))
    w_strict k_steps
    unfold Stop
    rename Fr g' L' _ _ => F1
    rename News g' L' _ _ => N1
    refine listcomp_listH F1 (HO.keeps FG'.keep) (by with_unfolding_all rfl) (by decide) (by rfl) (by decide) (by rfl) ?_
    walk1
    refine ⟨a9, vs.toArray, _, rfl, F1, N1, .inr ⟨_, hm9, rfl, _, rfl⟩, by rw [List.size_toArray, sizeLine_eq]; omega, fun s₂ ⟨g9, e9⟩ => ?_⟩
    subst e9
    refine comp_vals hm9 ts htl ?_ ?_
    · intro i x y I oI C oC D m₂ ys h tk E' hx hy hC hmx F2 N2 off ne
      have hit := hits i x y hx hy
      w_strict k_steps
      unfold Stop
      with_unfolding_all refine' ih ?Bi ?Fi ?HOi ?Xi ?Ni ?Ti ?hki ?oki ?dpi ?uni ?rSi
      (case Bi => k_asm); (case Fi => k_asm); (case HOi => exact HO.keeps FG'.keep); (case Xi => k_asm); (case Ni => exact N2); (case Ti => k_asm); (case hki => exact rfl); (case oki => exact hit.more (fun p hp => by simp [hp])); (case dpi => ktr_room); (case uni => ktr_units)
      intro h9 tk9 t9 F9 N9
      exact LCg.CompEnd.intro F9 N9 _ (fun p hp => hp) off (.inr ⟨_, hm9, rfl, _, rfl⟩) ⟨rfl, _, rfl⟩
    · intro ps hps
      intro D h tk F2 N2 o1
      (try dsimp only)
      w_strict k_steps
      rename _ = Txt.join _ _ => hx9
      rename Fr h₀ L _ _ => F8
      rename News h₀ L _ _ => N8
      have key : ∀ x, x = listText ts → ∀ t' h8 tk', Fr h₀ L h8 m → News h₀ L h8 news → Q (.str x t') { s with heap := h8, toks := tk' } := fun x hx t' h8 tk' f n => hx ▸ rS _ _ _ f n
      exact key _ (by rw [hx9]; exact list_text ts) _ _ _ F8 (by first | exact N8 | exact News.tail' N8)
end Mine
end
section
open PySem PySem.W PyProof.Rows
local macro_rules | `(tactic| walk_at "mine pad") => `(tactic| skip)
local macro_rules | `(tactic| walk_at "mine pad") => `(tactic| skip)
local macro_rules | `(tactic| walk_at "mine pad") => `(tactic| skip)
local macro_rules | `(tactic| walk_at "mine pad") => `(tactic| skip)
local macro_rules | `(tactic| walk_at "mine pad") => `(tactic| skip)
local macro_rules | `(tactic| walk_at "mine pad") => `(tactic| skip)
local macro_rules | `(tactic| walk_at "mine pad") => `(tactic| skip)
local macro_rules | `(tactic| walk_at "mine pad") => `(tactic| skip)
local macro_rules | `(tactic| walk_at "mine pad") => `(tactic| skip)
local macro_rules | `(tactic| walk_at "mine pad") => `(tactic| skip)
local macro_rules | `(tactic| walk_at "mine pad") => `(tactic| skip)
local macro_rules | `(tactic| walk_at "mine pad") => `(tactic| skip)
local macro_rules | `(tactic| walk_at "mine pad") => `(tactic| skip)
local macro_rules | `(tactic| walk_at "mine pad") => `(tactic| skip)
local macro_rules | `(tactic| walk_at "mine pad") => `(tactic| skip)
local macro_rules | `(tactic| walk_at "mine pad") => `(tactic| skip)
local macro_rules | `(tactic| walk_at "mine pad") => `(tactic| skip)
local macro_rules | `(tactic| walk_at "mine pad") => `(tactic| skip)
local macro_rules | `(tactic| walk_at "mine pad") => `(tactic| skip)
local macro_rules | `(tactic| walk_at "mine pad") => `(tactic| skip)
local macro_rules | `(tactic| walk_at "mine pad") => `(tactic| skip)
local macro_rules | `(tactic| walk_at "mine pad") => `(tactic| skip)
local macro_rules | `(tactic| walk_at "mine pad") => `(tactic| skip)
local macro_rules | `(tactic| walk_at "mine pad") => `(tactic| skip)
local macro_rules | `(tactic| walk_at "mine pad") => `(tactic| skip)
local macro_rules | `(tactic| walk_at "mine pad") => `(tactic| skip)
local macro_rules | `(tactic| walk_at "mine pad") => `(tactic| skip)
local macro_rules | `(tactic| walk_at "mine pad") => `(tactic| skip)
local macro_rules | `(tactic| walk_at "mine pad") => `(tactic| skip)
local macro_rules | `(tactic| k_all) => `(tactic| assumption)
local macro_rules | `(tactic| k_room) => `(tactic| ktr_room)
local macro_rules | `(tactic| ke_room) => `(tactic| ktr_units)
local macro_rules | `(tactic| k_units) => `(tactic| ktr_units)
local macro_rules | `(tactic| walk_at "call ref") => `(tactic| (refine Mine.stop_here ?_))
local macro_rules | `(tactic| walk_at "eval ListComp") => `(tactic| (refine Mine.stop_here ?_))
local macro_rules | `(tactic| walk_at "call builtin:isinstance") => `(tactic| first
  | (refine IsiPair.isList_str (News.isList (by k_asm) (by assumption)) (fun _ _ e => e) ?_)
  | (refine IsiPair.isList_bytes (News.isList (by k_asm) (by assumption)) (fun _ _ e => e) ?_)
  | (refine IsiPair.isList_list (News.isList (by k_asm) (by assumption)) (fun _ _ e => e) ?_))
local macro_rules | `(tactic| walk_at "call builtin:str.join") => `(tactic| (k_here; k_dflt (refine' Mine.join_list ?hl ?hp ?hd ?_; (case hl => first | assumption | exact News.isList (by k_asm) (by k_mem)); (case hp => assumption); (case hd => assumption); k_whole); intro _ _ _ _ _))
local macro_rules | `(tactic| walk_at "binaryOp Add str str") => `(tactic| (k_here; k_dflt (refine' Mine.add_mid ?hx ?hy ?_; (case hx => first | omega | decide +kernel | (simp only [PySem.Str.length_append]; omega)); (case hy => first | omega | decide +kernel); k_whole); intro t' tk'))
namespace Mine
set_option maxRecDepth 100000 in
set_option maxHeartbeats 8000000 in
theorem written_held (w : World) {loose : List Str} {mean : ExcName → Option Value} {mg mb : Str → Option Value} {k : Nat} {v : Value} {t : Str} {e : Addr} {oe : Obj} {ve : Array Value} {dp un : Nat} {gd : Option (List Code)} {cn : Str} {cs : Scope} {a : Addr} {ccd : Value} {outer : List Env} {A₀ : Around} {base h₀ : Heap} {L : Addr} {m : Str → Option Value}
    {news : List (Addr × Obj)} {s : Shared} {Q E : Value → Shared → Prop}
    (B : Below A₀ base outer h₀) (F : Fr h₀ L s.heap m) (X : (hd.heap_39 w.params).In h₀) (N : News h₀ L s.heap ((e, oe) :: news)) (off : ∀ p ∈ news, p.1 ≠ e) (hve : oe.data = .fields ve) (hv2 : ve[2]? = some .none) (T : Top hd.view_39 loose mean mg mb h₀) (hk : cs.kind = .function) (hv : Thing news k v t) (hdp : dp + 10 + 2 * k < recursionLimit) (hu : un + 240 + 20 * k < cLine)
    (rS : ∀ h' tk' t', Fr h₀ L h' m → News h₀ L h' ((e, oe) :: news) → Q (.str t t') { s with heap := h', toks := tk' }) :
    wpAny (model P2 w) (atH (some (.ref e)) dp un gd (envOf cn cs L a ccd) outer) (call (.ref 178) [v]) Q E s := by
  have hq : PySem.Challenge.rw_km0038_02 = PySem.Challenge.rw_km0038_02 ∧ hd.heap_39 = hd.heap_39 := ⟨rfl, rfl⟩
  revert hq
  k_fill
  intro hq
  w_on
  refine wpAny_call ?_
  k_dflt (refine' code_defE ?k1 ?k2 ?k3 ?k4 ?kO ?k5 ?kA ?kF ?kK ?k6 ?k7 ?k8 ?k9 ?kB ?_ ?c2 ?c3 ?c4 ?c5; (case kA => exact rfl); (case kF => exact rfl); (case kK => exact hk); (case k1 => k_asm); (case k2 => k_asm); (case k3 => k_asm); (case k4 => exact N); (case kO => exact off); (case k5 => k_asm); (case k6 => k_is); (case k7 => k_is); (case k8 => k_room); (case k9 => first | exact BindsTo.of_eq rfl | exact binds_K (by k_in) rfl (by k_is) rfl rfl rfl); (case c5 => decide); (case kB => exact locs rfl); (case c2 => exact rfl); (case c3 => exact rfl); (case c4 => exact rfl); k_whole; intro g' L' h' FG' F' N' B' X' T' ge'; (try dsimp only); (try k_lift B'); (try k_fold))
  have HO9 : HeldOk (some (.ref e)) g' := .inr ⟨e, oe, ve, rfl, ge', hve, hv2⟩
  have hcs : Leaf v t ∨ ∃ (a : Addr) (vs : List Value) (n : Nat) (ts : List Str) (k' : Nat), k = k' + 1 ∧ v = .ref a ∧ t = listText ts ∧ (a, lstObj vs n) ∈ news ∧ vs.length ≤ 64 ∧ ts.length = vs.length ∧ (∀ (i : Nat) (x : Value) (y : Str), vs[i]? = some x → ts[i]? = some y → Thing news k' x y) ∧ (listText ts).length ≤ 100000 := by
    cases k with
    | zero => exact .inl hv
    | succ k =>
      rcases hv with hv | ⟨a, vs, n, ts, e1, e2, hm, _, h1, h2, h3, h4⟩
      · exact .inl hv
      · exact .inr ⟨a, vs, n, ts, k, rfl, e1, e2, hm, h1, h2, h3, h4⟩
  rcases hcs with hv | ⟨a9, vs, nv, ts, k', rfl, rfl, rfl, hm9, hvl, htl, hits, hlen9⟩
  · cases hv with
    | str d u hd =>
      w_strict k_steps
      unfold Stop
      with_unfolding_all refine' Mine.text_spec _ ?Btext_spec ?Ftext_spec ?HOtext_spec ?Xtext_spec ?Ntext_spec ?Ttext_spec ?hktext_spec ?oktext_spec ?dptext_spec ?untext_spec ?rStext_spec
      (case Btext_spec => k_asm); (case Ftext_spec => k_asm); (case HOtext_spec => exact HO9); (case Xtext_spec => k_asm); (case Ntext_spec => k_asm); (case Ttext_spec => k_asm); (case hktext_spec => exact rfl); (case oktext_spec => exact hd); (case dptext_spec => ktr_room); (case untext_spec => ktr_units)
      intro h9 tk9 t9 F9 N9
      w_strict k_steps
      exact rS _ _ _ (by k_asm) (news_cons (by assumption) (by first | assumption | exact News.tail' (by k_asm)))
    | bytes bs u hb =>
      w_strict k_steps
      unfold Stop
      with_unfolding_all refine' Mine.bytes_spec _ ?Bbytes_spec ?Fbytes_spec ?HObytes_spec ?Xbytes_spec ?Nbytes_spec ?Tbytes_spec ?hkbytes_spec ?okbytes_spec ?dpbytes_spec ?unbytes_spec ?rSbytes_spec
      (case Bbytes_spec => k_asm); (case Fbytes_spec => k_asm); (case HObytes_spec => exact HO9); (case Xbytes_spec => k_asm); (case Nbytes_spec => k_asm); (case Tbytes_spec => k_asm); (case hkbytes_spec => exact rfl); (case okbytes_spec => exact hb); (case dpbytes_spec => ktr_room); (case unbytes_spec => ktr_units)
      intro h9 tk9 t9 F9 N9
      w_strict k_steps
      exact rS _ _ _ (by k_asm) (news_cons (by assumption) (by first | assumption | exact News.tail' (by k_asm)))
    | int i u h1 h2 =>
      w_strict k_steps
      exact rS _ _ _ (by k_asm) (news_cons (by assumption) (by first | assumption | exact News.tail' (by k_asm)))
    | bool b =>
      w_strict k_steps
      exact rS _ _ _ (by k_asm) (news_cons (by assumption) (by first | assumption | exact News.tail' (by k_asm)))
    | none =>
      w_strict k_steps
      exact rS _ _ _ (by k_asm) (news_cons (by assumption) (by first | assumption | exact News.tail' (by k_asm)))
  · w_strict k_steps
    unfold Stop
    rename Fr g' L' _ _ => F1
    rename News g' L' _ _ => N1
    refine listcomp_listH F1 (HO9) (by with_unfolding_all rfl) (by decide) (by rfl) (by decide) (by rfl) ?_
    walk1
    refine ⟨a9, vs.toArray, _, rfl, F1, N1, .inr ⟨_, hm9, rfl, _, rfl⟩, by rw [List.size_toArray, sizeLine_eq]; omega, fun s₂ ⟨g9, e9⟩ => ?_⟩
    subst e9
    refine comp_vals hm9 ts htl ?_ ?_
    · intro i x y I oI C oC D m₂ ys h tk E' hx hy hC hmx F2 N2 off ne
      have hit := hits i x y hx hy
      w_strict k_steps
      unfold Stop
      with_unfolding_all refine' written_spec _ _ ?Bi ?Fi ?HOi ?Xi ?Ni ?Ti ?hki ?oki ?dpi ?uni ?rSi
      (case Bi => k_asm); (case Fi => k_asm); (case HOi => exact HO9); (case Xi => k_asm); (case Ni => exact N2); (case Ti => k_asm); (case hki => exact rfl); (case oki => exact hit.more (fun p hp => List.mem_cons_of_mem _ (List.mem_cons_of_mem _ (List.mem_cons_of_mem _ hp)))); (case dpi => ktr_room); (case uni => ktr_units)
      intro h9 tk9 t9 F9 N9
      exact LCg.CompEnd.intro F9 N9 _ (fun p hp => hp) off (.inr ⟨_, hm9, rfl, _, rfl⟩) ⟨rfl, _, rfl⟩
    · intro ps hps
      intro D h tk F2 N2 o1
      (try dsimp only)
      w_strict k_steps
      rename _ = Txt.join _ _ => hx9
      rename Fr h₀ L _ _ => F8
      rename News h₀ L _ _ => N8
      rename Fr h₀ L _ _ => F8
      rename News h₀ L _ _ => N8
      have key : ∀ x, x = listText ts → ∀ t' h8 tk', Fr h₀ L h8 m → News h₀ L h8 ((e, oe) :: news) → Q (.str x t') { s with heap := h8, toks := tk' } := fun x hx t' h8 tk' f n => hx ▸ rS _ _ _ f n
      exact key _ (by rw [hx9]; exact list_text ts) _ _ _ F8 (news_cons (by assumption) (by first | exact News.tail' (by assumption) | assumption))
end Mine
end
section
open PySem PySem.W PyProof.Rows
namespace Mine
theorem own2a : (ownsOf hd.view_39)[0]'(by decide +kernel) ∈ ownsOf hd.view_39 := List.getElem_mem _
theorem own2b : ((ownsOf hd.view_39)[0]'(by decide +kernel)).bm = [.type "ValueError", .type "Exception", .type "BaseException", .type "object"] := by decide +kernel
theorem own2c (P : Params) : nsIn (hd.heap_39 P) mainGlobals ((ownsOf hd.view_39)[0]'(by decide +kernel)).name = some (some (.ref 31)) := by kernel_rfl
end Mine
local macro_rules | `(tactic| walk_at "mine pad") => `(tactic| skip)
local macro_rules | `(tactic| walk_at "mine pad") => `(tactic| skip)
local macro_rules | `(tactic| walk_at "mine pad") => `(tactic| skip)
local macro_rules | `(tactic| walk_at "mine pad") => `(tactic| skip)
local macro_rules | `(tactic| walk_at "mine pad") => `(tactic| skip)
local macro_rules | `(tactic| walk_at "mine pad") => `(tactic| skip)
local macro_rules | `(tactic| walk_at "mine pad") => `(tactic| skip)
local macro_rules | `(tactic| walk_at "mine pad") => `(tactic| skip)
local macro_rules | `(tactic| walk_at "mine pad") => `(tactic| skip)
local macro_rules | `(tactic| walk_at "mine pad") => `(tactic| skip)
local macro_rules | `(tactic| walk_at "mine pad") => `(tactic| skip)
local macro_rules | `(tactic| walk_at "mine pad") => `(tactic| skip)
local macro_rules | `(tactic| walk_at "mine pad") => `(tactic| skip)
local macro_rules | `(tactic| walk_at "mine pad") => `(tactic| skip)
local macro_rules | `(tactic| walk_at "mine pad") => `(tactic| skip)
local macro_rules | `(tactic| walk_at "mine pad") => `(tactic| skip)
local macro_rules | `(tactic| walk_at "mine pad") => `(tactic| skip)
local macro_rules | `(tactic| walk_at "mine pad") => `(tactic| skip)
local macro_rules | `(tactic| walk_at "mine pad") => `(tactic| skip)
local macro_rules | `(tactic| walk_at "mine pad") => `(tactic| skip)
local macro_rules | `(tactic| walk_at "mine pad") => `(tactic| skip)
local macro_rules | `(tactic| walk_at "mine pad") => `(tactic| skip)
local macro_rules | `(tactic| walk_at "mine pad") => `(tactic| skip)
local macro_rules | `(tactic| walk_at "mine pad") => `(tactic| skip)
local macro_rules | `(tactic| walk_at "mine pad") => `(tactic| skip)
local macro_rules | `(tactic| walk_at "mine pad") => `(tactic| skip)
local macro_rules | `(tactic| walk_at "mine pad") => `(tactic| skip)
local macro_rules | `(tactic| k_all) => `(tactic| assumption)
local macro_rules | `(tactic| k_room) => `(tactic| ktr_room)
local macro_rules | `(tactic| ke_room) => `(tactic| ktr_units)
local macro_rules | `(tactic| k_units) => `(tactic| ktr_units)
local macro_rules | `(tactic| walk_at "call ref") => `(tactic| ((with_reducible show wpAny _ _ (call (Value.ref 178) _) _ _ _); refine Mine.stop_here ?_))
local macro_rules | `(tactic| walk_at "binaryOp Mod") => `(tactic| (refine Mine.stop_here ?_))
local macro_rules | `(tactic| walk_at "exec Raise some some") => `(tactic| (k_here; k_dflt (refine' Mine.raise_own_from ?F ?g ?O PySem.F.excBase_ValueError ?h ?_ ?a ?b ?c ?d ?e; (case F => k_asm); (case g => exact TopRead.g (by k_asm)); (case O => exact own_of_in (by k_asm) (by k_asm) (by k_is) (by k_exc)); (case h => first | rfl | assumption); (case a => rfl); (case b => rfl); (case c => rfl); (case d => rfl); (case e => decide); k_whole)))
local macro_rules | `(tactic| walk_at "leaving ref") => `(tactic| (k_here; (refine' Mine.leave_raiseP ?k1 ?k0 ?k2 ?k3 ?_; (case k0 => assumption); (case k2 => assumption); (case k1 => assumption); (case k3 => k_asm); k_whole; intro h' t' S' U'; (try dsimp only at S' U' ⊢))))
local macro_rules | `(tactic| walk_at "noteFrame ref") => `(tactic| (k_here; (with_reducible show wpAny _ _ (noteFrame _ _) (fun _ s₂ => wpAny _ _ (setFlight _ none) (fun _ s₃ => wpAny _ _ (handleBy _ _ (ExceptHandler.ExceptHandler (some (Expr.Name _ _)) (some _) _ _ :: _)) _ _ s₃) _ s₂) _ _); k_dflt (refine' Mine.caughtP ?R ?F ?K ?U ?XB ?TB ?D ?T0 ?ex ?q ?_; (case R => assumption); (case F => assumption); (case K => assumption); (case U => assumption); (case XB => assumption); (case TB => assumption); (case D => assumption); (case T0 => first | assumption | exact KtsTurn.refl); (case ex => k_is); (case q => kts_isx); k_whole); intro h' g' tk' d₁ ws' sl₁ d₂ nt' sl₂ T' F' N' ew' of' K' X' P' D'; (try k_lift K'); (try k_sweep)))
local macro_rules | `(tactic| walk_at "call type:type") => `(tactic| (k_here; (with_reducible show wpAny _ _ (call (Value.type "type") [Value.ref _]) _ _ _); k_dflt (refine' Mine.type_exc ?N ?h ?_; (case N => k_asm); (case h => k_mem); k_whole)))
local macro_rules | `(tactic| walk_at "getAttr ref") => `(tactic| (k_here; (with_reducible show wpAny _ _ (getAttr (Value.ref _) (PySem.Str.ofString "args") _) _ _ _); k_dflt (refine' Mine.args_exc PySem.F.attrBase_ValueError ?F ?T Mine.own2a Mine.own2b ?X (Mine.own2c _) ?N ?h ?h0 ?_; (case F => k_asm); (case T => k_asm); (case X => k_asm); (case N => k_asm); (case h => k_mem); (case h0 => assumption); k_whole)))
local macro_rules | `(tactic| walk_at "compareOp Eq ref ref") => `(tactic| (k_here; (with_reducible show wpAny _ _ (compareOp CmpOp.Eq (Value.ref _) (Value.ref _)) _ _ _); k_dflt (refine' Mine.eq_tup1 ?N ?h1 ?h2 ?e ?o ?u ?_; (case N => k_asm); (case h1 => k_mem); (case h2 => k_mem); (case e => exact rfl); (case o => exact Mine.words_lay (Mine.thing_plain (by assumption))); (case u => ktr_units); k_whole)))
local macro_rules | `(tactic| kts_go) => `(tactic| (refine' code_defS ?k1 ?k2 ?k3 ?k4 ?k5 ?XB ?TB ?D ?T0 ?kA ?k6 ?k7 ?k8 ?k9 ?kB ?_ ?cK ?c2 ?c3 ?c4 ?c5; (case kA => exact rfl); (case k2 => k_asm); (case k1 => k_asm); (case XB => assumption); (case TB => assumption); (case D => assumption); (case T0 => first | assumption | exact KtsTurn.refl); (case k3 => k_asm); (case k4 => k_asm); (case k5 => k_asm); (case k6 => k_is); (case k7 => k_is); (case k8 => k_room); (case k9 => first | exact binds_K (by k_in) rfl (by k_is) rfl rfl rfl | exact BindsTo.of_eq rfl | fail "kts_go: no rule for these arguments"); (case kB => exact locs rfl); (case cK => first | assumption | exact rfl); (case c2 => exact rfl); (case c3 => exact rfl); (case c4 => exact rfl); (case c5 => decide); k_whole; intro g' L' h' FG' F' N' B' X' T' D'; (try dsimp only); (try k_lift B'); (try k_fold)))
namespace Mine
set_option maxRecDepth 100000 in
set_option maxHeartbeats 8000000 in
theorem refused_spec (w : World) {mean : ExcName → Option Value} {mg mb : Str → Option Value} {k : Nat} {v : Value} {t : Str} {dp un : Nat} {env : Env} {outer : List Env} {A₀ : Around} {base h₀ g₀ : Heap} {L : Addr} {m : Str → Option Value}
    {news : List (Addr × Obj)} {s : Shared} {Q E : Value → Shared → Prop} {loose : List Str}
    (B : Below A₀ base outer h₀) (F : Fr h₀ L s.heap m) (X : (hd.heap_39 w.params).In h₀) (N : News h₀ L s.heap news) (T : Top hd.view_39 loose mean mg mb h₀) (hfX : env.frame = some L) (hk : env.scope.kind = .function) (XB : (hd.heap_39 w.params).In base) (TB : Top hd.view_39 loose mean mg mb base)
    (D : KtsDicts (outer.filterMap (·.frame)) h₀) (T0 : KtsTurn (outer.filterMap (·.frame)) g₀ h₀) (hv : Thing news k v t) (hdp : dp + 20 + 2 * k < recursionLimit) (hu : un + 400 + 20 * k < cLine)
    (rT : ∀ h₀' h' tk', KtsTurn (fs outer) g₀ h₀' → Fr h₀' L h' m → News h₀' L h' news → Below A₀ base outer h₀' → (hd.heap_39 w.params).In h₀' → Top hd.view_39 loose mean mg mb h₀' → KtsDicts (fs outer) h₀' → Q (.bool true) { s with heap := h', toks := tk' }) :
    wpAny (model P2 w) (at_ dp un (some []) env outer) (call (.ref 185) [v]) Q E s := by
  have hq : PySem.Challenge.rw_km0038_02 = PySem.Challenge.rw_km0038_02 ∧ hd.heap_39 = hd.heap_39 := ⟨rfl, rfl⟩
  revert hq
  k_fill
  intro hq
  w_on
  have hlen := thing_len hv
  refine wpAny_call ?_
  k_dflt (refine' code_defSX ?k1 ?k2 ?k3 ?k4 ?k5 ?XB ?TB ?D ?T0 ?kA ?kX ?k6 ?k7 ?k8 ?k9 ?kB ?_ ?cK ?c2 ?c3 ?c4 ?c5; (case kA => exact rfl); (case kX => exact hfX); (case k2 => k_asm); (case k1 => k_asm); (case XB => assumption); (case TB => assumption); (case D => assumption); (case T0 => first | assumption | exact KtsTurn.refl); (case k3 => k_asm); (case k4 => k_asm); (case k5 => k_asm); (case k6 => k_is); (case k7 => k_is); (case k8 => k_room); (case k9 => first | exact binds_K (by k_in) rfl (by k_is) rfl rfl rfl | exact BindsTo.of_eq rfl | fail "kts_go: no rule for these arguments"); (case kB => exact locs rfl); (case cK => exact hk); (case c2 => exact rfl); (case c3 => exact rfl); (case c4 => exact rfl); (case c5 => decide); k_whole; intro g' L' h' FG' F' N' B' X' T' D'; (try dsimp only); (try k_lift B'); (try k_fold))
  w_strict k_steps
  unfold Stop
  rename Fr _ _ _ _ => F5
  rename News _ _ _ _ => N5
  have hv5 := hv
  with_unfolding_all refine' thing_mod ?N5 rfl ?u5 (Thing.more ?sub5 hv) ?_
  (case N5 => exact N5); (case sub5 => exact fun p hp => by simp [hp]); (case u5 => ktr_units)
  intro h5 t5 k5 e5
  replace F5 := F5.keeps e5
  replace N5 := N5.grown e5
  w_strict k_steps
  unfold Stop
  rename PF _ _ => pf9
  rename ∀ q ∈ _ :: _, _ ≠ _ => of9
  have pf91 := pf9.1
  rename Fr _ _ _ _ => F6
  rename News _ _ _ _ => N6
  with_unfolding_all refine' written_held _ ?B6 ?F6 ?X6 ?N6 ?of6 ?ve6 ?vc6 ?T6 ?hk6 (Thing.more ?sub6 hv) ?dp6 ?un6 ?rS6
  (case B6 => k_asm); (case F6 => exact F6); (case X6 => k_asm); (case N6 => exact N6); (case of6 => exact of9); (case ve6 => exact rfl); (case vc6 => exact pf9.2); (case T6 => k_asm); (case hk6 => exact rfl); (case sub6 => exact fun p hp => List.mem_cons_of_mem _ (List.mem_cons_of_mem _ hp)); (case dp6 => ktr_room); (case un6 => ktr_units)
  intro h7 tk7 t7 F7 N7
  clear F6 N6
  w_strict k_steps
  rename KtsTurn _ _ _ => kT9
  rename Fr _ L _ m => kF9
  rename News _ L _ _ => kN9
  rename Below A₀ base outer _ => kB9
  rename Top _ _ _ _ _ _ => kP9
  rename KtsDicts _ _ => kD9
  exact rT _ _ _ kT9 kF9 (News.tail' (News.tail' (News.tail' (News.tail' kN9)))) kB9 (by assumption) kP9 kD9
end Mine
end
section
open PySem PySem.W PyProof.Rows
local macro_rules | `(tactic| walk_at "mine pad") => `(tactic| skip)
local macro_rules | `(tactic| walk_at "mine pad") => `(tactic| skip)
local macro_rules | `(tactic| walk_at "mine pad") => `(tactic| skip)
local macro_rules | `(tactic| walk_at "mine pad") => `(tactic| skip)
local macro_rules | `(tactic| walk_at "mine pad") => `(tactic| skip)
local macro_rules | `(tactic| walk_at "mine pad") => `(tactic| skip)
local macro_rules | `(tactic| walk_at "mine pad") => `(tactic| skip)
local macro_rules | `(tactic| walk_at "mine pad") => `(tactic| skip)
local macro_rules | `(tactic| walk_at "mine pad") => `(tactic| skip)
local macro_rules | `(tactic| walk_at "mine pad") => `(tactic| skip)
local macro_rules | `(tactic| walk_at "mine pad") => `(tactic| skip)
local macro_rules | `(tactic| walk_at "mine pad") => `(tactic| skip)
local macro_rules | `(tactic| walk_at "mine pad") => `(tactic| skip)
local macro_rules | `(tactic| walk_at "mine pad") => `(tactic| skip)
local macro_rules | `(tactic| walk_at "mine pad") => `(tactic| skip)
local macro_rules | `(tactic| walk_at "mine pad") => `(tactic| skip)
local macro_rules | `(tactic| walk_at "mine pad") => `(tactic| skip)
local macro_rules | `(tactic| walk_at "mine pad") => `(tactic| skip)
local macro_rules | `(tactic| walk_at "mine pad") => `(tactic| skip)
local macro_rules | `(tactic| walk_at "mine pad") => `(tactic| skip)
local macro_rules | `(tactic| walk_at "mine pad") => `(tactic| skip)
local macro_rules | `(tactic| walk_at "mine pad") => `(tactic| skip)
local macro_rules | `(tactic| walk_at "mine pad") => `(tactic| skip)
local macro_rules | `(tactic| walk_at "mine pad") => `(tactic| skip)
local macro_rules | `(tactic| walk_at "mine pad") => `(tactic| skip)
local macro_rules | `(tactic| walk_at "mine pad") => `(tactic| skip)
local macro_rules | `(tactic| walk_at "mine pad") => `(tactic| skip)
local macro_rules | `(tactic| k_room) => `(tactic| ktr_room)
local macro_rules | `(tactic| ke_room) => `(tactic| ktr_units)
local macro_rules | `(tactic| k_units) => `(tactic| ktr_units)
local macro_rules | `(tactic| walk_at "eval ListComp") => `(tactic| (refine Mine.stop_here ?_))
local macro_rules | `(tactic| walk_at "exec Assign cons ListComp") => `(tactic| (refine Mine.stop_here ?_))
local macro_rules | `(tactic| walk_at "exec For Name List cons nil") => `(tactic| (refine Mine.stop_here ?_))
local macro_rules | `(tactic| walk_at "WPost") => `(tactic| (refine Mine.stop_here ?_))
local macro_rules | `(tactic| walk_at "pyIter ref") => `(tactic| (refine Mine.stop_here ?_))
local macro_rules | `(tactic| walk_at "call ref") => `(tactic| ((with_reducible show wpAny _ _ (call (Value.ref 185) _) _ _ _); refine Mine.stop_here ?_))
local macro_rules | `(tactic| walk_at "call builtin:str.join") => `(tactic| (k_here; k_dflt (refine' Mine.join_signs ?hl ?hp ?hn ?_; (case hl => first | assumption | exact News.isList (by k_asm) (by k_mem)); (case hp => assumption); (case hn => assumption); k_whole); intro _ _ _ _ _))
local macro_rules | `(tactic| walk_at "call type:bytes") => `(tactic| (k_here; k_dflt (refine' Mine.bytes_made ?bF ?bN ?bl ?bi ?br ?bz ?bh ?_; (case bF => k_asm); (case bN => k_asm); (case bl => exact News.isList (by k_asm) (by k_mem)); (case bi => assumption); (case br => assumption); (case bz => assumption); (case bh => rfl); k_whole); intro h' t' k' F' N' hz'))
local macro_rules | `(tactic| walk_at "binaryOp Add str str") => `(tactic| (k_here; k_dflt (refine' Mine.add_mid ?hx ?hy ?_; (case hx => first | omega | decide +kernel | (simp only [PySem.Str.length_append]; omega)); (case hy => first | omega | decide +kernel); k_whole); intro t' tk'))
namespace Mine
set_option maxRecDepth 100000 in
set_option maxHeartbeats 8000000 in
theorem fin : PySem.Challenge.rw_km0038_02.Holds := hd (by
  w_on
  w_strict (k_go0; (all_goals try k_fold); k_steps)
  unfold Stop
  rename Fr _ _ _ _ => F1
  rename News _ _ _ _ => N1
  rename IntsAre _ _ => hI
  rename PySem.Shared => s1
  rename Heap.IsList _ _ _ => hL
  refine listcomp_listH F1 (heldOk_none _) (by with_unfolding_all rfl) (by decide) (by rfl) (by decide) (by rfl) ?_
  walk1
  have hlenI := hI.length
  refine ⟨_, _, _, rfl, F1, N1, .inl hL, by rw [List.size_toArray, sizeLine_eq]; omega, fun s₂ ⟨g9, e9⟩ => ?_⟩
  subst e9
  refine comp_rel (fun i y => ∃ x t, y = .str x t ∧ SignText x) ?_ ?_
  · intro i v I oI C oC D m₂ ys h tk E' hv hC hmx F2 N2 off ne
    obtain ⟨k9, t9, hk9, rfl⟩ := ints_at hI hv
    w_strict k_steps
    exact LCg.CompEnd.intro F2 N2 _ (fun p hp => hp) off (.inl hL) ⟨rfl, _, _, rfl, sign_item (Int.fmod_nonneg_of_pos _ (by decide)) (Int.fmod_lt_of_pos _ (by decide))⟩
  · intro ys hlen hrel
    obtain ⟨ps, rfl, hps⟩ := strs_of ys (fun _ x => SignText x) hrel
    have hpm : ∀ p ∈ ps, SignText p.1 := fun p hp => by
      obtain ⟨i, hi, rfl⟩ := List.getElem_of_mem hp
      exact hps i _ (List.getElem?_eq_getElem hi)
    have hpl : ps.length ≤ 63 := by
      have e : (strValues ps).length = ps.length := List.length_map ..
      omega
    intro D h tk F2 N2 o1
    (try dsimp only)
    (try clear F1)
    (try clear N1)
    w_strict k_steps
    unfold Stop
    rename ∀ c ∈ Array.toList _, c ∈ signs => hsx
    rename Str.length _ ≤ 63 => hlx
    have hokt := okt_text hlx hsx
    rename Fr _ _ _ _ => F3
    rename News _ _ _ _ => N3
    (try clear F2)
    (try clear N2)
    (try dsimp only)
    refine any_toks (s := s1) ?_
    intro tk3
    refine listcomp_listH F3 (heldOk_none _) (by with_unfolding_all rfl) (by decide) (by rfl) (by decide) (by rfl) ?_
    walk1
    refine ⟨_, _, _, rfl, F3, N3, .inl hL, by rw [List.size_toArray, sizeLine_eq]; omega, fun s₂ ⟨g9, e9⟩ => ?_⟩
    subst e9
    refine comp_rel (fun i y => ∃ x t, y = .int x t ∧ (0 ≤ x ∧ x < 256)) ?_ ?_
    · intro i v I oI C oC D m₂ ys h tk E' hv hC hmx F2 N2 off ne
      obtain ⟨k9, t9, hk9, rfl⟩ := ints_at hI hv
      w_strict k_steps
      exact LCg.CompEnd.intro F2 N2 _ (fun p hp => hp) off (.inl hL) ⟨rfl, _, _, rfl, Int.fmod_nonneg_of_pos _ (by decide), Int.fmod_lt_of_pos _ (by decide)⟩
    · intro ys hlen2 hrel2
      obtain ⟨os, hios, hlos, hos⟩ := ints_of ys (fun _ x => 0 ≤ x ∧ x < 256) hrel2
      have hor : ∀ n ∈ os, 0 ≤ n ∧ n < 256 := fun n hn => by
        obtain ⟨i, hi, rfl⟩ := List.getElem_of_mem hn
        exact hos i _ (List.getElem?_eq_getElem hi)
      have hyl : ys.length ≤ 63 := by omega
      intro D2 h tk F4 N4 o4
      (try dsimp only)
      (try clear F3)
      (try clear N3)
      w_strict k_steps
      unfold Stop
      rename Array.size _ ≤ 64 => hbs
      rename Fr _ _ _ _ => F5
      rename News _ _ _ _ => N5
      (try clear F4)
      (try clear N4)
      (try dsimp only)
      refine any_toks (s := s1) ?_
      intro tk5
      refine LCg.Assign_ListComp_U F5 (by rfl) (by with_unfolding_all rfl) (by with_unfolding_all rfl) (by decide) (by rfl) (by decide) (by rfl) (by rfl) (by rfl) ?_
      walk1
      refine LCg.CompSrc.base (by rfl) F5 N5 hL (by rw [List.size_toArray, sizeLine_eq]; omega) fun g9 => ?_
      refine comp_rel (fun i y => ∃ x t, y = .int x t ∧ (-(10 ^ 40) < x ∧ x < 10 ^ 40)) ?_ ?_
      · intro i v I oI C oC D m₂ ys h tk E' hv hC hmx F2 N2 off ne
        obtain ⟨k9, t9, hk9, rfl⟩ := ints_at hI hv
        w_strict k_steps
        all_goals refine LCg.CompEnd.intro F2 N2 _ (fun p hp => hp) off (.inl hL) ⟨rfl, _, _, rfl, ?_⟩
        all_goals exact num_bound _ _ (by simp)
      · intro ys hlen3 hrel3
        have hyl3 : ys.length ≤ 63 := by omega
        intro D3 h tk F6 N6 o6
        (try dsimp only)
        (try clear F5)
        (try clear N5)
        obtain ⟨tsN, hN1, hN2, hN3⟩ := leafs_of (news := []) (k := 0) (a := D3) ys hrel3
        w_strict k_steps
        unfold Stop
        refine wpAny_For ?_
        w_strict k_steps
        unfold Stop
        rename Fr _ _ _ _ => F7
        rename News _ _ _ _ => N7
        rename Top _ _ _ _ _ _ => TT
        rename Below _ _ _ _ => K0
        rename PySem.W.Frag.In _ _ => KX
        have K0' : Below callerA s1.heap [] s1.heap := K0
        have HT := things7 N7 hokt hbs ?hn7 ?ha7 ?hb7 ?hc7 hN1 hN2 hyl3 hN3
        case hn7 => omega
        case ha7 => omega
        case hb7 => omega
        case hc7 => omega
        have hLl := News.isList N7 (.head _)
        rename PySem.Heap => h7
        rename PySem.World => w
        obtain ⟨mean, mg, mb, TT'⟩ : ∃ mean mg mb, Top hd.view_39 (looseW hd.view_39 [Str.ofString "_IPAddressBase"]) mean mg mb s1.heap := ⟨_, _, _, TT⟩
        have KX' : (hd.heap_39 w.params).In s1.heap := KX
        obtain ⟨LED, vsL, m8, l8, F8, N8, HT8, hL8, hvL, hl8, hm8⟩ := pack7 F7 N7 HT hLl ⟨_, .head _⟩
        clear F7 N7 HT hLl
        subst hl8
        refine wpAny_pyIter_list hL8 ?_
        (try dsimp only)
        obtain ⟨N9, off9⟩ := iter_new (l := l8) F8 N8
        have F9 := F8.push { cls := .type "list_iterator", data := .fields #[.ref l8, .int 0 0] }
        refine for_ind ?hE (fun n s' => ∃ (i : Nat) (hb h : Heap) (tk : Nat) (m' : Str → Option Value) (oI : Obj), n + i = vsL.length ∧ s' = { s1 with heap := h, toks := tk } ∧ KtsTurn [] s1.heap hb ∧ Fr hb s1.heap.objs.size h m' ∧ News hb s1.heap.objs.size h ((h7.objs.size, oI) :: LED) ∧ oI.cls = .type "list_iterator" ∧ oI.data = .fields #[.ref l8, .int i 0] ∧
          Below callerA s1.heap [] hb ∧ (hd.heap_39 w.params).In hb ∧ Top hd.view_39 (looseW hd.view_39 [Str.ofString "_IPAddressBase"]) mean mg mb hb) ?turn vsL.length ?start
        case hE => first | passes_own | with_unfolding_all passes_own
        case start => exact ⟨0, s1.heap, _, _, _, _, rfl, rfl, KtsTurn.refl, F9, N9, rfl, rfl, K0', KX', TT'⟩
        case turn =>
          intro n s' hIs
          obtain ⟨i, hb, h, tk, m', oI, hni, rfl, hT, hF, hN, ho1, ho2, hB, hX, hTp⟩ := hIs
          obtain ⟨nL, hmL⟩ := hm8
          have hLi : h.IsList l8 vsL.toArray := News.isList hN (List.mem_cons_of_mem _ hmL)
          by_cases hi : i < vsL.length
          · refine wpAny_pyNext_list_item (iter_at hN ho1 ho2) hLi (x := vsL[i]) (by simp [hi]) fun h' hit' hs' => ?_
            obtain ⟨o', ho1', ho2', hF', hN'⟩ := iter_step hF hN off9 hit' hs'
            obtain ⟨t, hTv⟩ := HT8 i vsL[i] (List.getElem?_eq_getElem hi)
            generalize vsL[i] = v at hTv
            dsimp only [ForTurn]
            refine wpAny_assign_Name ?_
            clear hF hN F8 N8 F9 N9
            w_strict k_steps
            unfold Stop
            rename Fr hb _ _ _ => F6
            rename News hb _ _ _ => N6
            with_unfolding_all refine' refused_spec _ (outer := []) (g₀ := s1.heap) ?B1 ?F1 ?X1 ?N1 ?T1 ?hf1 ?hk1 ?XB1 ?TB1 ?D1 ?T01 ?hv1 ?dp1 ?un1 ?rT1
            (case B1 => exact hB); (case F1 => exact F6); (case X1 => exact hX); (case N1 => exact N6); (case T1 => exact hTp); (case hf1 => exact rfl); (case hk1 => exact rfl); (case XB1 => exact KX'); (case TB1 => exact TT'); (case D1 => intro b hb; cases hb); (case T01 => exact hT); (case hv1 => exact hTv.more fun p hp => List.mem_cons_of_mem _ hp); (case dp1 => ktr_room); (case un1 => ktr_units)
            intro hb1 h1 tk1 T1 F7 N7 B7 X7 P7 D7
            clear F6 N6
            (try dsimp only); (try k_lift B7); (try k_sweep)
            w_strict k_steps
            unfold Stop
            dsimp only [WPost]
            exact ⟨n - 1, by omega, i + 1, hb1, _, _, _, _, by omega, rfl, T1, F7, N7, ho1', ho2', B7, X7, P7⟩
          · have hie : i = vsL.length := by omega
            subst hie
            refine wpAny_pyNext_list_end rfl (iter_at hN ho1 ho2) hLi (by simp) fun h' he => ?_
            have hI9 := hN (_, oI) List.mem_cons_self
            have F5 : Fr hb s1.heap.objs.size h' m' := ⟨hF.ns.at' fun o e => he _ _ (fun z => hI9.2.1 z.symm) e, fun b o e => he _ _ (fun z => by rw [z, hI9.2.2] at e; cases e) (hF.keep b o e), hF.above⟩
            have N5 : News hb s1.heap.objs.size h' LED := fun p hp => ⟨he _ _ (off9 p hp) (hN p (List.mem_cons_of_mem _ hp)).1, (hN p (List.mem_cons_of_mem _ hp)).2⟩
            clear hF hN F8 N8 F9 N9
            dsimp only [ForTurn]
            w_strict k_steps
            dsimp only
            refine good_turn hT F5 (by assumption) (raisesW_false ?_) ?_
            · wrow_none_raised
            · wrow_post)
end Mine
end
set_option maxRecDepth 100000 in
set_option maxHeartbeats 8000000 in
theorem PySem.Challenge.cw_km0038_02_holds : PySem.Challenge.rw_km0038_02.Holds := by
  exact Mine.fin
