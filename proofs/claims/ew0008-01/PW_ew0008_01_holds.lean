import PyProof.Rows.All
import Wide.All
import OpenK.AllK
import KE.KStateW
import Wide.FinOn
import PySem.Challenge.RW_ew0008_01
set_option Elab.async false

section
open PySem PySem.W PyProof.Rows
set_option Elab.async false
set_option maxRecDepth 100000
set_option maxHeartbeats 8000000
namespace Mine
open_top hd for PySem.Challenge.rw_ew0008_01
end Mine

end

section
open PySem PySem.W PySem.Calls PyProof.Rows
set_option Elab.async false
set_option maxRecDepth 100000
set_option maxHeartbeats 8000000
namespace Mine

/-- the codes of the signs that the law's text is made of, in the law's order -/
def codes : List Nat := [97, 126, 32, 47, 233, 8364, 128512, 39, 34, 92, 10, 9, 1, 31, 8, 127, 1114111, 13, 12, 8232, 8233, 65535, 0, 55295, 57344]
abbrev one (c : Nat) : Str := ⟨#[c]⟩

def digits : Str := Str.ofString "0123456789abcdef"
def hexF (n : Int) : Str := Str.ofString "\\u" ++ Txt.item digits (n.fdiv 4096) ++ Txt.item digits ((n.fdiv 256).fmod 16) ++ Txt.item digits ((n.fdiv 16).fmod 16) ++ Txt.item digits (n.fmod 16)
def findF (c : Nat) : Int := Txt.find (Str.ofString "\"\\\u0008\u000c\n\r\t") (one c)
def shortF (c : Nat) : Str := if findF c < 0 then Str.ofString "" else Str.ofString "\\" ++ Txt.item (Str.ofString "\"\\bfnrt") (findF c)
def ascF (c : Nat) : Str :=
  if (shortF c).length ≠ 0 then shortF c
  else if 32 ≤ c ∧ c < 127 then one c
  else if c < 65536 then hexF c
  else hexF (55296 + ((c : Int) - 65536).fdiv 1024) ++ hexF (56320 + ((c : Int) - 65536).fmod 1024)
def plainF (c : Nat) : Str :=
  if (shortF c).length ≠ 0 then shortF c
  else if c < 32 ∨ c = 8232 ∨ c = 8233 ∨ c = 65535 then hexF c
  else one c
theorem find_lt : ∀ c ∈ codes, findF c < 7 ∧ -1 ≤ findF c := by decide +kernel
theorem codes_lt : ∀ c ∈ codes, c < 1114112 := by decide +kernel
theorem short_len : ∀ c ∈ codes, (shortF c).length ≤ 2 := by decide +kernel

def InOp (f : Str → Str → Bool) : Prop := ∀ x y, f x y = !(Builtin.Str.occurrences x y 0 x.length 1).isEmpty
theorem in_op : ∃ f, InOp f := ⟨_, fun _ _ => rfl⟩
theorem in_opq {prog : Program} {w : World} {A : Around} {E : Value → Shared → Prop} {s : Shared} {f : Str → Str → Bool} {x y : Str} {t u : Tok} {Q : Value → Shared → Prop} (hO : InOp f) (h : Q (.bool (f x y)) s) :
    wpAny (model prog w) A (compareOp .In (.str y u) (.str x t)) Q E s := in_str (by rw [hO] at h; exact h)
def odds : Str := Str.ofString "\u2028\u2029\uffff"
theorem odd_lt {f : Str → Str → Bool} (hO : InOp f) : ∀ c ∈ codes, f odds (one c) = true → (c : Int) < 65536 := by
  intro c hc
  rw [hO]
  revert c
  decide +kernel
theorem odd_is {f : Str → Str → Bool} (hO : InOp f) : ∀ c ∈ codes, f odds (one c) = decide (c = 8232 ∨ c = 8233 ∨ c = 65535) := by
  intro c hc
  rw [hO]
  revert c
  decide +kernel
section
variable {w : World} {p : Program} {loose : List Str} {mean : ExcName → Option Value} {mg mb : Str → Option Value} {news : List (Addr × Obj)}
  {dp un : Nat} {gd : Option (List Code)} {cn : Str} {cs : Scope} {a : Addr} {ccd : Value} {cl : List (Str × Addr)} {outer : List Env} {A₀ : Around} {base h₀ : Heap} {L : Addr} {m : Str → Option Value} {s : Shared} {Q E : Value → Shared → Prop}

theorem hex_u {n : Int} {t : Tok} (hB : Below A₀ base outer h₀) (hF : Fr h₀ L s.heap m) (hX : (hd.heap_39 w.params).In h₀) (hN : News h₀ L s.heap news) (hT : Top p loose mean mg mb h₀) (hk : cs.kind = .function)
    (hn0 : 0 ≤ n) (hn1 : n < 65536) (hdp : dp + 1 < recursionLimit) (hun : un + 8 < cLine) (hret : CbRet h₀ L m news s Q (fun t => .str (hexF n) t)) :
    wpAny (model PySem.Challenge.rw_ew0008_01.row.prog w) (ktrTop dp un gd cn cs L a ccd cl outer) (call (.ref 104) [.int n t]) Q E s := by
  dsimp only [CbRet] at hret
  revert hX; k_fill; intro hX
  refine wpAny_call ?_
  k_dflt cell_enter
  k_steps
  exact cb_retS hret rfl (by k_asm) (by k_asm)

theorem short_u {c : Nat} {t : Tok} (hB : Below A₀ base outer h₀) (hF : Fr h₀ L s.heap m) (hX : (hd.heap_39 w.params).In h₀) (hN : News h₀ L s.heap news) (hT : Top p loose mean mg mb h₀) (hk : cs.kind = .function)
    (hc : c ∈ codes) (hdp : dp + 1 < recursionLimit) (hun : un + 8 < cLine) (hret : CbRet h₀ L m news s Q (fun t => .str (shortF c) t)) :
    wpAny (model PySem.Challenge.rw_ew0008_01.row.prog w) (ktrTop dp un gd cn cs L a ccd cl outer) (call (.ref 111) [.str (one c) t]) Q E s := by
  dsimp only [CbRet] at hret
  revert hX; k_fill; intro hX
  have hf := find_lt c hc
  unfold findF at hf
  refine wpAny_call ?_
  k_dflt cell_enter
  k_steps
  · exact cb_retS hret (if_pos (by assumption)).symm (by k_asm) (by k_asm)
  · exact cb_retS hret (if_neg (by assumption)).symm (by k_asm) (by k_asm)
end

local macro_rules | `(tactic| walk_at "call ref") => `(tactic| (k_here; (with_reducible show wpAny _ _ (call (Value.ref 104) [Value.int _ _]) _ _ _); k_dflt (refine' hex_u ?k1 ?k2 ?k3 ?k4 ?k5 ?k6 ?k7 ?k8 ?k9 ?k10 ?_; (case k1 => k_asm); (case k2 => k_asm); (case k3 => k_asm); (case k4 => k_asm); (case k5 => k_asm); (case k6 => exact rfl); (case k7 => l_fact); (case k8 => first | omega | ((have hO := odd_lt (by with_reducible assumption) _ (by with_reducible assumption) (by assumption)); omega) | l_fact); (case k9 => ktr_room); (case k10 => ktr_units)); (try dsimp only [CbRet]); intro t9 h9 tk9 F9 N9; (try dsimp only); (try k_fold)))
local macro_rules | `(tactic| walk_at "call ref") => `(tactic| (k_here; (with_reducible show wpAny _ _ (call (Value.ref 111) [Value.str _ _]) _ _ _); k_dflt (refine' short_u ?k1 ?k2 ?k3 ?k4 ?k5 ?k6 ?k7 ?k9 ?k10 ?_; (case k1 => k_asm); (case k2 => k_asm); (case k3 => k_asm); (case k4 => k_asm); (case k5 => k_asm); (case k6 => exact rfl); (case k7 => assumption); (case k9 => ktr_room); (case k10 => ktr_units)); (try dsimp only [CbRet]); intro t9 h9 tk9 F9 N9; (try dsimp only); (try k_fold)))

section
variable {w : World} {p : Program} {loose : List Str} {mean : ExcName → Option Value} {mg mb : Str → Option Value} {news : List (Addr × Obj)}
  {dp un : Nat} {gd : Option (List Code)} {cn : Str} {cs : Scope} {a : Addr} {ccd : Value} {cl : List (Str × Addr)} {outer : List Env} {A₀ : Around} {base h₀ : Heap} {L : Addr} {m : Str → Option Value} {s : Shared} {Q E : Value → Shared → Prop}
theorem asc_u {c : Nat} {t : Tok} (hB : Below A₀ base outer h₀) (hF : Fr h₀ L s.heap m) (hX : (hd.heap_39 w.params).In h₀) (hN : News h₀ L s.heap news) (hT : Top p loose mean mg mb h₀) (hk : cs.kind = .function)
    (hc : c ∈ codes) (hdp : dp + 4 < recursionLimit) (hun : un + 40 < cLine) (hret : CbRet h₀ L m news s Q (fun t => .str (ascF c) t)) :
    wpAny (model PySem.Challenge.rw_ew0008_01.row.prog w) (ktrTop dp un gd cn cs L a ccd cl outer) (call (.ref 118) [.str (one c) t]) Q E s := by
  dsimp only [CbRet] at hret
  revert hX; k_fill; intro hX
  have hlt := codes_lt c hc
  have hsl := short_len c hc
  refine wpAny_call ?_
  k_dflt cell_enter
  k_steps
  all_goals exact cb_retS hret (by unfold ascF; (repeat' split) <;> first | omega | with_reducible rfl) (by k_asm) (by k_asm)
end
local macro_rules | `(tactic| walk_at "compareOp In str str") => `(tactic| (k_here; refine in_opq (by with_reducible assumption) ?_))
section
variable {w : World} {p : Program} {loose : List Str} {mean : ExcName → Option Value} {mg mb : Str → Option Value} {news : List (Addr × Obj)}
  {dp un : Nat} {gd : Option (List Code)} {cn : Str} {cs : Scope} {a : Addr} {ccd : Value} {cl : List (Str × Addr)} {outer : List Env} {A₀ : Around} {base h₀ : Heap} {L : Addr} {m : Str → Option Value} {s : Shared} {Q E : Value → Shared → Prop}
theorem plain_u {c : Nat} {t : Tok} (hB : Below A₀ base outer h₀) (hF : Fr h₀ L s.heap m) (hX : (hd.heap_39 w.params).In h₀) (hN : News h₀ L s.heap news) (hT : Top p loose mean mg mb h₀) (hk : cs.kind = .function)
    (hc : c ∈ codes) (hdp : dp + 4 < recursionLimit) (hun : un + 40 < cLine) (hret : CbRet h₀ L m news s Q (fun t => .str (plainF c) t)) :
    wpAny (model PySem.Challenge.rw_ew0008_01.row.prog w) (ktrTop dp un gd cn cs L a ccd cl outer) (call (.ref 125) [.str (one c) t]) Q E s := by
  dsimp only [CbRet] at hret
  revert hX; k_fill; intro hX
  have hlt := codes_lt c hc
  have hsl := short_len c hc
  obtain ⟨fO, hO⟩ := in_op
  refine wpAny_call ?_
  k_dflt cell_enter
  k_steps
  all_goals (try have hI := odd_is (f := fO) (by with_reducible assumption) _ hc)
  all_goals (try unfold odds at hI)
  all_goals exact cb_retS hret (by unfold plainF; (repeat' split) <;> first | omega | with_reducible rfl | (exfalso; simp_all; done) | (exfalso; simp_all; omega)) (by k_asm) (by k_asm)
end
end Mine

end

section
open PySem PySem.W PySem.Calls PyProof.Rows
set_option Elab.async false
set_option maxRecDepth 100000
set_option maxHeartbeats 8000000
namespace Mine
section
variable {prog : Program} {w : World} {A : Around} {E : Value → Shared → Prop} {s : Shared} {h₀ : Heap} {L : Addr} {m : Str → Option Value} {env : Env}

/-- what the source of a comprehension over a text hands on: each sign's turn gives the text `g c` and leaves the ledger as it was -/
def TextSrc (prog : Program) (w : World) (A : Around) (h₀ : Heap) (L : Addr) (m : Str → Option Value) (env : Env) (elt : Expr) (x : Str) (scope : Scope) (cl : List (Str × Addr)) (g : Nat → Str) (Q : Value → Shared → Prop) (xv : Value) (s₁ : Shared) : Prop :=
  ∃ T t news, xv = .str T t ∧ A.handled = none ∧ Fr h₀ L s₁.heap m ∧ News h₀ L s₁.heap news ∧ T.cps.size ≤ sizeLine ∧
    (∀ c u I oI C oC D m₂ ys h tk (E' : Value → Shared → Prop), c ∈ T.cps.toList → LCg.NsObj oC m₂ → m₂ x = some (.str ⟨#[c]⟩ u) → Fr h₀ L h m → News h₀ L h ((I, oI) :: (C, oC) :: (D, LCg.lst ys) :: news) → LCg.Off3 I C D news → ((@Ne Nat I C) ∧ (@Ne Nat I D) ∧ (@Ne Nat C D)) →
      wpAny (model prog w) A (eval elt (compEnvC scope cl C env)) (LCg.CompEnd h₀ L m { s₁ with heap := h, toks := tk } I oI C oC D (LCg.lst ys) (fun _ => True) (fun y news' => KCtEl news (g c) y news')) E' { s₁ with heap := h, toks := tk }) ∧
    (∀ D h tk ys, Fr h₀ L h m → News h₀ L h ((D, LCg.lst ys) :: news) → LCg.Off1 D news → StrsAre ys (T.cps.toList.map g) → Q (.ref D) { s₁ with heap := h, toks := tk })

theorem text_rest {elt : Expr} {x : Str} {scope : Scope} {cl : List (Str × Addr)} {T : Str} {news : List (Addr × Obj)} {Fin : List Value → List (Addr × Obj) → Prop} (g : Nat → Str)
    (turn : ∀ c u I oI C oC D m₂ ys h tk (E' : Value → Shared → Prop), c ∈ T.cps.toList → LCg.NsObj oC m₂ → m₂ x = some (.str ⟨#[c]⟩ u) → Fr h₀ L h m → News h₀ L h ((I, oI) :: (C, oC) :: (D, LCg.lst ys) :: news) → LCg.Off3 I C D news → ((@Ne Nat I C) ∧ (@Ne Nat I D) ∧ (@Ne Nat C D)) →
      wpAny (model prog w) A (eval elt (compEnvC scope cl C env)) (LCg.CompEnd h₀ L m { s with heap := h, toks := tk } I oI C oC D (LCg.lst ys) (fun _ => True) (fun y news' => KCtEl news (g c) y news')) E' { s with heap := h, toks := tk })
    (fin : ∀ ys, StrsAre ys (T.cps.toList.map g) → Fin ys news) : LCg.CompRest prog w A h₀ L m env elt x scope cl s (fun _ => True) (SignAt T) Fin T.cps.size 0 [] news := by
  have key : ∀ (j i : Nat) (ys : List Value), i + j = T.cps.size → StrsAre ys ((T.cps.toList.take i).map g) → LCg.CompRest prog w A h₀ L m env elt x scope cl s (fun _ => True) (SignAt T) Fin j i ys news := by
    intro j
    induction j with
    | zero =>
      intro i ys hi hy
      have e : i = T.cps.toList.length := by simpa using hi
      subst e
      rw [List.take_length] at hy
      exact LCg.CompRest.zero (fin ys hy)
    | succ j ih =>
      intro i ys hi hy
      refine LCg.CompRest.succ ?_
      intro v I oI C oC D m₂ h tk E' hv hC hx F N off ne
      obtain ⟨c, u, hc, rfl⟩ := hv
      have hc' : T.cps.toList[i]? = some c := by simpa using hc
      refine wpAny_mono (turn c u I oI C oC D m₂ ys h tk E' (List.mem_of_getElem? hc') hC hx F N off ne) (fun y s₂ hq => ?_) fun _ _ e => e
      obtain ⟨h', tk', nw, e, F', N', off', hS, hn, t', hy'⟩ := hq
      rw [hn] at N' off'
      refine ⟨h', tk', news, e, F', N', off', hS, ?_⟩
      rw [hy']
      refine ih (i + 1) _ (by omega) ?_
      rw [List.take_add_one, hc']
      simpa using kct_snoc hy
  exact key T.cps.size 0 [] (by omega) (by simp only [List.take_zero, List.map_nil]; exact .nil)

theorem text_small {T : Str} (h : T.length ≤ 24) : T.cps.size ≤ sizeLine := by
  rw [PySem.sizeLine_eq]; unfold Str.length at h; omega
/-- names the text that each sign of a comprehension gives -/
def GIs (_g : Nat → Str) : Prop := True
theorem striter_st {h h' : Heap} {I : Addr} {o : Obj} {ty : String} {T : Str} {t : Tok} {i : Nat} (st : h.IsStrIter I ty T t i) (e : h.get? I = some o) (e' : h'.get? I = some o) : h'.IsStrIter I ty T t i := by
  obtain ⟨o', q, r⟩ := st
  rw [e] at q; cases q
  exact ⟨o, e', r⟩

theorem ListComp_S {elt iter : Expr} {x : Str} {px : Pos} {scope : Scope} {cl : List (Str × Addr)} {pos : Pos} {Q : Value → Shared → Prop} {g : Nat → Str} (_ : GIs g) (_F₀ : Fr h₀ L s.heap m)
    (hclos : closureFor scope env = pure cl) (hcell : ∀ y ∈ scope.names, y.2 ≠ .cell) (hkind : scope.kind = .function)
    (hnames : ∀ y ∈ scope.names, y.2 = .local → scope.names.lookup y.1 = some .local) (hx : scope.names.lookup x = some .local)
    (h : wpAny (model prog w) A (eval iter env) (TextSrc prog w A h₀ L m env elt x scope cl g Q) E s)
    (hs : ∀ x, foldedSetIterable iter env x = pure x := by intro _; rfl) :
    wpAny (model prog w) A (eval (.ListComp elt [⟨.Name x px, iter, [], 0⟩] scope pos) env) Q E s := by
  rw [eval_ListComp]
  refine wpAny_comprehension_free (use := none) rfl hs hclos hkind hnames (wpAny_mono h (fun xv s₁ h₁ => ?_) fun _ _ e => e)
  obtain ⟨T, t, news, rfl, hh, F, N, hsz, turn, fin⟩ := h₁
  cases ha : T.cps.all (· < 128)
  · refine wpAny_pyIter_wide ha ?_
    refine LCg.block_U (S := fun _ => True) (P := SignAt T) (Fin := fun ys news' => ∀ D h tk, Fr h₀ L h m → News h₀ L h ((D, LCg.lst ys) :: news') → LCg.Off1 D news' → Q (.ref D) { s₁ with heap := h, toks := tk })
      (Walks.strWide hh s₁.heap.objs.size T t) hsz (fun i h st => let ⟨o, e, _⟩ := st; ⟨o, e⟩) (fun i h h' o' nw st e e' _ _ _ => striter_st st e e') hcell hkind hx ⟨_, Heap.get?_push_size _ rfl, rfl, rfl⟩ (fun b hb => ?_)
      (F.keeps fun _ _ e => Heap.get?_push_of_some _ e) (N.grown fun _ _ e => Heap.get?_push_of_some _ e) (Nat.ne_of_lt F.ns.lt) (next_is_new F) (fun p hp => Nat.ne_of_lt (Heap.lt_size (N p hp).1)) trivial
      (text_rest g turn fun ys hy D h tk F' N' o1 => fin D h tk ys F' N' o1 hy) ?_
    · rw [List.mem_singleton.mp hb]
      show s₁.heap.objs.size < (s₁.heap.push _).objs.size
      rw [Heap.size_push]; exact Nat.lt_succ_self _
    · intro D C h tk m' ys news' F' N' o1 hn hC₀ hD₀ hCL hDL hCD offC fin
      refine ⟨m', hn, fun h'' hs'' => fin D h'' tk (F'.change hs'' hCL hC₀) (fun p hp => ?_) o1⟩
      refine ⟨hs''.extBut _ _ ?_ (N' p hp).1, (N' p hp).2⟩
      rcases List.mem_cons.mp hp with rfl | hp
      · exact Ne.symm hCD
      · exact offC p hp
  · refine wpAny_pyIter_ascii ha ?_
    refine LCg.block_U (S := fun _ => True) (P := SignAt T) (Fin := fun ys news' => ∀ D h tk, Fr h₀ L h m → News h₀ L h ((D, LCg.lst ys) :: news') → LCg.Off1 D news' → Q (.ref D) { s₁ with heap := h, toks := tk })
      (Walks.strAscii hh s₁.heap.objs.size T t) hsz (fun i h st => let ⟨o, e, _⟩ := st; ⟨o, e⟩) (fun i h h' o' nw st e e' _ _ _ => striter_st st e e') hcell hkind hx ⟨_, Heap.get?_push_size _ rfl, rfl, rfl⟩ (fun b hb => ?_)
      (F.keeps fun _ _ e => Heap.get?_push_of_some _ e) (N.grown fun _ _ e => Heap.get?_push_of_some _ e) (Nat.ne_of_lt F.ns.lt) (next_is_new F) (fun p hp => Nat.ne_of_lt (Heap.lt_size (N p hp).1)) trivial
      (text_rest g turn fun ys hy D h tk F' N' o1 => fin D h tk ys F' N' o1 hy) ?_
    · rw [List.mem_singleton.mp hb]
      show s₁.heap.objs.size < (s₁.heap.push _).objs.size
      rw [Heap.size_push]; exact Nat.lt_succ_self _
    · intro D C h tk m' ys news' F' N' o1 hn hC₀ hD₀ hCL hDL hCD offC fin
      refine ⟨m', hn, fun h'' hs'' => fin D h'' tk (F'.change hs'' hCL hC₀) (fun p hp => ?_) o1⟩
      refine ⟨hs''.extBut _ _ ?_ (N' p hp).1, (N' p hp).2⟩
      rcases List.mem_cons.mp hp with rfl | hp
      · exact Ne.symm hCD
      · exact offC p hp
end
end Mine

end

section
open PySem PySem.W PySem.Calls PyProof.Rows
set_option Elab.async false
set_option maxRecDepth 100000
set_option maxHeartbeats 8000000
namespace Mine
def escTab : List (PyData × PyData) := [(.str ⟨#[92]⟩, .str ⟨#[92, 92]⟩), (.str ⟨#[34]⟩, .str ⟨#[92, 34]⟩), (.str ⟨#[8]⟩, .str ⟨#[92, 98]⟩), (.str ⟨#[12]⟩, .str ⟨#[92, 102]⟩), (.str ⟨#[10]⟩, .str ⟨#[92, 110]⟩), (.str ⟨#[13]⟩, .str ⟨#[92, 114]⟩), (.str ⟨#[9]⟩, .str ⟨#[92, 116]⟩), (.str ⟨#[0]⟩, .str ⟨#[92, 117, 48, 48, 48, 48]⟩), (.str ⟨#[1]⟩, .str ⟨#[92, 117, 48, 48, 48, 49]⟩), (.str ⟨#[2]⟩, .str ⟨#[92, 117, 48, 48, 48, 50]⟩), (.str ⟨#[3]⟩, .str ⟨#[92, 117, 48, 48, 48, 51]⟩), (.str ⟨#[4]⟩, .str ⟨#[92, 117, 48, 48, 48, 52]⟩), (.str ⟨#[5]⟩, .str ⟨#[92, 117, 48, 48, 48, 53]⟩), (.str ⟨#[6]⟩, .str ⟨#[92, 117, 48, 48, 48, 54]⟩), (.str ⟨#[7]⟩, .str ⟨#[92, 117, 48, 48, 48, 55]⟩), (.str ⟨#[11]⟩, .str ⟨#[92, 117, 48, 48, 48, 98]⟩), (.str ⟨#[14]⟩, .str ⟨#[92, 117, 48, 48, 48, 101]⟩), (.str ⟨#[15]⟩, .str ⟨#[92, 117, 48, 48, 48, 102]⟩), (.str ⟨#[16]⟩, .str ⟨#[92, 117, 48, 48, 49, 48]⟩), (.str ⟨#[17]⟩, .str ⟨#[92, 117, 48, 48, 49, 49]⟩), (.str ⟨#[18]⟩, .str ⟨#[92, 117, 48, 48, 49, 50]⟩), (.str ⟨#[19]⟩, .str ⟨#[92, 117, 48, 48, 49, 51]⟩), (.str ⟨#[20]⟩, .str ⟨#[92, 117, 48, 48, 49, 52]⟩), (.str ⟨#[21]⟩, .str ⟨#[92, 117, 48, 48, 49, 53]⟩), (.str ⟨#[22]⟩, .str ⟨#[92, 117, 48, 48, 49, 54]⟩), (.str ⟨#[23]⟩, .str ⟨#[92, 117, 48, 48, 49, 55]⟩), (.str ⟨#[24]⟩, .str ⟨#[92, 117, 48, 48, 49, 56]⟩), (.str ⟨#[25]⟩, .str ⟨#[92, 117, 48, 48, 49, 57]⟩), (.str ⟨#[26]⟩, .str ⟨#[92, 117, 48, 48, 49, 97]⟩), (.str ⟨#[27]⟩, .str ⟨#[92, 117, 48, 48, 49, 98]⟩), (.str ⟨#[28]⟩, .str ⟨#[92, 117, 48, 48, 49, 99]⟩), (.str ⟨#[29]⟩, .str ⟨#[92, 117, 48, 48, 49, 100]⟩), (.str ⟨#[30]⟩, .str ⟨#[92, 117, 48, 48, 49, 101]⟩), (.str ⟨#[31]⟩, .str ⟨#[92, 117, 48, 48, 49, 102]⟩), (.str ⟨#[8232]⟩, .str ⟨#[92, 117, 50, 48, 50, 56]⟩), (.str ⟨#[8233]⟩, .str ⟨#[92, 117, 50, 48, 50, 57]⟩), (.str ⟨#[65535]⟩, .str ⟨#[92, 117, 102, 102, 102, 102]⟩)]
def escGet (c : Nat) : PyData := (Spec.lookup (.str (one c)) escTab).getD (.str (one c))
def isStr (d : PyData) (x : Str) : Bool := match d with | .str y => y == x | _ => false
theorem isStr_eq {d : PyData} {x : Str} (h : isStr d x = true) : d = .str x := by
  unfold isStr at h
  split at h
  · rw [eq_of_beq h]
  · cases h
theorem escGet_is : ∀ c ∈ codes, isStr (escGet c) (plainF c) = true := by decide +kernel
theorem plain_len : ∀ c ∈ codes, (plainF c).length ≤ 12 := by decide +kernel
theorem asc_len : ∀ c ∈ codes, (ascF c).length ≤ 12 := by decide +kernel
theorem kct_get {c : Nat} {v : Value} {news : List (Addr × Obj)} (hc : c ∈ codes) (h : PyProof.V.Flat v ((Spec.lookup (.str ⟨#[c]⟩) escTab).getD (.str ⟨#[c]⟩))) : KCtEl news (plainF c) v news := by
  have h' : PyProof.V.Flat v (escGet c) := h
  rw [isStr_eq (escGet_is c hc)] at h'
  exact ⟨rfl, PyProof.V.Flat.str_inv h'⟩

/-- the text that the pieces `g c` make, one after another -/
def joinT (g : Nat → Str) (T : Str) : Str := Txt.join (Str.ofString "") (T.cps.toList.map g)
theorem glue_fold (e : Array Nat) (he : e.toList = []) : ∀ (l : List Str) (acc : Array Nat), (l.foldl (fun acc p => acc ++ e ++ p.cps) acc).toList = acc.toList ++ l.flatMap fun x => x.cps.toList
  | [], acc => by simp
  | x :: r, acc => by
    rw [List.foldl_cons, glue_fold e he r, Array.toList_append, Array.toList_append, he, List.append_nil, List.flatMap_cons, List.append_assoc]
theorem glued_cps (l : List Str) : (Txt.join (Str.ofString "") l).cps.toList = l.flatMap fun x => x.cps.toList := by
  show ((l.drop 1).foldl (fun acc p => acc ++ (Str.ofString "").cps ++ p.cps) (l.headD Str.empty).cps).toList = _
  rw [glue_fold _ (by decide +kernel)]
  cases l with
  | nil => rfl
  | cons x r => simp
theorem joinT_cps (g : Nat → Str) (T : Str) : (joinT g T).cps.toList = T.cps.toList.flatMap fun c => (g c).cps.toList := by
  unfold joinT
  rw [glued_cps, List.flatMap_map]
theorem flat_len (g : Nat → Str) : ∀ l : List Nat, (∀ c ∈ l, (g c).length ≤ 12) → (l.flatMap fun c => (g c).cps.toList).length ≤ l.length * 12
  | [], _ => Nat.le_refl _
  | c :: r, h => by
    have h1 := h c (.head _)
    have h2 := flat_len g r fun d hd => h d (.tail _ hd)
    rw [List.flatMap_cons, List.length_append, List.length_cons]
    have : ((g c).cps.toList).length = (g c).length := by rw [Array.length_toList]; rfl
    omega
theorem joinT_len {g : Nat → Str} {T : Str} (hn : T.length ≤ 24) (h : ∀ c ∈ T.cps.toList, (g c).length ≤ 12) : (joinT g T).length ≤ 288 := by
  have e := congrArg List.length (joinT_cps g T)
  have h2 := flat_len g _ h
  have h3 : T.cps.toList.length = T.length := by rw [Array.length_toList]; rfl
  have h4 : (joinT g T).cps.toList.length = (joinT g T).length := by rw [Array.length_toList]; rfl
  rw [h3] at h2
  rw [h4] at e
  omega
section
variable {prog : Program} {w : World} {A : Around} {E : Value → Shared → Prop} {s : Shared} {Q : Value → Shared → Prop} {g : Nat → Str} {T : Str} {t : Tok} {D : Addr} {ys : Array Value}
theorem join_text (hl : s.heap.IsList D ys) (hy : StrsAre ys.toList (T.cps.toList.map g)) (hn : T.length ≤ 24) (hB : ∀ c ∈ T.cps.toList, (g c).length ≤ 12)
    (h : ∀ t' k, (joinT g T).length ≤ 288 → Q (.str (joinT g T) t') { s with toks := k }) : wpAny (model prog w) A (call (.builtin "str.join") [.str (Str.ofString "") t, .ref D]) Q E s := by
  refine KT.join_B (ys := ys.toList) (l := T.cps.toList) (g := g) 12 (by simpa using hl) (by have := hy.carried; rw [List.map_map] at this; exact this) hB ?_ (by decide) fun t' k => h t' k (joinT_len hn hB)
  rw [Array.length_toList]; unfold Str.length at hn; omega
end
local macro_rules | `(tactic| walk_at "eval ListComp") => `(tactic| (k_here; (with_reducible rename GIs _ => hG9); k_dflt (refine ListComp_S hG9 (by k_asm) (by rfl) (by decide) (by rfl) (by decide) (by rfl) ?_)))
local macro_rules | `(tactic| walk_at "TextSrc") => `(tactic| (k_here; k_dflt (refine' ⟨_, _, _, rfl, rfl, ?F, ?N, ?z, ?turn, ?fin⟩; (case F => k_asm); (case N => k_asm); (case z => exact text_small (by assumption)); (case' turn => intro c' u' I' oI' C' oC' D' m' ys' h' tk' E' hc' hC' hx' F' N' off' ne'; (try (simp only [LCg.Off3, and_true] at off'))); (case' fin => intro D' h' tk' ys' F' N' o1' hy'; (try simp only [LCg.Off1, and_true] at o1')))))
local macro_rules | `(tactic| walk_at "KCtEl") => `(tactic| ((with_reducible rename PyProof.V.Flat _ _ => hFl9); exact kct_get (by first | assumption | exact (by assumption : ∀ c ∈ _, c ∈ codes) _ (by assumption)) hFl9))
local macro_rules | `(tactic| walk_at "call builtin:str.join") => `(tactic| (k_here; (with_reducible rename StrsAre _ _ => hSt9); k_dflt (refine join_text (by is_list) hSt9 (by assumption) ?hB ?_; (case hB => first | exact fun c hc => plain_len c ((by assumption : ∀ c ∈ _, c ∈ codes) c hc) | exact fun c hc => asc_len c ((by assumption : ∀ c ∈ _, c ∈ codes) c hc)); intro t' k' hL')))
section
variable {w : World} {p : Program} {loose : List Str} {mean : ExcName → Option Value} {mg mb : Str → Option Value} {news : List (Addr × Obj)}
  {dp un : Nat} {gd : Option (List Code)} {cn : Str} {cs : Scope} {a : Addr} {ccd : Value} {cl : List (Str × Addr)} {outer : List Env} {A₀ : Around} {base h₀ : Heap} {L : Addr} {m : Str → Option Value} {s : Shared} {Q E : Value → Shared → Prop}
def quoted (x : Str) : Str := Str.ofString "\"" ++ x ++ Str.ofString "\""
theorem enc_u {x : Str} {t : Tok} {d₁ : Addr} {o₁ : Obj} (hB : Below A₀ base outer h₀) (hF : Fr h₀ L s.heap m) (hX : (hd.heap_39 w.params).In h₀) (hN : News h₀ L s.heap [(d₁, o₁)]) (hT : Top p loose mean mg mb h₀) (hk : cs.kind = .function)
    (hlen : x.length ≤ 24) (hc : ∀ c ∈ x.cps.toList, c ∈ codes) (hdp : dp + 8 < recursionLimit) (hun : un + 100 < cLine) (hret : CbRet h₀ L m [(d₁, o₁)] s Q (fun t => .str (quoted (joinT plainF x)) t)) :
    wpAny (model PySem.Challenge.rw_ew0008_01.row.prog w) (ktrTop dp un gd cn cs L a ccd cl outer) (call (.ref 39) [.str x t]) Q E s := by
  dsimp only [CbRet] at hret
  revert hX; k_fill; intro hX
  have hG : GIs plainF := trivial
  refine wpAny_call ?_
  k_dflt cell_enter
  k_steps
  exact cb_retS hret rfl (by k_asm) (cb_drop (by assumption) (by kcj_all))
end
end Mine

end

section
open PySem PySem.W PySem.Calls PyProof.Rows
set_option Elab.async false
set_option maxRecDepth 100000
set_option maxHeartbeats 8000000
namespace Mine
/-! A call's frame laid aside: the caller's own object stands in the ledger, so an exception that is noted in the callee may turn its slots. -/

/-- the end of a call whose caller stands in the ledger -/
def Back (_ : Shared) (P : Prop) : Prop := P

section
variable {prog : Program} {w : World} {A : Around} {s : Shared} {h₀ : Heap} {L : Addr} {m : Str → Option Value} {env : Env} {new frs : List (Addr × Obj)} {l : List Env}
  {R : Result → Shared → Prop} {name qual : Str} {params : Arguments} {body : List Stmt} {scope : Scope} {dV kV doc pm cdv ct ctv : Value} {an : Option Addr} {fo : Obj} {f c' : Addr} {args : Args} {binds : List (Str × Value)}

theorem all_ne {L : Addr} : ∀ {l : List (Addr × Obj)}, (∀ p ∈ l, p.1 ≠ L) → TLg.AllNe L l
  | [], _ => trivial
  | _ :: _, h => ⟨h _ List.mem_cons_self, all_ne fun p hp => h p (List.mem_cons_of_mem _ hp)⟩

theorem caller_of (F : Fr h₀ L s.heap m) : ∃ oL, s.heap.get? L = some oL ∧ TI.Caller h₀ L m oL ∧ ∃ es ep, oL.data = .dict es ep := by
  obtain ⟨oL, es, ep, hL, hLd, hLk, hLf⟩ := F.ns
  exact ⟨oL, hL, ⟨fun h' sl e => ⟨_, es, ep, e, hLd, hLk, hLf⟩, ⟨es, ep, hLd⟩, F.above⟩, es, ep, hLd⟩

theorem enter_cells (F : Fr h₀ L s.heap m) (N : News h₀ L s.heap new) (hlim : h₀.NoLimit) (hf : env.frame = some L) (hke : env.scope.kind = .function)
    (ho : s.heap.get? f = some fo) (hd : fo.data = .func (fnX name qual params body scope [] dV kV doc pm an cdv ct)) (hcd : s.heap.CodeRec cdv qual) (hroom : A.depth < recursionLimit)
    (hbind : BindsTo s (fnX name qual params body scope [] dV kV doc pm an cdv ct) args binds)
    (hkind : ∀ n, ∀ x ∈ binds, scope.names.lookup x.1 = some .local ∨ (scope.names.lookup x.1 = some .cell ∧ ((cellsFrom n scope.names []).lookup x.1).isSome = true))
    (hnd : ((cellsFrom 0 scope.names []).map (·.1)).Nodup)
    (h : ∀ oL L' h₁ tk cells, TI.Caller h₀ L m oL → TI.Frs [env] [(L, oL)] → Fr h₀ L' h₁ (bindL (envOfC qual scope L' f cdv).kindOf binds fun _ => none) → News h₀ L' h₁ (cells ++ (new ++ [(L, oL)])) →
      CellsAre (bindC (envOfC qual scope L' f cdv).kindOf binds fun _ => none) (cellsFrom (L' + 1) scope.names []) cells → TLg.AllNe L cells → TLg.AllNe L new → AllLt L' (new ++ [(L, oL)]) →
      wpAny (model prog w) (A.deeper (envOfC qual scope L' f cdv)) (execs body (envOfC qual scope L' f cdv))
        (fun fl s' => Back s' (R (.ok (.ret (match fl with | .ret v => v | _ => .none))) s'))
        (fun e s' => wpAny (model prog w) (A.deeper (envOfC qual scope L' f cdv)) (leaving (envOfC qual scope L' f cdv) e) (fun _ s'' => R (.error e) s'') (fun e' s'' => R (.error e') s'') s')
        { s with heap := h₁, toks := tk })
    (hco : scope.isCoroutine = false := by rfl) (hgen : scope.isGenerator = false := by rfl) (hk : scope.kind = .function := by rfl) : codeAny (model prog w) A (.call (.ref f) args) R s := by
  obtain ⟨oL, hL, C, es, ep, hLd⟩ := caller_of F
  have hLt := Heap.lt_size hL
  refine codeAny_call_function hroom ho hd hco hgen rfl hcd (hbind _ _ _ _ ?_)
  refine wpAny_newFunctionEnv_cells hk (hkind _) fun env' he s' x => ?_
  subst he
  refine ⟨(hlim.keeps F.keep).keeps x.toInCall.keep, codeAny_func ?_⟩
  obtain ⟨h₁, tk, rfl, _⟩ := x.done
  have hk₁ := x.toInCall.keep
  obtain ⟨cells, NC, Y⟩ := Cl.news (h₀ := s.heap) (Nat.le_refl _) fun n c hm => ⟨x.cell n c (lookup_of_mem_nodup (cellsFrom_names scope.names 0 (s.heap.objs.size + 1) [] [] rfl ▸ hnd) hm), x.above n c hm⟩
  have hkind' : env.scope.kind ≠ .module := by rw [hke]; decide
  refine wpAny_mono (h oL s.heap.objs.size h₁ tk cells C ⟨hkind', hf, ⟨es, ep, hLd⟩, trivial⟩
    ⟨x.toInCall.ns, fun b o e => hk₁ b o (F.keep b o e), Nat.le_trans F.above (Nat.le_of_lt hLt)⟩ (fun p hp => ?_) Y (all_ne fun p hp => ?_) (all_ne fun p hp => (N p hp).2.1) (allLt_of fun p hp => ?_)) (fun fl s' hl => hl) fun _ _ y => y
  · rcases List.mem_append.mp hp with hp | hp
    · refine ⟨(NC p hp).1, (NC p hp).2.1, ?_⟩
      exact TI.none_of F.keep (NC p hp).2.2
    · rcases List.mem_append.mp hp with hp | hp
      · exact ⟨hk₁ _ _ (N p hp).1, Nat.ne_of_lt (Heap.lt_size (N p hp).1), (N p hp).2.2⟩
      · rw [List.mem_singleton.mp hp]
        exact ⟨hk₁ _ _ hL, Nat.ne_of_lt hLt, Heap.get?_none_of_le F.above⟩
  · intro e
    have h2 := (NC p hp).2.2
    rw [e, hL] at h2; cases h2
  · rcases List.mem_append.mp hp with hp | hp
    · exact Heap.lt_size (N p hp).1
    · rw [List.mem_singleton.mp hp]; exact hLt

theorem enter_cellsK {K : Frag} {oc : Value} {od : Option Addr} {osl : Array (Option Value)} (_hA : A.frames = some [env]) (F : Fr h₀ L s.heap m) (N : News h₀ L s.heap new) (X₀ : K.In h₀) (hlim : h₀.NoLimit) (hf : env.frame = some L) (hke : env.scope.kind = .function)
    (ho : K.lookup f = some ⟨oc, od, .func (fnOf name qual params body scope dV kV doc pm an cdv ct), osl⟩) (hcd : codeIn K cdv qual = true) (hroom : A.depth < recursionLimit)
    (hbind : BindsTo s (fnOf name qual params body scope dV kV doc pm an cdv ct) args binds) (hkind : (binds.all fun y => scope.names.lookup y.1 == some .local || scope.names.lookup y.1 == some .cell) = true)
    (hnd : ((cellsFrom 0 scope.names []).map (·.1)).Nodup)
    (h : ∀ oL L' h₁ tk cells, TI.Caller h₀ L m oL → TI.Frs [env] [(L, oL)] → Fr h₀ L' h₁ (bindL (envOfC qual scope L' f cdv).kindOf binds fun _ => none) → News h₀ L' h₁ (cells ++ (new ++ [(L, oL)])) →
      CellsAre (bindC (envOfC qual scope L' f cdv).kindOf binds fun _ => none) (cellsFrom (L' + 1) scope.names []) cells → TLg.AllNe L cells → TLg.AllNe L new → AllLt L' (new ++ [(L, oL)]) →
      wpAny (model prog w) (A.deeper (envOfC qual scope L' f cdv)) (execs body (envOfC qual scope L' f cdv))
        (fun fl s' => Back s' (R (.ok (.ret (match fl with | .ret v => v | _ => .none))) s'))
        (fun e s' => wpAny (model prog w) (A.deeper (envOfC qual scope L' f cdv)) (leaving (envOfC qual scope L' f cdv) e) (fun _ s'' => R (.error e) s'') (fun e' s'' => R (.error e') s'') s')
        { s with heap := h₁, toks := tk })
    (hco : scope.isCoroutine = false := by rfl) (hgen : scope.isGenerator = false := by rfl) (hk : scope.kind = .function := by rfl) : codeAny (model prog w) A (.call (.ref f) args) R s :=
  enter_cells F N hlim hf hke ((X₀.keeps F.keep) _ _ ho) rfl (codeRec_of (X₀.keeps F.keep) hcd) hroom hbind (kindsX hkind) hnd h hco hgen hk

theorem enter_nest (_hA : A.frames = some (env :: l)) (F : Fr h₀ L s.heap m) (N : News h₀ L s.heap (new ++ frs)) (Fs : TI.Frs l frs) (hlim : h₀.NoLimit) (hf : env.frame = some L) (hke : env.scope.kind = .function)
    (ho : (f, fnMade name qual params body scope [] doc pm c' ctv) ∈ new) (hcd : s.heap.CodeRec (.ref c') qual) (hroom : A.depth < recursionLimit)
    (hbind : BindsTo s (fnX name qual params body scope [] .none .none doc pm none (.ref c') ctv) args binds) (hloc : ∀ y ∈ binds, scope.names.lookup y.1 = some .local)
    (h : ∀ oL L' h₁, TI.Caller h₀ L m oL → TI.Frs (env :: l) ((L, oL) :: frs) → Fr h₀ L' h₁ (fun y => binds.reverse.lookup y) → News h₀ L' h₁ (new ++ (L, oL) :: frs) → TLg.AllNe L (new ++ frs) → AllLt L' (new ++ (L, oL) :: frs) →
      wpAny (model prog w) (A.deeper (envX qual scope L' f (.ref c') [])) (execs body (envX qual scope L' f (.ref c') []))
        (fun fl s' => Back s' (R (.ok (.ret (match fl with | .ret v => v | _ => .none))) s'))
        (fun e s' => wpAny (model prog w) (A.deeper (envX qual scope L' f (.ref c') [])) (leaving (envX qual scope L' f (.ref c') []) e) (fun _ s'' => R (.error e) s'') (fun e' s'' => R (.error e') s'') s')
        { s with heap := h₁, toks := s.toks + binds.length })
    (hcell : ∀ x ∈ scope.names, x.2 ≠ .cell) (hco : scope.isCoroutine = false := by rfl) (hgen : scope.isGenerator = false := by rfl) (hk : scope.kind = .function := by rfl) : codeAny (model prog w) A (.call (.ref f) args) R s := by
  obtain ⟨oL, hL, C, es, ep, hLd⟩ := caller_of F
  have hLt := Heap.lt_size hL
  have hkind' : env.scope.kind ≠ .module := by rw [hke]; decide
  refine codeAny_call_def (fd := fnX name qual params body scope [] .none .none doc pm none (.ref c') ctv) (body := body) (binds := binds) hroom (N _ (List.mem_append_left _ ho)).1 rfl (hlim.keeps F.keep) hcd rfl hbind hcell hloc (fun h₁ hns hk₁ => ?_) hco hgen hk
  refine wpAny_mono (h oL s.heap.objs.size h₁ C ⟨hkind', hf, ⟨es, ep, hLd⟩, Fs⟩ ⟨hns, fun b o e => hk₁ b o (F.keep b o e), Nat.le_trans F.above (Nat.le_of_lt hLt)⟩ (fun p hp => ?_) (all_ne fun p hp => (N p hp).2.1) (allLt_of fun p hp => ?_)) (fun _ _ x => x) fun _ _ x => x
  · rcases List.mem_append.mp hp with hq | hq
    · have z := N p (List.mem_append_left _ hq); exact ⟨hk₁ _ _ z.1, Nat.ne_of_lt (Heap.lt_size z.1), z.2.2⟩
    · rcases List.mem_cons.mp hq with rfl | hq
      · exact ⟨hk₁ _ _ hL, Nat.ne_of_lt hLt, Heap.get?_none_of_le F.above⟩
      · have z := N p (List.mem_append_right _ hq); exact ⟨hk₁ _ _ z.1, Nat.ne_of_lt (Heap.lt_size z.1), z.2.2⟩
  · rcases List.mem_append.mp hp with hq | hq
    · exact Heap.lt_size (N p (List.mem_append_left _ hq)).1
    · rcases List.mem_cons.mp hq with rfl | hq
      · exact hLt
      · exact Heap.lt_size (N p (List.mem_append_right _ hq)).1

theorem back_ {L' : Addr} {m' : Str → Option Value} {oL : Obj} {sl : Array (Option Value)} {P : Prop} {s' : Shared} (C : TI.Caller h₀ L m oL) (F' : Fr h₀ L' s'.heap m') (N' : News h₀ L' s'.heap (new ++ (L, { oL with slots := sl }) :: frs)) (hne : TLg.AllNe L (new ++ frs))
    (k : Fr h₀ L s'.heap m → News h₀ L s'.heap (new ++ frs) → P) : Back s' P := by
  have hL : s'.heap.get? L = some { oL with slots := sl } := (N' _ (List.mem_append_right _ List.mem_cons_self)).1
  refine k ⟨C.ns _ sl hL, F'.keep, C.above⟩ fun p hp => ?_
  have hm : p ∈ new ++ (L, { oL with slots := sl }) :: frs := by
    rcases List.mem_append.mp hp with hp | hp
    · exact List.mem_append_left _ hp
    · exact List.mem_append_right _ (List.mem_cons_of_mem _ hp)
  obtain ⟨x1, _, x3⟩ := N' p hm
  exact ⟨x1, hne.mem p hp, x3⟩
theorem back_1 {L' : Addr} {m' : Str → Option Value} {oL : Obj} {x : Addr × Obj} {sl : Array (Option Value)} {P : Prop} {s' : Shared} (C : TI.Caller h₀ L m oL) (F' : Fr h₀ L' s'.heap m') (N' : News h₀ L' s'.heap (x :: (new ++ (L, { oL with slots := sl }) :: frs))) (hne : TLg.AllNe L (new ++ frs))
    (k : Fr h₀ L s'.heap m → News h₀ L s'.heap (new ++ frs) → P) : Back s' P := back_ C F' (fun p hp => N' p (List.mem_cons_of_mem _ hp)) hne k
end

section
variable {prog : Program} {w : World} {A₀ A : Around} {E : Value → Shared → Prop} {s' : Shared} {h₀ h : Heap} {L L₁ L₂ a e : Addr} {m : Str → Option Value} {name : Str} {scope : Scope} {cd : Value} {env₁ env₂ : Env} {new : List (Addr × Obj)} {o₁ o₂ : Obj} {X : String}

theorem two_up {frs' : List (Addr × Obj)} (SU : TI.SameUp [(L₁, o₁), (L₂, o₂)] frs') : ∃ sl₁ sl₂, frs' = [(L₁, { o₁ with slots := sl₁ }), (L₂, { o₂ with slots := sl₂ })] := by
  cases frs' with
  | nil => exact False.elim SU
  | cons q qs =>
    cases qs with
    | nil => exact False.elim SU.2.2
    | cons r rs =>
      cases rs with
      | cons _ _ => exact False.elim SU.2.2.2.2
      | nil =>
        obtain ⟨h1, ⟨sl₁, h2⟩, h3, ⟨sl₂, h4⟩, _⟩ := SU
        refine ⟨sl₁, sl₂, ?_⟩
        rw [show q = (q.1, q.2) from rfl, show r = (r.1, r.2) from rfl, show q.1 = L₁ from h1, show q.2 = { o₁ with slots := sl₁ } from h2, show r.1 = L₂ from h3, show r.2 = { o₂ with slots := sl₂ } from h4]

/-- an exception noted in a call whose two callers stand in the ledger -/
theorem noted_two {Q : Unit → Shared → Prop} (hfr : A₀.frames = some [env₁, env₂]) (Fs : TI.Frs [env₁, env₂] [(L₁, o₁), (L₂, o₂)]) (hx : Heap.NewExc h s'.heap e X) (F : Fr h₀ L h m) (N : News h₀ L h (new ++ [(L₁, o₁), (L₂, o₂)]))
    (hne₁ : TLg.AllNe L₁ new) (hne₂ : TLg.AllNe L₂ new)
    (k : ∀ h' sl₁ sl₂, TI.Frs [env₁, env₂] [(L₁, { o₁ with slots := sl₁ }), (L₂, { o₂ with slots := sl₂ })] → TT.HeldN h₀ L h' m e X (new ++ [(L₁, { o₁ with slots := sl₁ }), (L₂, { o₂ with slots := sl₂ })]) → Q () { s' with heap := h' }) (hk : scope.kind = .function := by rfl) :
    wpAny (model prog w) (A₀.deeper (envOf name scope L a cd)) (noteFrame (.ref e) (envOf name scope L a cd)) Q E s' := by
  refine TLg.noted_newA (new := new) hfr Fs hx F N (fun p hp hm => ?_) (fun h' frs' SU Fs' H => ?_) hk
  · rcases List.mem_cons.mp hm with q | hm
    · exact (N p (List.mem_append_left _ hp)).2.1 q
    · rcases List.mem_cons.mp hm with q | hm
      · exact hne₁.mem p hp q
      · exact hne₂.mem p hp (List.mem_singleton.mp hm)
  · obtain ⟨sl₁, sl₂, rfl⟩ := two_up SU
    exact k h' sl₁ sl₂ Fs' H

theorem ld_builtX {M : Model} {K : Frag} {s : Shared} {p : Program} {loose : List Str} {mean : ExcName → Option Value} {mg mb : Str → Option Value} {x : Str} {pos : Pos} {v : Value} {env : Env} {Q : Value → Shared → Prop} (F : Fr h₀ L s.heap m) (X : K.In h₀) (T : Top p loose mean mg mb h₀) (e : nsIn K mainGlobals x = some none) (hv : bootBuiltins x = some v) (hn : x ≠ "__name__") (h : Q v s)
    (hg : env.globals = mainGlobals) (hb : env.builtins = builtinsNs) (hk : env.scope.kind = .function) (hx : env.kindOf x = some .globalImplicit) (hd : (x == ("__debug__" : Str)) = false) :
    wpAny M A (eval (.Name x pos) env) Q E s :=
  Name_function_global hk hx (loadGlobal_builtin (env := env) (show s.heap.Ns env.globals mg from hg ▸ (T.keeps F.keep).g) (mg_none_of X T.g e) (show s.heap.Ns env.builtins mb from hb ▸ (T.keeps F.keep).b) ((T.builtins x hn).trans hv) h) hd

/-- the clause `except KeyError:` takes a KeyError that is held -/
theorem clause_key {K : Frag} {p : Program} {loose : List Str} {mean : ExcName → Option Value} {mg mb : Str → Option Value} {env : Env} {np pos : Pos} {b₀ : Stmt} {suite : List Stmt} {rest : List ExceptHandler} {Q : Flow → Shared → Prop} {fl : Value} {news : List (Addr × Obj)}
    (H : TT.HeldNA h₀ L s'.heap m e "KeyError" news fl) (X₀ : K.In h₀) (T : Top p loose mean mg mb h₀) (hK : nsIn K mainGlobals "KeyError" = some none)
    (hg : env.globals = mainGlobals) (hb : env.builtins = builtinsNs) (hk : env.scope.kind = .function) (hx : env.kindOf "KeyError" = some .globalImplicit)
    (k : ∀ h', Fr h₀ L h' m → News h₀ L h' news → wpAny (model prog w) (A.mark (some (.ref e))) (execs (b₀ :: suite) env) Q (fun _ _ => False) { s' with heap := h' }) :
    wpAny (model prog w) A (handleBy (.ref e) env (.ExceptHandler (some (.Name "KeyError" np)) none (b₀ :: suite) pos :: rest)) Q E s' := by
  refine wpAny_handleBy_builtin (X := "KeyError") (T := "KeyError") (b := true) (isSubtype_of_subB (by decide +kernel)) (isSubtype_of_subB (by decide +kernel)) (isSubtype_of_subB (by decide +kernel))
    (ld_builtX H.held.fr X₀ T hK (by decide +kernel) (by decide) ⟨rfl, H.isA, ?_⟩ hg hb hk hx (by decide))
  rw [if_pos rfl]
  exact H.lands fun h' F' N' => wpAny_mono (k h' F' N') (fun _ _ x => x) fun _ _ x => x.elim
end
end Mine

end

section
open PySem PySem.W PySem.Calls PyProof.Rows
set_option Elab.async false
set_option maxRecDepth 100000
set_option maxHeartbeats 8000000
namespace Mine
abbrev Slots := Array (Option Value)
/-- a turn's end: the sign's text, and the ledger as it was but for a frame's slots -/
def KtxEl (NW : Slots → List (Addr × Obj)) (r : Str) (y : Value) (news' : List (Addr × Obj)) : Prop := (∃ sl, news' = NW sl) ∧ ∃ t : Tok, y = .str r t
section
variable {prog : Program} {w : World} {A : Around} {E : Value → Shared → Prop} {s : Shared} {h₀ : Heap} {L : Addr} {m : Str → Option Value} {env : Env}

def TextSrcX (prog : Program) (w : World) (A : Around) (h₀ : Heap) (L : Addr) (m : Str → Option Value) (env : Env) (elt : Expr) (x : Str) (scope : Scope) (cl : List (Str × Addr)) (g : Nat → Str) (Q : Value → Shared → Prop) (xv : Value) (s₁ : Shared) : Prop :=
  ∃ T t NW sl₀, xv = .str T t ∧ A.handled = none ∧ Fr h₀ L s₁.heap m ∧ News h₀ L s₁.heap (NW sl₀) ∧ T.cps.size ≤ sizeLine ∧
    (∀ c u sl I oI C oC D m₂ ys h tk (E' : Value → Shared → Prop), c ∈ T.cps.toList → LCg.NsObj oC m₂ → m₂ x = some (.str ⟨#[c]⟩ u) → Fr h₀ L h m → News h₀ L h ((I, oI) :: (C, oC) :: (D, LCg.lst ys) :: NW sl) → LCg.Off3 I C D (NW sl) → ((@Ne Nat I C) ∧ (@Ne Nat I D) ∧ (@Ne Nat C D)) →
      wpAny (model prog w) A (eval elt (compEnvC scope cl C env)) (LCg.CompEnd h₀ L m { s₁ with heap := h, toks := tk } I oI C oC D (LCg.lst ys) (fun _ => True) (fun y news' => KtxEl NW (g c) y news')) E' { s₁ with heap := h, toks := tk }) ∧
    (∀ D h tk ys sl, Fr h₀ L h m → News h₀ L h ((D, LCg.lst ys) :: NW sl) → LCg.Off1 D (NW sl) → StrsAre ys (T.cps.toList.map g) → Q (.ref D) { s₁ with heap := h, toks := tk })

theorem text_restX {elt : Expr} {x : Str} {scope : Scope} {cl : List (Str × Addr)} {T : Str} {NW : Slots → List (Addr × Obj)} {Fin : List Value → List (Addr × Obj) → Prop} (g : Nat → Str)
    (turn : ∀ c u sl I oI C oC D m₂ ys h tk (E' : Value → Shared → Prop), c ∈ T.cps.toList → LCg.NsObj oC m₂ → m₂ x = some (.str ⟨#[c]⟩ u) → Fr h₀ L h m → News h₀ L h ((I, oI) :: (C, oC) :: (D, LCg.lst ys) :: NW sl) → LCg.Off3 I C D (NW sl) → ((@Ne Nat I C) ∧ (@Ne Nat I D) ∧ (@Ne Nat C D)) →
      wpAny (model prog w) A (eval elt (compEnvC scope cl C env)) (LCg.CompEnd h₀ L m { s with heap := h, toks := tk } I oI C oC D (LCg.lst ys) (fun _ => True) (fun y news' => KtxEl NW (g c) y news')) E' { s with heap := h, toks := tk })
    (fin : ∀ ys sl, StrsAre ys (T.cps.toList.map g) → Fin ys (NW sl)) (sl₀ : Slots) : LCg.CompRest prog w A h₀ L m env elt x scope cl s (fun _ => True) (SignAt T) Fin T.cps.size 0 [] (NW sl₀) := by
  have key : ∀ (j i : Nat) (ys : List Value) (sl : Slots), i + j = T.cps.size → StrsAre ys ((T.cps.toList.take i).map g) → LCg.CompRest prog w A h₀ L m env elt x scope cl s (fun _ => True) (SignAt T) Fin j i ys (NW sl) := by
    intro j
    induction j with
    | zero =>
      intro i ys sl hi hy
      have e : i = T.cps.toList.length := by simpa using hi
      subst e
      rw [List.take_length] at hy
      exact LCg.CompRest.zero (fin ys sl hy)
    | succ j ih =>
      intro i ys sl hi hy
      refine LCg.CompRest.succ ?_
      intro v I oI C oC D m₂ h tk E' hv hC hx F N off ne
      obtain ⟨c, u, hc, rfl⟩ := hv
      have hc' : T.cps.toList[i]? = some c := by simpa using hc
      refine wpAny_mono (turn c u sl I oI C oC D m₂ ys h tk E' (List.mem_of_getElem? hc') hC hx F N off ne) (fun y s₂ hq => ?_) fun _ _ e => e
      obtain ⟨h', tk', nw, e, F', N', off', hS, ⟨sl', hn⟩, t', hy'⟩ := hq
      rw [hn] at N' off'
      refine ⟨h', tk', NW sl', e, F', N', off', hS, ?_⟩
      rw [hy']
      refine ih (i + 1) _ sl' (by omega) ?_
      rw [List.take_add_one, hc']
      simpa using kct_snoc hy
  exact key T.cps.size 0 [] sl₀ (by omega) (by simp only [List.take_zero, List.map_nil]; exact .nil)

theorem ListComp_X {elt iter : Expr} {x : Str} {px : Pos} {scope : Scope} {cl : List (Str × Addr)} {pos : Pos} {Q : Value → Shared → Prop} {g : Nat → Str} (_ : GIs g) (_F₀ : Fr h₀ L s.heap m)
    (hclos : closureFor scope env = pure cl) (hcell : ∀ y ∈ scope.names, y.2 ≠ .cell) (hkind : scope.kind = .function)
    (hnames : ∀ y ∈ scope.names, y.2 = .local → scope.names.lookup y.1 = some .local) (hx : scope.names.lookup x = some .local)
    (h : wpAny (model prog w) A (eval iter env) (TextSrcX prog w A h₀ L m env elt x scope cl g Q) E s)
    (hs : ∀ x, foldedSetIterable iter env x = pure x := by intro _; rfl) :
    wpAny (model prog w) A (eval (.ListComp elt [⟨.Name x px, iter, [], 0⟩] scope pos) env) Q E s := by
  rw [eval_ListComp]
  refine wpAny_comprehension_free (use := none) rfl hs hclos hkind hnames (wpAny_mono h (fun xv s₁ h₁ => ?_) fun _ _ e => e)
  obtain ⟨T, t, NW, sl₀, rfl, hh, F, N, hsz, turn, fin⟩ := h₁
  cases ha : T.cps.all (· < 128)
  · refine wpAny_pyIter_wide ha ?_
    refine LCg.block_U (S := fun _ => True) (P := SignAt T) (Fin := fun ys news' => ∀ D h tk, Fr h₀ L h m → News h₀ L h ((D, LCg.lst ys) :: news') → LCg.Off1 D news' → Q (.ref D) { s₁ with heap := h, toks := tk })
      (Walks.strWide hh s₁.heap.objs.size T t) hsz (fun i h st => let ⟨o, e, _⟩ := st; ⟨o, e⟩) (fun i h h' o' nw st e e' _ _ _ => striter_st st e e') hcell hkind hx ⟨_, Heap.get?_push_size _ rfl, rfl, rfl⟩ (fun b hb => ?_)
      (F.keeps fun _ _ e => Heap.get?_push_of_some _ e) (N.grown fun _ _ e => Heap.get?_push_of_some _ e) (Nat.ne_of_lt F.ns.lt) (next_is_new F) (fun p hp => Nat.ne_of_lt (Heap.lt_size (N p hp).1)) trivial
      ?rest ?_
    case rest =>
      refine text_restX g ?_ ?_ sl₀
      · exact turn
      · exact fun ys sl hy D h tk F' N' o1 => fin D h tk ys sl F' N' o1 hy
    · rw [List.mem_singleton.mp hb]
      show s₁.heap.objs.size < (s₁.heap.push _).objs.size
      rw [Heap.size_push]; exact Nat.lt_succ_self _
    · intro D C h tk m' ys news' F' N' o1 hn hC₀ hD₀ hCL hDL hCD offC fin
      refine ⟨m', hn, fun h'' hs'' => fin D h'' tk (F'.change hs'' hCL hC₀) (fun p hp => ?_) o1⟩
      refine ⟨hs''.extBut _ _ ?_ (N' p hp).1, (N' p hp).2⟩
      rcases List.mem_cons.mp hp with rfl | hp
      · exact Ne.symm hCD
      · exact offC p hp
  · refine wpAny_pyIter_ascii ha ?_
    refine LCg.block_U (S := fun _ => True) (P := SignAt T) (Fin := fun ys news' => ∀ D h tk, Fr h₀ L h m → News h₀ L h ((D, LCg.lst ys) :: news') → LCg.Off1 D news' → Q (.ref D) { s₁ with heap := h, toks := tk })
      (Walks.strAscii hh s₁.heap.objs.size T t) hsz (fun i h st => let ⟨o, e, _⟩ := st; ⟨o, e⟩) (fun i h h' o' nw st e e' _ _ _ => striter_st st e e') hcell hkind hx ⟨_, Heap.get?_push_size _ rfl, rfl, rfl⟩ (fun b hb => ?_)
      (F.keeps fun _ _ e => Heap.get?_push_of_some _ e) (N.grown fun _ _ e => Heap.get?_push_of_some _ e) (Nat.ne_of_lt F.ns.lt) (next_is_new F) (fun p hp => Nat.ne_of_lt (Heap.lt_size (N p hp).1)) trivial
      ?rest ?_
    case rest =>
      refine text_restX g ?_ ?_ sl₀
      · exact turn
      · exact fun ys sl hy D h tk F' N' o1 => fin D h tk ys sl F' N' o1 hy
    · rw [List.mem_singleton.mp hb]
      show s₁.heap.objs.size < (s₁.heap.push _).objs.size
      rw [Heap.size_push]; exact Nat.lt_succ_self _
    · intro D C h tk m' ys news' F' N' o1 hn hC₀ hD₀ hCL hDL hCD offC fin
      refine ⟨m', hn, fun h'' hs'' => fin D h'' tk (F'.change hs'' hCL hC₀) (fun p hp => ?_) o1⟩
      refine ⟨hs''.extBut _ _ ?_ (N' p hp).1, (N' p hp).2⟩
      rcases List.mem_cons.mp hp with rfl | hp
      · exact Ne.symm hCD
      · exact offC p hp
end
end Mine

end

section
open PySem PySem.W PySem.Calls PyProof.Rows
set_option Elab.async false
set_option maxRecDepth 100000
set_option maxHeartbeats 8000000
namespace Mine
/-! A small runner for trees that read one object and make no other: its answer, the tokens it took, the addresses it read. -/
def ev {α : Type} (o : Obj) : Nat → Sem α → Nat → List Addr → Option (α × Nat × List Addr)
  | 0, _, _, _ => none
  | _ + 1, .pure a, tk, l => some (a, tk, l)
  | n + 1, .rule _ k, tk, l => ev o n (k ()) tk l
  | n + 1, .at _ k, tk, l => ev o n (k ()) tk l
  | n + 1, .point _ k, tk, l => ev o n (k ()) tk l
  | n + 1, .fresh k, tk, l => ev o n (k tk) (tk + 1) l
  | n + 1, .load a _ k, tk, l => ev o n (k o) tk (a :: l)
  | _ + 1, _, _, _ => none
theorem ev_mono {α : Type} {o : Obj} : ∀ (n : Nat) (t : Sem α) (tk : Nat) (l : List Addr) {r : α × Nat × List Addr}, ev o n t tk l = some r → ∀ x ∈ l, x ∈ r.2.2 := by
  intro n
  induction n with
  | zero => intro t tk l r h; cases t <;> cases h
  | succ n ih =>
    intro t tk l r h x hx
    cases t with
    | pure a => cases h; exact hx
    | rule _ k => exact ih _ _ _ h x hx
    | «at» _ k => exact ih _ _ _ h x hx
    | point _ k => exact ih _ _ _ h x hx
    | fresh k => exact ih _ _ _ h x hx
    | load a q k => exact ih _ _ _ h x (List.mem_cons_of_mem _ hx)
    | _ => cases h
theorem ev_sound {α : Type} {M : Model} {A : Around} {E : Value → Shared → Prop} {Q : α → Shared → Prop} {o : Obj} : ∀ (n : Nat) (t : Sem α) (l : List Addr) (s : Shared) {r : α × Nat × List Addr}, ev o n t s.toks l = some r → (∀ x ∈ r.2.2, s.heap.get? x = some o) → Q r.1 { s with toks := r.2.1 } → wpAny M A t Q E s := by
  intro n
  induction n with
  | zero => intro t l s r h; cases t <;> cases h
  | succ n ih =>
    intro t l s r h hl hQ
    cases t with
    | pure a => cases h; exact wpAny_pure hQ
    | rule _ k => exact fun Γ p hΓ => ih (k ()) l s h hl hQ Γ p hΓ
    | «at» q k => exact fun Γ p hΓ => ih (k ()) l s h hl hQ Γ q hΓ
    | point _ k => exact fun Γ p hΓ => ih (k ()) l s h hl hQ Γ p hΓ
    | fresh k => exact fun Γ p hΓ => ih (k s.toks) l { s with toks := s.toks + 1 } h hl hQ Γ p hΓ
    | load a q k => exact wpAny_bind (m := loadPart a q) (f := k) (wpAny_loadPart (hl a (ev_mono n _ _ _ h a (List.mem_cons_self))) (ih (k o) (a :: l) s h hl hQ))
    | _ => cases h

end Mine

end

section
open PySem PySem.W PySem.Calls PyProof.Rows
set_option Elab.async false
set_option maxRecDepth 100000
set_option maxHeartbeats 8000000
namespace Mine
/-! The two written tables, read by a sign. -/
def escD : List (Str × PyData) := [(⟨#[92]⟩, .str ⟨#[92, 92]⟩), (⟨#[34]⟩, .str ⟨#[92, 34]⟩), (⟨#[8]⟩, .str ⟨#[92, 98]⟩), (⟨#[12]⟩, .str ⟨#[92, 102]⟩), (⟨#[10]⟩, .str ⟨#[92, 110]⟩), (⟨#[13]⟩, .str ⟨#[92, 114]⟩), (⟨#[9]⟩, .str ⟨#[92, 116]⟩), (⟨#[0]⟩, .str ⟨#[92, 117, 48, 48, 48, 48]⟩), (⟨#[1]⟩, .str ⟨#[92, 117, 48, 48, 48, 49]⟩), (⟨#[2]⟩, .str ⟨#[92, 117, 48, 48, 48, 50]⟩), (⟨#[3]⟩, .str ⟨#[92, 117, 48, 48, 48, 51]⟩), (⟨#[4]⟩, .str ⟨#[92, 117, 48, 48, 48, 52]⟩), (⟨#[5]⟩, .str ⟨#[92, 117, 48, 48, 48, 53]⟩), (⟨#[6]⟩, .str ⟨#[92, 117, 48, 48, 48, 54]⟩), (⟨#[7]⟩, .str ⟨#[92, 117, 48, 48, 48, 55]⟩), (⟨#[11]⟩, .str ⟨#[92, 117, 48, 48, 48, 98]⟩), (⟨#[14]⟩, .str ⟨#[92, 117, 48, 48, 48, 101]⟩), (⟨#[15]⟩, .str ⟨#[92, 117, 48, 48, 48, 102]⟩), (⟨#[16]⟩, .str ⟨#[92, 117, 48, 48, 49, 48]⟩), (⟨#[17]⟩, .str ⟨#[92, 117, 48, 48, 49, 49]⟩), (⟨#[18]⟩, .str ⟨#[92, 117, 48, 48, 49, 50]⟩), (⟨#[19]⟩, .str ⟨#[92, 117, 48, 48, 49, 51]⟩), (⟨#[20]⟩, .str ⟨#[92, 117, 48, 48, 49, 52]⟩), (⟨#[21]⟩, .str ⟨#[92, 117, 48, 48, 49, 53]⟩), (⟨#[22]⟩, .str ⟨#[92, 117, 48, 48, 49, 54]⟩), (⟨#[23]⟩, .str ⟨#[92, 117, 48, 48, 49, 55]⟩), (⟨#[24]⟩, .str ⟨#[92, 117, 48, 48, 49, 56]⟩), (⟨#[25]⟩, .str ⟨#[92, 117, 48, 48, 49, 57]⟩), (⟨#[26]⟩, .str ⟨#[92, 117, 48, 48, 49, 97]⟩), (⟨#[27]⟩, .str ⟨#[92, 117, 48, 48, 49, 98]⟩), (⟨#[28]⟩, .str ⟨#[92, 117, 48, 48, 49, 99]⟩), (⟨#[29]⟩, .str ⟨#[92, 117, 48, 48, 49, 100]⟩), (⟨#[30]⟩, .str ⟨#[92, 117, 48, 48, 49, 101]⟩), (⟨#[31]⟩, .str ⟨#[92, 117, 48, 48, 49, 102]⟩), (⟨#[8232]⟩, .str ⟨#[92, 117, 50, 48, 50, 56]⟩), (⟨#[8233]⟩, .str ⟨#[92, 117, 50, 48, 50, 57]⟩), (⟨#[65535]⟩, .str ⟨#[92, 117, 102, 102, 102, 102]⟩)]
def backD : List (Str × PyData) := [(⟨#[34]⟩, .str ⟨#[34]⟩), (⟨#[39]⟩, .str ⟨#[39]⟩), (⟨#[92]⟩, .str ⟨#[92]⟩), (⟨#[47]⟩, .str ⟨#[47]⟩), (⟨#[98]⟩, .str ⟨#[8]⟩), (⟨#[102]⟩, .str ⟨#[12]⟩), (⟨#[110]⟩, .str ⟨#[10]⟩), (⟨#[114]⟩, .str ⟨#[13]⟩), (⟨#[116]⟩, .str ⟨#[9]⟩)]

section
variable {prog : Program} {w : World} {A : Around} {E : Value → Shared → Prop} {s : Shared} {h₀ : Heap} {L : Addr} {m : Str → Option Value}
theorem esc_tab {h : Heap} (X : (hd.heap_39 w.params).In h) : StrTab prog w h 32 (escD.map fun p => (PyData.str p.1, p.2)) :=
  kt_tab_in prog w X (by kernel_rfl) (by decide +kernel) (by kernel_rfl)
theorem back_tab {h : Heap} (X : (hd.heap_39 w.params).In h) : StrTab prog w h 88 (backD.map fun p => (PyData.str p.1, p.2)) :=
  kt_tab_in prog w X (by kernel_rfl) (by decide +kernel) (by kernel_rfl)
def escMiss (c : Nat) : Bool := (Spec.lookup (.str (one c)) (escD.map fun p => (PyData.str p.1, p.2))).isNone
def escHit (c : Nat) : Bool := match Spec.lookup (.str (one c)) (escD.map fun p => (PyData.str p.1, p.2)) with | some d => isStr d (ascF c) | none => true
theorem esc_hit : ∀ c ∈ codes, escHit c = true := by decide +kernel
theorem esc_miss_hex : ∀ c ∈ codes, escMiss c = true → ascF c ≠ one c → c < 65536 → ascF c = hexF c := by decide +kernel
theorem esc_miss_two : ∀ c ∈ codes, escMiss c = true → ascF c ≠ one c → ¬ c < 65536 → ascF c = hexF (55296 + ((c : Int) - 65536).fdiv 1024) ++ hexF (56320 + ((c : Int) - 65536).fmod 1024) := by decide +kernel

theorem sub_esc {c : Nat} {t : Tok} {value slice : Expr} {Q : Value → Shared → Prop} (F : Fr h₀ L s.heap m) (X : (hd.heap_39 w.params).In h₀) (hc : c ∈ codes) (hA : A.handled = none)
    (hyes : ∀ t', Q (.str (ascF c) t') { s with toks := s.toks + 1 })
    (hno : escMiss c = true → ∀ h' e, Heap.NewExc s.heap h' e "KeyError" → E (.ref e) { s with heap := h', toks := s.toks + 1 })
    (hs : subscripted slice false (.ref 32) (.str (one c) t) = operate [.ref 32, .str (one c) t] (getItem (.ref 32) (.str (one c) t)) := by with_unfolding_all rfl) :
    wpAny (model prog w) A (subscriptTail value slice (.ref 32) (.str (one c) t)) Q E s := by
  have T := esc_tab (prog := prog) (w := w) (X.keeps F.keep)
  have hty : s.TypeIs (.ref 32) "dict" := by
    obtain ⟨_, kvs, hd, _⟩ := T
    exact hd.mapOf.typeIs
  refine tail_any hty slot_dict_getitem.lookup ?_ hs
  cases hl : Spec.lookup (.str (one c)) (escD.map fun p => (PyData.str p.1, p.2)) with
  | none => exact getItem_tab_missing PyProof.V.same_str (strKind_is prog w (one c) t) T hA hl (hno (by unfold escMiss; rw [hl]; rfl))
  | some d =>
    refine getItem_tab PyProof.V.same_str (strKind_is prog w (one c) t) T hl fun v hv => ?_
    have h1 := esc_hit c hc
    unfold escHit at h1
    rw [hl] at h1
    rw [isStr_eq h1] at hv
    obtain ⟨t', rfl⟩ := PyProof.V.Flat.str_inv hv
    exact hyes t'
end
local macro_rules | `(tactic| k_room) => `(tactic| ktr_room)
local macro_rules | `(tactic| k_units) => `(tactic| ktr_units)
local macro_rules | `(tactic| walk_at "eval ListComp") => `(tactic| (k_here; (with_reducible rename GIs _ => hG9); k_dflt (refine ListComp_X hG9 (by k_asm) (by rfl) (by decide) (by rfl) (by decide) (by rfl) ?_)))
local macro_rules | `(tactic| walk_at "TextSrcX") => `(tactic| (k_here; k_dflt (refine' ⟨_, _, fun sl => [_, _, _, _, (_, { cls := _, dict := _, data := _, slots := sl })], _, rfl, rfl, ?F, ?N, ?z, ?turn, ?fin⟩; (case F => k_asm); (case N => k_asm); (case z => exact text_small (by assumption)); (case' turn => intro c' u' sl' I' oI' C' oC' D' m' ys' h' tk' E' hc' hC' hx' F' N' off' ne'; (try (simp only [LCg.Off3, and_true] at off'))); (case' fin => intro D' h' tk' ys' sl' F' N' o1' hy'; (try simp only [LCg.Off1, and_true] at o1')))))
local macro_rules | `(tactic| walk_at "call builtin:str.join") => `(tactic| (k_here; (with_reducible rename StrsAre _ _ => hSt9); k_dflt (refine join_text (by is_list) hSt9 (by assumption) ?hB ?_; (case hB => first | exact fun c hc => plain_len c ((by assumption : ∀ c ∈ _, c ∈ codes) c hc) | exact fun c hc => asc_len c ((by assumption : ∀ c ∈ _, c ∈ codes) c hc)); intro t' k' hL')))

/-! The two formats of the handler, at the signs that come to it. -/
open Builtin Builtin.Str in
theorem fmt1 (t b u : Nat) (d : Option Addr) (n : Nat) (sl : Array (Option Value)) (tk : Nat) : ∀ c ∈ [233, 8364, 127, 55295, 57344],
    ev ⟨.type "tuple", d, .seq #[.int ((c : Nat) : Int) u] n, sl⟩ 1000 (percentFormat (.str (Str.ofString "\\u%04x") t) (Str.ofString "\\u%04x") (.ref b)) tk [] = some (.done (.ret (.str (ascF c) tk)), tk + 1, [b, b, b, b]) := by
  intro c hc
  simp only [List.mem_cons, List.not_mem_nil, or_false] at hc
  rcases hc with rfl | rfl | rfl | rfl | rfl <;> kernel_rfl
def s1F (c : Nat) : Int := Builtin.bitOr 55296 (Builtin.bitAnd (((c : Int) - 65536).fdiv (2 ^ Int.toNat 10)) 1023)
def s2F (c : Nat) : Int := Builtin.bitOr 56320 (Builtin.bitAnd ((c : Int) - 65536) 1023)
open Builtin Builtin.Str in
theorem fmt2 (t b u v : Nat) (d : Option Addr) (n : Nat) (sl : Array (Option Value)) (tk : Nat) : ∀ c ∈ [128512, 1114111],
    ev ⟨.type "tuple", d, .seq #[.int (s1F c) u, .int (s2F c) v] n, sl⟩ 1000 (percentFormat (.str (Str.ofString "\\u%04x\\u%04x") t) (Str.ofString "\\u%04x\\u%04x") (.ref b)) tk [] = some (.done (.ret (.str (ascF c) tk)), tk + 1, [b, b, b, b]) := by
  intro c hc
  simp only [List.mem_cons, List.not_mem_nil, or_false] at hc
  rcases hc with rfl | rfl <;> kernel_rfl
theorem miss_low : ∀ c ∈ codes, escMiss c = true → ascF c ≠ one c → (c : Int) < 65536 → c ∈ [233, 8364, 127, 55295, 57344] := by decide +kernel
theorem miss_high : ∀ c ∈ codes, escMiss c = true → ascF c ≠ one c → ¬ (c : Int) < 65536 → c ∈ [128512, 1114111] := by decide +kernel
section
variable {prog : Program} {w : World} {A : Around} {E : Value → Shared → Prop} {s : Shared} {h₀ : Heap} {L b : Addr} {news : List (Addr × Obj)} {c n : Nat} {t u v : Tok} {Q : Value → Shared → Prop}
open Builtin Builtin.Str in
theorem mod_esc1 (N : News h₀ L s.heap news) (hb : (b, ({ cls := .type "tuple", data := .seq #[.int (c : Int) u] n } : Obj)) ∈ news) (hc : c ∈ codes) (hm : escMiss c = true) (hne : ascF c ≠ one c) (hlt : (c : Int) < 65536)
    (h : ∀ t' k, Q (.str (ascF c) t') { s with toks := k }) : wpAny (model prog w) A (binaryOp .Mod (.str (Str.ofString "\\u%04x") t) (.ref b)) Q E s :=
  KPt.mod_tuple N hb rfl (KPt.meets_tup fun prog w A s Q E ht hq => by
    obtain ⟨o, ho, hcls, k, hd⟩ := ht
    obtain ⟨c', d, dt, sl⟩ := o
    obtain rfl : c' = _ := hcls
    obtain rfl : dt = _ := hd
    rw [KPt.entry_is_r]
    refine ev_sound 1000 _ [] s (fmt1 t b u d k sl s.toks c (miss_low c hc hm hne hlt)) (fun x hx => ?_) (hq _ _)
    simp only [List.mem_cons, List.not_mem_nil, or_false, or_self] at hx
    rw [hx]; exact ho) h
open Builtin Builtin.Str in
theorem mod_esc2 (N : News h₀ L s.heap news) (hb : (b, ({ cls := .type "tuple", data := .seq #[.int (s1F c) u, .int (s2F c) v] n } : Obj)) ∈ news) (hc : c ∈ codes) (hm : escMiss c = true) (hne : ascF c ≠ one c) (hlt : ¬ (c : Int) < 65536)
    (h : ∀ t' k, Q (.str (ascF c) t') { s with toks := k }) : wpAny (model prog w) A (binaryOp .Mod (.str (Str.ofString "\\u%04x\\u%04x") t) (.ref b)) Q E s :=
  KPt.mod_tuple N hb rfl (KPt.meets_tup fun prog w A s Q E ht hq => by
    obtain ⟨o, ho, hcls, k, hd⟩ := ht
    obtain ⟨c', d, dt, sl⟩ := o
    obtain rfl : c' = _ := hcls
    obtain rfl : dt = _ := hd
    rw [KPt.entry_is_r]
    refine ev_sound 1000 _ [] s (fmt2 t b u v d k sl s.toks c (miss_high c hc hm hne hlt)) (fun x hx => ?_) (hq _ _)
    simp only [List.mem_cons, List.not_mem_nil, or_false, or_self] at hx
    rw [hx]; exact ho) h
end
theorem rep_a : ∀ c ∈ codes, (one c).cps.toList < (Str.ofString " ").cps.toList → ascF c ≠ one c := by decide +kernel
theorem rep_b : ∀ c ∈ codes, (Str.ofString "~").cps.toList < (one c).cps.toList → ascF c ≠ one c := by decide +kernel
theorem rep_c : ∀ c ∈ codes, (Builtin.Str.occurrences (Str.ofString "\\\"") (one c) 0 (Str.ofString "\\\"").length 1).isEmpty = false → ascF c ≠ one c := by decide +kernel
theorem rep_d : ∀ c ∈ codes, ¬ (one c).cps.toList < (Str.ofString " ").cps.toList → ¬ (Str.ofString "~").cps.toList < (one c).cps.toList → (Builtin.Str.occurrences (Str.ofString "\\\"") (one c) 0 (Str.ofString "\\\"").length 1).isEmpty = true → ascF c = one c := by decide +kernel
theorem ktx_one {NW : Slots → List (Addr × Obj)} {sl : Slots} {c : Nat} {t : Tok} {news' : List (Addr × Obj)} (e : ascF c = one c) (hn : news' = NW sl) : KtxEl NW (ascF c) (.str ⟨#[c]⟩ t) news' := ⟨⟨sl, hn⟩, t, by rw [e]⟩
theorem ktx_is {NW : Slots → List (Addr × Obj)} {sl : Slots} {r : Str} {t : Tok} {news' : List (Addr × Obj)} (hn : news' = NW sl) : KtxEl NW r (.str r t) news' := ⟨⟨sl, hn⟩, t, rfl⟩
local macro_rules | `(tactic| walk_at "KtxEl") => `(tactic| (exact ktx_is rfl))
local macro_rules | `(tactic| walk_at "KtxEl") => `(tactic| (exact ktx_one (rep_d _ ((by assumption : ∀ c ∈ _, c ∈ codes) _ (by assumption)) (by assumption) (by assumption) (by assumption)) rfl))
local macro_rules | `(tactic| walk_at "Back") => `(tactic| (k_here; k_dflt (first
  | (refine' back_ (new := [_, _, _, _, _]) (frs := []) ?C ?F ?N ?ne ?_; (case C => assumption); (case F => k_asm); (case N => k_asm); (case ne => tlg_ne))
  | (refine' back_ (new := [_, _, _, _, _, _, _]) (frs := [_]) ?C ?F ?N ?ne ?_; (case C => assumption); (case F => k_asm); (case N => k_asm); (case ne => tlg_ne))
  | (refine' back_1 (new := [_, _, _, _, _, _, _]) (frs := [_]) ?C ?F ?N ?ne ?_; (case C => assumption); (case F => k_asm); (case N => k_asm); (case ne => tlg_ne))); intro F9 N9; (try simp only [List.cons_append, List.nil_append] at N9)))
local macro_rules | `(tactic| walk_at "call ref") => `(tactic| (k_here; kn_here; k_dflt (refine wpAny_call ?_; refine' enter_nest (new := [_, _, _, _, _, _, _]) (frs := [_]) ?kA ?F ?N ?Fs ?lim ?kF ?kK ?ho ?cd ?room ?bind ?loc ?_ ?c5 ?c2 ?c3 ?c4; (case kA => exact rfl); (case kF => exact rfl); (case kK => exact rfl); (case F => k_asm); (case N => k_asm); (case Fs => assumption); (case lim => exact Top.nolimit (by assumption)); (case ho => k_mem); (case cd => exact codeRec_news (by k_asm) (by k_mem) (by assumption) (by assumption)); (case room => ktr_room); (case bind => exact BindsTo.of_eq rfl); (case loc => exact locs rfl); (case c5 => decide); (case c2 => exact rfl); (case c3 => exact rfl); (case c4 => exact rfl)); intro oA' Lr' h' tA' tB' F' N' n1' l1'; (try simp only [TLg.AllNe, List.cons_append, List.nil_append, and_true] at n1'); (try simp only [List.cons_append, List.nil_append] at N'); (try simp only [AllLt, List.cons_append, List.nil_append, and_true] at l1'); (try dsimp only); (try k_fold)))
local macro_rules | `(tactic| walk_at "subscriptTail") => `(tactic| (k_here; (with_reducible show wpAny _ _ (subscriptTail _ _ (Value.ref 32) (Value.str _ _)) _ _ _); k_dflt (refine' sub_esc ?F ?X ?c ?A ?_ ?_ ?z; (case F => k_asm); (case X => k_asm); (case c => exact (by assumption : ∀ c ∈ _, c ∈ codes) _ (by assumption)); (case A => exact rfl); (case z => with_unfolding_all rfl); (all_goals (first | (intro hM9 h9' e9' x9'; (try dsimp only)) | (intro t9'; (try dsimp only)))))))
local macro_rules | `(tactic| walk_at "noteFrame ref") => `(tactic| (k_here; k_dflt (refine' noted_two (new := [_, _, _, _, _, _, _]) ?fr ?Fs ?x ?F ?N ?n1 ?n2 ?_ ?k; (case fr => exact rfl); (case Fs => assumption); (case x => assumption); (case F => k_asm); (case N => k_asm); (case n1 => tlg_ne); (case n2 => tlg_ne); (case k => exact rfl)); intro h' s1' s2' tB' H9; (try simp only [List.cons_append, List.nil_append] at H9)))
local macro_rules | `(tactic| walk_at "setFlight ref") => `(tactic| (k_here; (with_reducible rename TT.HeldNA _ _ _ _ _ _ _ _ => H9); k_dflt (refine TT.HeldNA.land H9 ?_); clear H9; intro h' H9))
local macro_rules | `(tactic| walk_at "handleBy ref") => `(tactic| (k_here; (with_reducible rename TT.HeldNA _ _ _ _ _ _ _ _ => H9); k_dflt (refine' clause_key H9 ?X ?T ?K ?g ?b ?k ?x ?_; (case X => k_asm); (case T => k_asm); (case K => k_is); (case g => exact rfl); (case b => exact rfl); (case k => exact rfl); (case x => exact rfl)); clear H9; intro h' F' N'))
local macro_rules | `(tactic| walk_at "binaryOp Mod str ref") => `(tactic| (k_here; k_dflt (first
  | ((with_reducible show wpAny _ _ (binaryOp _ (Value.str (Str.ofString "\\u%04x") _) _) _ _ _); refine' mod_esc1 ?N ?b ?c ?m ?n ?l ?_; (case c => exact (by assumption : ∀ c ∈ _, c ∈ codes) _ (by assumption)); (case N => k_asm); (case b => exact List.Mem.head _); (case m => assumption); (case n => first | exact rep_a _ ((by assumption : ∀ c ∈ _, c ∈ codes) _ (by assumption)) (by assumption) | exact rep_b _ ((by assumption : ∀ c ∈ _, c ∈ codes) _ (by assumption)) (by assumption) | exact rep_c _ ((by assumption : ∀ c ∈ _, c ∈ codes) _ (by assumption)) (by assumption)); (case l => assumption))
  | ((with_reducible show wpAny _ _ (binaryOp _ (Value.str (Str.ofString "\\u%04x\\u%04x") _) _) _ _ _); refine' mod_esc2 ?N ?b ?c ?m ?n ?l ?_; (case c => exact (by assumption : ∀ c ∈ _, c ∈ codes) _ (by assumption)); (case N => k_asm); (case b => exact List.Mem.head _); (case m => assumption); (case n => first | exact rep_a _ ((by assumption : ∀ c ∈ _, c ∈ codes) _ (by assumption)) (by assumption) | exact rep_b _ ((by assumption : ∀ c ∈ _, c ∈ codes) _ (by assumption)) (by assumption) | exact rep_c _ ((by assumption : ∀ c ∈ _, c ∈ codes) _ (by assumption)) (by assumption)); (case l => assumption))); intro t' k'; (try dsimp only)))
local macro_rules | `(tactic| walk_at "exec Try") => `(tactic| (k_here; refine wpAny_Try_except ?_))
section
variable {w : World} {p : Program} {loose : List Str} {mean : ExcName → Option Value} {mg mb : Str → Option Value} {news : List (Addr × Obj)}
  {dp un : Nat} {gd : Option (List Code)} {cn : Str} {cs : Scope} {a : Addr} {ccd : Value} {cl : List (Str × Addr)} {outer : List Env} {A₀ : Around} {base h₀ : Heap} {L : Addr} {m : Str → Option Value} {s : Shared} {Q E : Value → Shared → Prop}

theorem enca_u {x : Str} {t : Tok} (hF : Fr h₀ L s.heap m) (hX : (hd.heap_39 w.params).In h₀) (hN : News h₀ L s.heap [(41, tabObj #[])]) (hT : Top p loose mean mg mb h₀) (hC : CodeHd h₀ 43 41) (hk : cs.kind = .function)
    (hlen : x.length ≤ 24) (hc : ∀ c ∈ x.cps.toList, c ∈ codes) (hdp : dp + 8 < recursionLimit) (hun : un + 100 < cLine) (hret : ∀ ps, CbRet h₀ L m [(41, tabObj ps)] s Q (fun t => .str (quoted (joinT ascF x)) t)) :
    wpAny (model PySem.Challenge.rw_ew0008_01.row.prog w) (ktrTop dp un gd cn cs L a ccd cl []) (call (.ref 44) [.str x t]) Q E s := by
  dsimp only [CbRet] at hret
  revert hX; k_fill; intro hX
  have hG : GIs ascF := trivial
  refine wpAny_call ?_
  k_dflt (refine' enter_cellsK ?kA ?k2 ?k4 ?k3 ?k5 ?kF ?kK ?k6 ?k7 ?k8 ?k9 ?kB ?kD ?_ ?c2 ?c3 ?c4; (case kA => exact rfl); (case kF => exact rfl); (case kK => assumption); (case k2 => k_asm); (case k3 => k_asm); (case k4 => k_asm); (case k5 => exact Top.nolimit (by assumption)); (case k6 => k_is); (case k7 => k_is); (case k8 => ktr_room); (case k9 => exact BindsTo.of_eq rfl); (case kB => exact rfl); (case kD => decide +kernel); (case c2 => exact rfl); (case c3 => exact rfl); (case c4 => exact rfl); k_whole; intro oL' L' h' tk' cells' tC' tF' F' N' Y' n1' n2' l1; (try simp only [AllLt, List.cons_append, List.nil_append, and_true] at l1); k_cells Y'; (try simp only [List.cons_append, List.nil_append] at N'); (try simp only [TLg.AllNe, and_true] at n1' n2'); (try dsimp only); (try k_fold))
  k_steps
  exact cb_retS (hret _) rfl (by k_asm) (cb_drop (by assumption) (by kcj_all))
end
end Mine

end

section
open PySem PySem.W PySem.Calls PyProof.Rows
set_option Elab.async false
set_option maxRecDepth 100000
set_option maxHeartbeats 8000000
namespace Mine
/-! The machine of the scanner's pattern: from a place it runs to the next quote, backslash or control. -/
open PySem.Sre

def chunkCode : Array Nat := #[14, 4, 0, 1, 4294967295, 17, 0, 26, 5, 0, 4294967295, 3, 1, 17, 1, 17, 2, 13, 11, 9, 4294967295, 132, 268435456, 0, 0, 0, 0, 0, 0, 17, 3, 1]
/-- does the pattern's set take the sign? -/
def isSp (c : Nat) : Bool := c < 256 && (chunkCode.getD (19 + (1 + c / 32)) 0).testBit (c % 32)
def fr0 (q : Nat) (k : Int) : Sre.Frame := { wait := .takeMore, pc := 7, pos := q, outermost := true, count := k, kept := { lastmark := 0, lastindex := -1, whole := false, marks := #[] }, loop := 0, began := none }
/-- the machine ahead of the set, at place q -/
def mH (text : Array Nat) (lim p q : Nat) (k : Int) (m1 m2 : Option Nat) (seen : Sre.Seen) : M :=
  { code := chunkCode, text, lim, start := p, lastStart := 0, wholeText := false, mustAdvance := false, pc := 13, pos := q, handed := q, outermost := true, marks := #[some p, m1, m2, none], lastmark := 0, lastindex := -1, loops := #[], inner := none,
    frames := [fr0 q k], weight := 1, answer := none, seen, outcome := none }
def m17 (text : Array Nat) (lim p q : Nat) (k : Int) (seen : Sre.Seen) : M :=
  { code := chunkCode, text, lim, start := p, lastStart := 0, wholeText := false, mustAdvance := false, pc := 17, pos := q, handed := q, outermost := true, marks := #[some p, some q, some q, none], lastmark := 2, lastindex := 1, loops := #[], inner := none,
    frames := [fr0 q k], weight := 1, answer := none, seen, outcome := none }
/-- the machine's end -/
def mE (text : Array Nat) (lim p q : Nat) (seen : Sre.Seen) : M :=
  { code := chunkCode, text, lim, start := p, lastStart := 0, wholeText := false, mustAdvance := false, pc := 7, pos := q, handed := q + 1, outermost := true, marks := #[some p, some q, some q, some (q + 1)], lastmark := 3, lastindex := 2, loops := #[], inner := none,
    frames := [], weight := 0, answer := some true, seen, outcome := some .matched }

section
variable {text : Array Nat} {lim p q : Nat} {k : Int} {m1 m2 : Option Nat} {seen : Sre.Seen}
theorem to17 : ∃ seen', (mH text lim p q k m1 m2 seen).step.step = m17 text lim p q k seen' := ⟨(seen.add 17).add 17, by kernel_rfl⟩
theorem set_is (c : Nat) (seen : Sre.Seen) : ∃ seen', accepts chunkCode 17 c seen = .ok (isSp c, seen') := by
  have e : accepts chunkCode 17 c seen = (if isSp c = true then .ok (true, seen.add 9) else .ok (!true, (seen.add 9).add 0)) := by kernel_rfl
  rw [e]
  cases isSp c
  · exact ⟨_, rfl⟩
  · exact ⟨_, rfl⟩
theorem step17 (hq : q < lim) : ∃ seen', (m17 text lim p q k seen).step = (if isSp (text.getD q 0) = true then { m17 text lim p q k seen with seen := seen', pc := 29, pos := q + 1 } else ({ m17 text lim p q k seen with seen := seen' } : M).say false) := by
  obtain ⟨s', h'⟩ := set_is (text.getD q 0) (seen.add 13)
  have e : (m17 text lim p q k seen).step = (if q ≥ lim then ({ m17 text lim p q k seen with seen := seen.add 13 } : M).say false else
      match accepts chunkCode 17 (text.getD q 0) (seen.add 13) with
      | .error why => ({ m17 text lim p q k seen with seen := seen.add 13 } : M).stick why
      | .ok (false, seen) => ({ m17 text lim p q k seen with seen } : M).say false
      | .ok (true, seen) => { m17 text lim p q k seen with seen, pc := 29, pos := q + 1 }) := by kernel_rfl
  refine ⟨s', ?_⟩
  rw [e, if_neg (by omega), h']
  cases isSp (text.getD q 0) <;> rfl
theorem past (hq : q < lim) (hs : isSp (text.getD q 0) = false) : ∃ seen', (mH text lim p q k m1 m2 seen).step.step.step.step = mH text lim p (q + 1) (k + 1) (some q) (some q) seen' := by
  obtain ⟨s1, h1⟩ := to17 (text := text) (lim := lim) (p := p) (q := q) (k := k) (m1 := m1) (m2 := m2) (seen := seen)
  obtain ⟨s2, h2⟩ := step17 (text := text) (p := p) (k := k) (seen := s1) hq
  rw [h1, h2, hs, if_neg (by decide)]
  have e : (({ m17 text lim p q k s1 with seen := s2 } : M).say false).step = (if (decide (k + 1 > ((4294967295 : Nat) : Int)) && false) = true then ({ mH text lim p q k (some q) (some q) s2 with frames := [], weight := 0, pc := 7 } : M).say false else
      if q ≥ lim then ({ mH text lim p q k (some q) (some q) s2 with frames := [], weight := 0, pc := 7 } : M).say false else mH text lim p (q + 1) (k + 1) (some q) (some q) s2) := by kernel_rfl
  exact ⟨s2, by rw [e, Bool.and_false, if_neg Bool.false_ne_true, if_neg (by omega)]⟩
theorem ends (hq : q < lim) (hs : isSp (text.getD q 0) = true) : ∃ seen', (mH text lim p q k m1 m2 seen).step.step.step.step.step.step.step = mE text lim p q seen' := by
  obtain ⟨s1, h1⟩ := to17 (text := text) (lim := lim) (p := p) (q := q) (k := k) (m1 := m1) (m2 := m2) (seen := seen)
  obtain ⟨s2, h2⟩ := step17 (text := text) (p := p) (k := k) (seen := s1) hq
  rw [h1, h2, hs, if_pos rfl]
  exact ⟨(s2.add 17).add 1, by kernel_rfl⟩
end
theorem runFor_add (a b : Nat) (m : M) : M.runFor (a + b) m = M.runFor b (M.runFor a m) := by
  induction a generalizing m with
  | zero => rw [Nat.zero_add]; rfl
  | succ a ih =>
    rw [Nat.succ_add]
    show (if m.outcome.isSome then m else M.runFor (a + b) m.step) = M.runFor b (if m.outcome.isSome then m else M.runFor a m.step)
    by_cases h : m.outcome.isSome = true
    · rw [if_pos h, if_pos h]
      cases b with
      | zero => rfl
      | succ b => show m = (if m.outcome.isSome then m else _); rw [if_pos h]
    · rw [if_neg h, if_neg h, ih]
theorem step_idle {m : M} (h : m.outcome.isSome = true) : m.step = m := by unfold M.step; rw [if_pos h]
theorem runFor_idle {m : M} (h : m.outcome.isSome = true) : ∀ n, M.runFor n m = m
  | 0 => rfl
  | n + 1 => by show (if m.outcome.isSome then m else _) = m; rw [if_pos h]
theorem runFor_step (n : Nat) (m : M) : M.runFor (n + 1) m = M.runFor n m.step := by
  show (if m.outcome.isSome then m else M.runFor n m.step) = _
  by_cases h : m.outcome.isSome = true
  · rw [if_pos h, step_idle h, runFor_idle h]
  · rw [if_neg h]
section
variable {text : Array Nat} {lim p : Nat}
theorem start2 (hp : p < lim) : ∃ seen', (forMatch chunkCode text 2 p lim false false).step.step = mH text lim p p 0 none none seen' := by
  have e0 : forMatch chunkCode text 2 p lim false false = (if (decide ((1 : Nat) ≠ 0) && decide (p ≤ lim) && decide (lim - p < 1)) = true then ({ mH text lim p p 0 none none (({} : Sre.Seen).add 14) with pc := 5, marks := #[none, none, none, none], lastmark := -1, frames := [], weight := 0 } : M).say false
      else { mH text lim p p 0 none none (({} : Sre.Seen).add 14) with pc := 5, marks := #[none, none, none, none], lastmark := -1, frames := [], weight := 0 }) := by kernel_rfl
  have h1 : decide (lim - p < 1) = false := decide_eq_false (by omega)
  rw [e0, h1, Bool.and_false, if_neg Bool.false_ne_true]
  have e1 : (({ mH text lim p p 0 none none (({} : Sre.Seen).add 14) with pc := 5, marks := #[none, none, none, none], lastmark := -1, frames := [], weight := 0 } : M).step).step =
      (if ((0 : Nat) : Int) > (lim : Int) - (p : Int) then ({ mH text lim p p 0 none none (((({} : Sre.Seen).add 14).add 17).add 26) with pc := 7, frames := [], weight := 0 } : M).say false
       else mH text lim p p 0 none none ((((({} : Sre.Seen).add 14).add 17).add 26).add 3)) := by kernel_rfl
  exact ⟨_, by rw [e1, if_neg (by omega)]⟩

theorem from_head {q : Nat} (hq : q < lim) (hs : isSp (text.getD q 0) = true) : ∀ (d i : Nat) (k : Int) (m1 m2 : Option Nat) (seen : Sre.Seen), i + d = q → (∀ j, i ≤ j → j < q → isSp (text.getD j 0) = false) → ∃ n seen', n ≤ 4 * d + 7 ∧ M.runFor n (mH text lim p i k m1 m2 seen) = mE text lim p q seen' := by
  intro d
  induction d with
  | zero =>
    intro i k m1 m2 seen hi _
    obtain rfl : i = q := by omega
    obtain ⟨s', h⟩ := ends (text := text) (p := p) (k := k) (m1 := m1) (m2 := m2) (seen := seen) hq hs
    exact ⟨7, s', by omega, by rw [runFor_step, runFor_step, runFor_step, runFor_step, runFor_step, runFor_step, runFor_step]; exact h⟩
  | succ d ih =>
    intro i k m1 m2 seen hi hn
    obtain ⟨s', h⟩ := past (text := text) (lim := lim) (p := p) (q := i) (k := k) (m1 := m1) (m2 := m2) (seen := seen) (by omega) (hn i (Nat.le_refl _) (by omega))
    obtain ⟨n, s'', hb, h2⟩ := ih (i + 1) (k + 1) (some i) (some i) s' (by omega) (fun j h1 h2 => hn j (by omega) h2)
    exact ⟨n + 4, s'', by omega, by rw [runFor_step, runFor_step, runFor_step, runFor_step, h]; exact h2⟩

theorem run_all {q : Nat} (hpq : p ≤ q) (hq : q < lim) (hs : isSp (text.getD q 0) = true) (hn : ∀ j, p ≤ j → j < q → isSp (text.getD j 0) = false) : ∃ n seen', n ≤ 4 * lim + 9 ∧ M.runFor n (forMatch chunkCode text 2 p lim false false) = mE text lim p q seen' := by
  obtain ⟨s', h⟩ := start2 (text := text) (lim := lim) (p := p) (by omega)
  obtain ⟨n, s'', hb, h2⟩ := from_head (p := p) hq hs (q - p) p 0 none none s' (by omega) hn
  exact ⟨n + 2, s'', by omega, by rw [runFor_step, runFor_step, h]; exact h2⟩
end

/-! The driver: it runs the machine in turns of four steps, to its end. -/
open PySem.Builtin.Re in
theorem drive {M' : Model} {A : Around} {E : Value → Shared → Prop} {s : Shared} {Q : Sre.M → Shared → Prop} {e : Sre.M} (he : e.outcome.isSome = true) : ∀ (turns n : Nat) (m : Sre.M), M.runFor n m = e → n ≤ 4 * turns → 0 < turns → Q e s → wpAny M' A (reDrive turns m) Q E s := by
  intro turns
  induction turns with
  | zero => intro n m _ _ h; exact absurd h (Nat.lt_irrefl _)
  | succ t ih =>
    intro n m hm hn _ hQ
    unfold reDrive
    dsimp only
    have hE : ∀ d, M.runFor d e = e := runFor_idle he
    by_cases hd : (M.runFor reTurnSteps m).outcome.isSome = true
    · rw [if_pos hd]
      have : M.runFor reTurnSteps m = e := by
        by_cases h4 : n ≤ 4
        · obtain ⟨d, h5⟩ := Nat.exists_eq_add_of_le h4
          show M.runFor 4 m = e
          rw [h5, runFor_add, hm, hE]
        · obtain ⟨d, h5⟩ := Nat.exists_eq_add_of_le (show 4 ≤ n by omega)
          rw [h5, runFor_add] at hm
          exact (runFor_idle hd d).symm.trans hm
      rw [this]; exact wpAny_pure hQ
    · rw [if_neg hd]
      have h4 : 4 < n := by
        refine Nat.lt_of_not_le fun h4 => hd ?_
        obtain ⟨d, h5⟩ := Nat.exists_eq_add_of_le h4
        show (M.runFor 4 m).outcome.isSome = true
        rw [h5, runFor_add, hm, hE]; exact he
      obtain ⟨d, h5⟩ := Nat.exists_eq_add_of_le (show 4 ≤ n by omega)
      rw [h5, runFor_add] at hm
      exact wpAny_bind (wpAny_rule (ih d _ hm (by omega) (by omega) hQ))
end Mine

end

section
open PySem PySem.W PySem.Calls PyProof.Rows
set_option Elab.async false
set_option maxRecDepth 100000
set_option maxHeartbeats 8000000
namespace Mine
open PySem.Builtin PySem.Builtin.Re
section
variable {M : Model} {A : Around} {E : Value → Shared → Prop} {s : Shared}
theorem quiet_for {α : Type} {Q : PUnit → Shared → Prop} (f : α → PUnit → Sem (ForInStep PUnit)) (hf : ∀ a u (Q' : ForInStep PUnit → Shared → Prop), Q' (.yield ⟨⟩) s → wpAny M A (f a u) Q' E s) : ∀ l : List α, Q ⟨⟩ s → wpAny M A (forIn l ⟨⟩ f) Q E s
  | [], h => by rw [List.forIn_nil]; exact wpAny_pure h
  | a :: l, h => by
    rw [List.forIn_cons]
    exact wpAny_bind (hf a _ _ (quiet_for f hf l h))

theorem run_to_end {m e : Sre.M} {n : Nat} {Q : Option Sre.M → Shared → Prop} (hm : Sre.M.runFor n m = e) (ho : e.outcome = some .matched) (hn : n ≤ 4 * 2 ^ 64) (h : Q (some e) s) : wpAny M A (reRunToEnd m) Q E s := by
  unfold reRunToEnd
  refine wpAny_bind (drive (by rw [ho]; rfl) (2 ^ 64) n m hm hn (by decide) ?_)
  refine wpAny_bind (quiet_for _ (fun i u Q' hq => ?_) _ ?_)
  · by_cases hh : e.seen.has i = true
    · rw [if_pos hh]; exact wpAny_bind (wpAny_rule (wpAny_pure hq))
    · rw [if_neg hh]; exact wpAny_bind (wpAny_pure (wpAny_pure hq))
  · rw [ho]
    exact wpAny_pure h

theorem ssize {p : Nat} {u : Tok} {Q : Int → Shared → Prop} (hp : p < 2 ^ 62) (h : Q (p : Int) s) : wpAny M A (reSsize (.int (p : Int) u)) Q E s := by
  unfold reSsize
  refine wpAny_bind (wpAny_of_eq (a := (p : Int)) (by kernel_rfl) ?_)
  rw [if_neg (by simp only [Bool.or_eq_true, decide_eq_true_eq]; omega)]
  exact wpAny_bind (wpAny_pure (wpAny_pure h))
end

section
variable {prog : Program} {w : World} {A : Around} {E : Value → Shared → Prop} {s : Shared} {h₀ : Heap} {L : Addr} {m : Str → Option Value} {news : List (Addr × Obj)}
theorem codeObj (X : (hd.heap_39 w.params).In s.heap) : s.heap.get? 86 = some ⟨.type "tuple", none, .seq (chunkCode.map fun (n : Nat) => Value.int (n : Int) 0) 0, #[]⟩ := X 86 _ (by kernel_rfl)
theorem code_back : ((chunkCode.map fun (n : Nat) => Value.int (n : Int) 0).map reRawOf).map (·.toNat) = chunkCode := by kernel_rfl
def patFields : Array Value := #[.str (Str.ofString "(?s)(.*?)([\\'\"\\\\\\x00-\\x1f])") 477, .int 48 512, .int 2 0, .none, .none, .ref 86, .int 0 0]
theorem patObj (X : (hd.heap_39 w.params).In s.heap) : s.heap.get? 87 = some ⟨.type "re.Pattern", none, .fields patFields, #[]⟩ := X 87 _ (by kernel_rfl)
theorem fields_of {a : Addr} {o : Obj} {vs : Array Value} {Q : Array Value → Shared → Prop} (ho : s.heap.get? a = some o) (hd : o.data = .fields vs) (h : Q vs s) : wpAny (model prog w) A (fieldsOf (.ref a)) Q E s := by
  unfold fieldsOf
  refine wpAny_bind (wpAny_load ho ?_)
  rw [hd]; exact wpAny_pure h
theorem raw_items {a : Addr} {o : Obj} {vs : Array Value} {n : Nat} {Q : Array Int → Shared → Prop} (ho : s.heap.get? a = some o) (hd : o.data = .seq vs n) (h : Q (vs.map reRawOf) s) : wpAny (model prog w) A (reRawItems (.ref a)) Q E s := by
  unfold reRawItems
  refine wpAny_bind (wpAny_mono (Q := fun r s' => r = some vs ∧ s' = s) (E := E) ?_ (fun r s' hr => ?_) fun _ _ x => x)
  · unfold seqItems?
    refine wpAny_bind (wpAny_load ho ?_)
    rw [hd]; exact wpAny_pure ⟨rfl, rfl⟩
  · obtain ⟨rfl, rfl⟩ := hr
    exact wpAny_pure h
theorem target {x : Str} {t u : Tok} {p : Nat} {Q : ReTarget → Shared → Prop} (X : (hd.heap_39 w.params).In s.heap) (hp : p ≤ x.cps.size) (hx : x.cps.size < 2 ^ 62)
    (h : Q { pattern := .ref 87, string := .str x t, code := chunkCode, text := x.cps, kind := 0, groups := 2, pos := p, lim := x.cps.size } s) :
    wpAny (model prog w) A (reTarget "re.Pattern.match" "match" ⟨[.ref 87, .str x t, .int (p : Int) u], []⟩) Q E s := by
  have h87 := patObj X
  have h86 := codeObj X
  unfold reTarget
  dsimp only
  refine wpAny_bind (wpAny_of_eq (a := [some (.str x t), some (.int (p : Int) u), none]) (by kernel_rfl) ?_)
  dsimp only
  refine wpAny_bind (ssize (by omega) ?_)
  refine wpAny_bind (wpAny_pure ?_)
  refine wpAny_bind (fields_of h87 rfl ?_)
  refine wpAny_bind (wpAny_of_eq (a := (x.cps, 0)) (by kernel_rfl) ?_)
  dsimp only
  rw [if_neg (by decide +kernel), if_neg (by decide +kernel)]
  refine wpAny_bind (wpAny_of_eq (a := ()) (by kernel_rfl) ?_)
  refine wpAny_bind (raw_items (o := ⟨.type "tuple", none, .seq (chunkCode.map fun (n : Nat) => Value.int (n : Int) 0) 0, #[]⟩) h86 rfl ?_)
  rw [code_back, show Min.min ((p : Int)).toNat x.cps.size = p by omega, Nat.min_eq_right (by omega)]
  exact wpAny_pure h
end
end Mine

end

section
open PySem PySem.W PySem.Calls PyProof.Rows
set_option Elab.async false
set_option maxRecDepth 100000
set_option maxHeartbeats 8000000
namespace Mine
open PySem.Builtin PySem.Builtin.Re
theorem pa_pat : PlainAttrs "re.Pattern" := ⟨⟨"object.__getattribute__", by rw [typeLookup_type, builtinLookup_eq_fast]; kernel_rfl, by decide +kernel⟩, by rw [typeLookup_type, builtinLookup_eq_fast]; kernel_rfl⟩
theorem pa_mat : PlainAttrs "re.Match" := ⟨⟨"object.__getattribute__", by rw [typeLookup_type, builtinLookup_eq_fast]; kernel_rfl, by decide +kernel⟩, by rw [typeLookup_type, builtinLookup_eq_fast]; kernel_rfl⟩
theorem slot_match : Slot "re.Pattern" "match" "re.Pattern.match" :=
  .of (owner := "re.Pattern") (n := "match") (by rw [typeLookup_type, builtinLookup_eq_fast]; kernel_rfl) (by decide +kernel) (by decide +kernel) (by decide +kernel)
    (by first | exact .inl (by decide +kernel) | exact .inr (by decide +kernel)) (by rw [isSubtype_type]; kernel_rfl)
theorem slot_end : Slot "re.Match" "end" "re.Match.end" :=
  .of (owner := "re.Match") (n := "end") (by rw [typeLookup_type, builtinLookup_eq_fast]; kernel_rfl) (by decide +kernel) (by decide +kernel) (by decide +kernel)
    (by first | exact .inl (by decide +kernel) | exact .inr (by decide +kernel)) (by rw [isSubtype_type]; kernel_rfl)
theorem slot_groups : Slot "re.Match" "groups" "re.Match.groups" :=
  .of (owner := "re.Match") (n := "groups") (by rw [typeLookup_type, builtinLookup_eq_fast]; kernel_rfl) (by decide +kernel) (by decide +kernel) (by decide +kernel)
    (by first | exact .inl (by decide +kernel) | exact .inr (by decide +kernel)) (by rw [isSubtype_type]; kernel_rfl)
theorem type_match : typeOf (.builtin "re.Pattern.match") = pure (.type "method_descriptor") := by show builtinType _ = _; rw [builtinType_eq_fast]; kernel_rfl
theorem type_end : typeOf (.builtin "re.Match.end") = pure (.type "method_descriptor") := by show builtinType _ = _; rw [builtinType_eq_fast]; kernel_rfl
theorem type_groups : typeOf (.builtin "re.Match.groups") = pure (.type "method_descriptor") := by show builtinType _ = _; rw [builtinType_eq_fast]; kernel_rfl
theorem entry_match : entryFor table "re.Pattern.match" = some Builtin.«re.Pattern.match» := entryFor_of_tree (by kernel_rfl)
theorem entry_end : entryFor table "re.Match.end" = some Builtin.«re.Match.end» := entryFor_of_tree (by kernel_rfl)
theorem entry_groups : entryFor table "re.Match.groups" = some Builtin.«re.Match.groups» := entryFor_of_tree (by kernel_rfl)
theorem args_match (a b c : Value) : argsOk "re.Pattern.match" ⟨[a, b, c], []⟩ := by unfold argsOk; kernel_rfl
theorem args_end (a : Value) : argsOk "re.Match.end" ⟨[a], []⟩ := by unfold argsOk; kernel_rfl
theorem args_groups (a : Value) : argsOk "re.Match.groups" ⟨[a], []⟩ := by unfold argsOk; kernel_rfl

def spanObj (p q : Nat) : Obj := { cls := .type "tuple", data := .seq [rawInt p, rawInt (q + 1 : Nat), rawInt p, rawInt q, rawInt q, rawInt (q + 1 : Nat)].toArray }
def matObj (x : Str) (t : Tok) (p : Nat) (T : Addr) : Obj := { cls := .type "re.Match", data := .fields [.str x t, .ref 87, rawInt p, rawInt x.cps.size, rawInt 2, .ref T].toArray }

section
variable {prog : Program} {w : World} {A : Around} {E : Value → Shared → Prop} {s : Shared} {h₀ : Heap} {L : Addr} {m : Str → Option Value} {news : List (Addr × Obj)}
theorem new_match {x : Str} {t : Tok} {p q : Nat} {seen : Sre.Seen} {Q : Value → Shared → Prop} (hpq : p ≤ q) (F : Fr h₀ L s.heap m) (N : News h₀ L s.heap news)
    (h : ∀ T Mo h', Fr h₀ L h' m → News h₀ L h' ((Mo, matObj x t p T) :: (T, spanObj p q) :: news) → AllLt T news → @LT.lt Nat _ T Mo → Q (.ref Mo) { s with heap := h' }) :
    wpAny (model prog w) A (reNewMatch (.ref 87) (.str x t) 2 p x.cps.size (mE x.cps x.cps.size p q seen)) Q E s := by
  unfold reNewMatch
  dsimp only
  refine KFB.if_not (((by kernel_rfl : _ = (decide (q < p) || (decide (q + 1 < q) || false)))).trans (by rw [decide_eq_false (show ¬ q < p by omega), decide_eq_false (show ¬ q + 1 < q by omega)]; rfl)) ?_
  refine wpAny_bind (wpAny_newObj_type ?_ (Eq.mpr (by kernel_rfl : _ = ((6 : Nat) ≤ sizeLine)) (by rw [sizeLine_eq]; omega)))
  have F1 := F.push (spanObj p q)
  have N1 := News.push F N (spanObj p q)
  refine wpAny_newObj_type (h s.heap.objs.size _ _ (Fr.push F1 _) (News.push F1 N1 (matObj x t p s.heap.objs.size)) (allLt_of fun r hr => Heap.lt_size (N r hr).1) ?_) (Eq.mpr (by kernel_rfl : _ = ((6 : Nat) ≤ sizeLine + 2)) (by rw [sizeLine_eq]; omega))
  show s.heap.objs.size < (s.heap.push (spanObj p q)).objs.size
  rw [Heap.size_push]; exact Nat.lt_succ_self _

theorem call_match {x : Str} {t u : Tok} {p q : Nat} {Q : Value → Shared → Prop} (F : Fr h₀ L s.heap m) (X : (hd.heap_39 w.params).In h₀) (N : News h₀ L s.heap news) (hpq : p ≤ q) (hq : q < x.cps.size) (hx : x.cps.size < 2 ^ 62)
    (hs : isSp (x.cps.getD q 0) = true) (hn : ∀ j, p ≤ j → j < q → isSp (x.cps.getD j 0) = false)
    (h : ∀ T Mo h', Fr h₀ L h' m → News h₀ L h' ((Mo, matObj x t p T) :: (T, spanObj p q) :: news) → AllLt T news → @LT.lt Nat _ T Mo → Q (.ref Mo) { s with heap := h' }) :
    wpAny (model prog w) A (call (.builtin "re.Pattern.match") [.ref 87, .str x t, .int (p : Int) u]) Q E s := by
  have X' := X.keeps F.keep
  have hT : s.TypeIs (.ref 87) "re.Pattern" := ⟨_, patObj X', rfl⟩
  refine wpAny_call_entry slot_match hT entry_match ?_ (args_match _ _ _)
  unfold Builtin.«re.Pattern.match»
  refine wpAny_bind (target X' (by omega) hx ?_)
  unfold reAnswer
  obtain ⟨n, seen, hn', hr⟩ := run_all (text := x.cps) (lim := x.cps.size) (p := p) hpq hq hs hn
  refine wpAny_bind (run_to_end hr rfl (by omega) ?_)
  exact wpAny_bind (new_match hpq F N fun T Mo h' F' N' l1 l2 => wpAny_pure ⟨_, rfl, h T Mo h' F' N' l1 l2⟩)

theorem get_match {pl : Sem Bool} {Q : Value × List Value → Shared → Prop} (F : Fr h₀ L s.heap m) (X : (hd.heap_39 w.params).In h₀) (h : Q (.builtin "re.Pattern.match", [.ref 87]) s) : wpAny (model prog w) A (getMethod (.ref 87) "match" pl) Q E s := by
  have X' := X.keeps F.keep
  exact getMethod_builtin ⟨_, patObj X', rfl⟩ pa_pat slot_match type_match (fun a e => by cases e; exact ⟨_, patObj X', rfl⟩) h
theorem get_end {pl : Sem Bool} {x : Str} {t : Tok} {p : Nat} {T Mo : Addr} {Q : Value × List Value → Shared → Prop} (N : News h₀ L s.heap news) (hm : (Mo, matObj x t p T) ∈ news) (h : Q (.builtin "re.Match.end", [.ref Mo]) s) : wpAny (model prog w) A (getMethod (.ref Mo) "end" pl) Q E s :=
  getMethod_builtin ⟨_, N.get hm, rfl⟩ pa_mat slot_end type_end (fun a e => by cases e; exact ⟨_, N.get hm, rfl⟩) h
theorem get_groups {pl : Sem Bool} {x : Str} {t : Tok} {p : Nat} {T Mo : Addr} {Q : Value × List Value → Shared → Prop} (N : News h₀ L s.heap news) (hm : (Mo, matObj x t p T) ∈ news) (h : Q (.builtin "re.Match.groups", [.ref Mo]) s) : wpAny (model prog w) A (getMethod (.ref Mo) "groups" pl) Q E s :=
  getMethod_builtin ⟨_, N.get hm, rfl⟩ pa_mat slot_groups type_groups (fun a e => by cases e; exact ⟨_, N.get hm, rfl⟩) h

def spans (p q : Nat) : Array Int := #[(p : Int), ((q + 1 : Nat) : Int), (p : Int), (q : Int), (q : Int), ((q + 1 : Nat) : Int)]
theorem found {x : Str} {t : Tok} {p q : Nat} {T Mo : Addr} {Q : ReFound → Shared → Prop} (N : News h₀ L s.heap news) (hm : (Mo, matObj x t p T) ∈ news) (hT : (T, spanObj p q) ∈ news)
    (h : Q ⟨[.str x t, .ref 87, rawInt p, rawInt x.cps.size, rawInt 2, .ref T].toArray, spans p q⟩ s) : wpAny (model prog w) A (reFound (.ref Mo)) Q E s := by
  unfold reFound
  refine wpAny_bind (fields_of (N.get hm) rfl ?_)
  refine wpAny_bind (raw_items (a := T) (N.get hT) rfl ?_)
  rw [show (#[rawInt p, rawInt (q + 1 : Nat), rawInt p, rawInt q, rawInt q, rawInt (q + 1 : Nat)] : Array Value).map reRawOf = spans p q by kernel_rfl]
  exact wpAny_pure h

theorem call_end {x : Str} {t : Tok} {p q : Nat} {T Mo : Addr} {Q : Value → Shared → Prop} (N : News h₀ L s.heap news) (hm : (Mo, matObj x t p T) ∈ news) (hT : (T, spanObj p q) ∈ news)
    (h : ∀ t', Q (.int ((q + 1 : Nat) : Int) t') { s with toks := s.toks + 1 }) : wpAny (model prog w) A (call (.builtin "re.Match.end") [.ref Mo]) Q E s := by
  refine wpAny_call_entry slot_end ⟨_, N.get hm, rfl⟩ entry_end ?_ (args_end _)
  unfold Builtin.«re.Match.end» reOneGroup
  refine wpAny_bind (wpAny_bind (wpAny_of_eq (a := (.ref Mo, [])) (by kernel_rfl) ?_))
  dsimp only
  refine wpAny_bind (found N hm hT ?_)
  refine wpAny_bind (wpAny_pure (wpAny_pure ?_))
  exact wpAny_bind (wpAny_mkInt (wpAny_pure ⟨_, rfl, h _⟩))

theorem slice_of {x : Str} {p q : Nat} {Q : Value → Shared → Prop} (hx : x.cps.size ≤ 16777216) (h : Q (.str ⟨x.cps.extract p q⟩ s.toks) { s with toks := s.toks + 1 }) : wpAny (model prog w) A (reSlice x.cps 0 p q) Q E s := by
  show wpAny _ _ (mkStr ⟨x.cps.extract p q⟩) _ _ s
  refine wpAny_mkStr h ?_
  show (x.cps.extract p q).size ≤ sizeLine
  rw [Array.size_extract, sizeLine_eq]; omega
theorem group_text {x : Str} {t : Tok} {p q g : Nat} {T : Addr} {b e : Nat} {Q : Value → Shared → Prop} (hx : x.cps.size ≤ 16777216) (hb : (spans p q).getD (2 * g) (-1) = (b : Int)) (he : (spans p q).getD (2 * g + 1) (-1) = (e : Int)) (h : Q (.str ⟨x.cps.extract b e⟩ s.toks) { s with toks := s.toks + 1 }) :
    wpAny (model prog w) A (reGroupText ⟨[.str x t, .ref 87, rawInt p, rawInt x.cps.size, rawInt 2, .ref T].toArray, spans p q⟩ g .none) Q E s := by
  unfold reGroupText
  dsimp only
  rw [hb, he, if_neg (by simp only [Bool.or_eq_true, decide_eq_true_eq]; omega)]
  refine wpAny_bind (wpAny_of_eq (a := (x.cps, 0)) (by kernel_rfl) ?_)
  exact slice_of hx h
theorem call_groups {x : Str} {t : Tok} {p q : Nat} {T Mo : Addr} {Q : Value → Shared → Prop} (F : Fr h₀ L s.heap m) (N : News h₀ L s.heap news) (hm : (Mo, matObj x t p T) ∈ news) (hT : (T, spanObj p q) ∈ news) (hx : x.cps.size ≤ 16777216)
    (h : ∀ G h' t1 t2 tk, Fr h₀ L h' m → News h₀ L h' ((G, { cls := .type "tuple", data := .seq [.str ⟨x.cps.extract p q⟩ t1, .str ⟨x.cps.extract q (q + 1)⟩ t2].toArray }) :: news) → AllLt G news → Q (.ref G) { s with heap := h', toks := tk }) :
    wpAny (model prog w) A (call (.builtin "re.Match.groups") [.ref Mo]) Q E s := by
  refine wpAny_call_entry slot_groups ⟨_, N.get hm, rfl⟩ entry_groups ?_ (args_groups _)
  unfold Builtin.«re.Match.groups» reWithDefault
  dsimp only
  refine wpAny_bind (wpAny_bind (wpAny_of_eq (a := [none]) (by kernel_rfl) ?_))
  dsimp only
  refine wpAny_bind (found N hm hT ?_)
  refine wpAny_pure ?_
  dsimp only
  rw [show (List.range ((spans p q).size / 2 - 1)) = [0, 1] by kernel_rfl]
  refine wpAny_bind ?_
  simp only [List.mapM_cons, List.mapM_nil]
  refine wpAny_bind (group_text (b := p) (e := q) hx rfl rfl ?_)
  refine wpAny_bind (wpAny_bind (group_text (b := q) (e := q + 1) hx rfl rfl ?_))
  refine wpAny_bind (wpAny_pure (wpAny_pure (wpAny_pure ?_)))
  refine wpAny_bind (wpAny_newObj_type ?_ (Eq.mpr (by kernel_rfl : _ = ((2 : Nat) ≤ sizeLine)) (by rw [sizeLine_eq]; omega)))
  exact wpAny_pure ⟨_, rfl, h s.heap.objs.size _ _ _ _ (Fr.push F _) (News.push F N _) (allLt_of fun r hr => Heap.lt_size (N r hr).1)⟩
end
end Mine

end

section
open PySem PySem.W PySem.Calls PyProof.Rows
set_option Elab.async false
set_option maxRecDepth 100000
set_option maxHeartbeats 8000000
namespace Mine
open PySem.Builtin
theorem slot_md_get : Slot "method_descriptor" "__get__" "method_descriptor.__get__" :=
  .of (owner := "method_descriptor") (n := "__get__") (by rw [typeLookup_type, builtinLookup_eq_fast]; kernel_rfl) (by decide +kernel) (by decide +kernel) (by decide +kernel)
    (by first | exact .inl (by decide +kernel) | exact .inr (by decide +kernel)) (by rw [isSubtype_type]; kernel_rfl)
theorem entry_md_get : entryFor table "method_descriptor.__get__" = some Builtin.«method_descriptor.__get__» := entryFor_of_tree (by kernel_rfl)
theorem args_md_get (a b c : Value) : argsOk "method_descriptor.__get__" ⟨[a, b, c], []⟩ := by unfold argsOk; kernel_rfl
theorem typeOf_append : typeOf (.builtin "list.append") = pure (.type "method_descriptor") := by show builtinType _ = _; rw [builtinType_eq_fast]; kernel_rfl
theorem lk_append : typeLookup (.type "list") "append" = pure (some (.builtin "list.append")) := by rw [typeLookup_type, builtinLookup_eq_fast]; kernel_rfl
theorem lk_md_set : typeLookup (.type "method_descriptor") "__set__" = pure none := by rw [typeLookup_type, builtinLookup_eq_fast]; kernel_rfl
theorem lk_md_del : typeLookup (.type "method_descriptor") "__delete__" = pure none := by rw [typeLookup_type, builtinLookup_eq_fast]; kernel_rfl
theorem sub_list : isSubtype (.type "list") (.type "list") = pure true := by rw [isSubtype_type]; kernel_rfl
def appObj (l : Addr) : Obj := { cls := .type "builtin_function_or_method", data := .fields [.builtin "list.append", .ref l].toArray }
section
variable {prog : Program} {w : World} {A : Around} {E : Value → Shared → Prop} {h : Heap} {g : Array GenState} {d : Drawn} {t : Nat} {os : OsState} {a : Addr} {vs : Array Value} {n : Nat}
theorem app_get {R : Result → Shared → Prop} (hx : h.get? a = some { cls := .type "list", data := .seq vs n }) (hq : R (.ok (.ret (.ref h.objs.size))) ⟨h.push (appObj a), g, d, t, os⟩) :
    codeAny (model prog w) A (.call (.builtin "method_descriptor.__get__") ⟨[.builtin "list.append", .ref a, .type "list"], []⟩) R ⟨h, g, d, t, os⟩ := by
  have hT : (⟨h, g, d, t, os⟩ : Shared).TypeIs (.ref a) "list" := ⟨_, hx, rfl⟩
  have hT5 : (⟨h, g, d, t, os⟩ : Shared).TypeIs (.builtin "list.append") "method_descriptor" := typeOf_append
  refine codeAny_call_builtin slot_md_get.plain entry_md_get (slot_md_get.check _ _ _ _ _ _ _ _ hT5 (args_md_get _ _ _) ?_)
  unfold Builtin.«method_descriptor.__get__»
  refine wpAny_bind (wpAny_of_eq (a := (.builtin "list.append", some (.ref a), some (.type "list"))) (by kernel_rfl) ?_)
  dsimp only
  rw [if_neg (by decide +kernel)]
  refine wpAny_bind (f := fun _ => _) ?_
  refine wpAny_bind (wpAny_of_eq (a := (("append" : Str), Value.type "list")) (by kernel_rfl) ?_)
  refine wpAny_bind (wpAny_isInstance hT sub_list ?_)
  refine wpAny_pure ?_
  refine wpAny_bind (wpAny_newObj_type ?_ (Eq.mpr (by kernel_rfl : _ = ((2 : Nat) ≤ sizeLine + 2)) (by rw [sizeLine_eq]; omega)))
  exact wpAny_pure hq

theorem app_entry {tk : Tok} {Q : Fin → Shared → Prop} (hx : h.get? a = some { cls := .type "list", data := .seq vs n }) (hq : Q (.done (.ret (.ref h.objs.size))) ⟨h.push (appObj a), g, d, t, os⟩) :
    wpAny (model prog w) A (Builtin.«object.__getattribute__» ⟨[.ref a, .str "append" tk], []⟩) Q E ⟨h, g, d, t, os⟩ := by
  have hT : (⟨h, g, d, t, os⟩ : Shared).TypeIs (.ref a) "list" := ⟨_, hx, rfl⟩
  have hT5 : (⟨h, g, d, t, os⟩ : Shared).TypeIs (.builtin "list.append") "method_descriptor" := typeOf_append
  have f4 := lk_append
  have f5 := typeOf_append
  have f6 := slot_md_get.lookup
  have f7 := lk_md_set
  have f8 := lk_md_del
  repeat (any_goals (first | assumption | wp_step))
  refine app_get hx ?_
  repeat (any_goals (first | assumption | wp_step))
theorem app_call {tk : Tok} {R : Result → Shared → Prop} (hx : h.get? a = some { cls := .type "list", data := .seq vs n }) (hq : R (.ok (.ret (.ref h.objs.size))) ⟨h.push (appObj a), g, d, t, os⟩) :
    codeAny (model prog w) A (.call (.builtin "list.__getattribute__") ⟨[.ref a, .str "append" tk], []⟩) R ⟨h, g, d, t, os⟩ :=
  codeAny_call_builtin F.slot_list_getattribute.plain F.entry_list_ga (F.slot_list_getattribute.check _ _ _ _ _ _ _ _ (show (⟨h, g, d, t, os⟩ : Shared).TypeIs (.ref a) "list" from ⟨_, hx, rfl⟩) (F.args_list_getattribute_2 _ _) (app_entry hx hq))
theorem app_by {tk : Tok} {Q : Value → Shared → Prop} (hx : h.get? a = some { cls := .type "list", data := .seq vs n }) (hq : Q (.ref h.objs.size) ⟨h.push (appObj a), g, d, t, os⟩) : wpAny (model prog w) A (getAttrBy (.ref a) (.str "append" tk) true true) Q E ⟨h, g, d, t, os⟩ := by
  have hT : (⟨h, g, d, t, os⟩ : Shared).TypeIs (.ref a) "list" := ⟨_, hx, rfl⟩
  have f2 := F.slot_list_getattribute.lookup
  have f3 := F.slot_list_getattribute.bind (.ref a)
  repeat (any_goals (first | assumption | wp_step))
  refine app_call hx ?_
  repeat (any_goals (first | assumption | wp_step))
end
section
variable {prog : Program} {w : World} {A : Around} {E : Value → Shared → Prop} {s : Shared} {h₀ : Heap} {L l : Addr} {m : Str → Option Value} {news : List (Addr × Obj)} {vs : Array Value} {n : Nat}
theorem get_append {Q : Value → Shared → Prop} (F : Fr h₀ L s.heap m) (N : News h₀ L s.heap news) (hm : (l, ({ cls := .type "list", data := .seq vs n } : Obj)) ∈ news)
    (h : ∀ b h', Fr h₀ L h' m → News h₀ L h' ((b, appObj l) :: news) → AllLt b news → Q (.ref b) { s with heap := h', toks := s.toks + 1 }) : wpAny (model prog w) A (getAttr (.ref l) "append" true) Q E s := by
  obtain ⟨hh, g, d, t, os⟩ := s
  unfold getAttr
  refine wpAny_bind (wpAny_mkText ?_)
  exact app_by (N.get hm) (h _ _ (F.push _) (News.push F N _) (allLt_of fun r hr => Heap.lt_size (N r hr).1))
def AppAt (b l : Addr) (h : Heap) : Prop := h.get? b = some (appObj l)
theorem app_at {b : Addr} {h : Heap} (N : News h₀ L h news) (hm : (b, appObj l) ∈ news) : AppAt b l h := N.get hm
theorem callWith_fieldsA {pos : Pos} {b : Addr} {first : List Value} {args : List (Bool × Sem Value)} {Q : Value → Shared → Prop} (hplain : args.any (·.1) = false)
    (h : wpAny (model prog w) A (evalArgs (.ref b) true args []) (fun x s₁ => AppAt b l s₁.heap ∧ wpAny (model prog w) A (call (.ref b) (first ++ x.pos) x.kw) Q E s₁) E s) : wpAny (model prog w) A (callWith pos (.ref b) first args []) Q E s := by
  unfold callWith
  refine wpAny_bind (wpAny_holding (wpAny_mono h (fun x s₁ h₁ => wpAny_bind (wpAny_standAt ?_)) fun _ _ x => x))
  obtain ⟨ho, hcall⟩ := h₁
  simp only [hplain, List.any_nil, Bool.or_false]
  refine wpAny_bind (m := keeperOf (.ref b)) ?_
  unfold keeperOf
  refine wpAny_bind (wpAny_load ho ?_)
  simp only [appObj, show (Value.type "builtin_function_or_method" != Value.type "method") = true by decide, show (Value.type "builtin_function_or_method" == Value.type "builtin_function_or_method" || Value.type "builtin_function_or_method" == Value.type "method-wrapper") = true by decide, if_true]
  refine wpAny_pure ?_
  exact wpAny_bind (wpAny_mono hcall (fun r s₂ hr => wpAny_bind (wpAny_holding (wpAny_point (wpAny_pure hr)))) fun _ _ x => x)
theorem callWith_app {pos : Pos} {b : Addr} {first : List Value} {env : Env} {e : Expr} {rest : List Expr} {Q : Value → Shared → Prop} (_N : News h₀ L s.heap news) (_hm : (b, appObj l) ∈ news)
    (h : wpAny (model prog w) A (spliced (backTo pos (starEach (e :: rest) env))) (fun vs s₁ => AppAt b l s₁.heap ∧ wpAny (model prog w) A (call (.ref b) (first ++ vs)) Q E s₁) E s)
    (he : starEach (e :: rest) env = (false, eval e env) :: starEach rest env := by rfl) (hplain : (backTo pos (starEach rest env)).any (·.1) = false := by rfl) :
    wpAny (model prog w) A (callWith pos (.ref b) first (backTo pos (starEach (e :: rest) env)) []) Q E s := by
  rw [he] at h ⊢
  refine callWith_fieldsA (l := l) (by show (false || (backTo pos (starEach rest env)).any (·.1)) = false; rw [hplain]; rfl) ?_
  exact evalArgs_plain h
theorem check_app {v : Value} (hl : s.heap.get? l = some { cls := .type "list", data := .seq vs n }) {Q : Unit → Shared → Prop} (h : Q () s) : wpAny (model prog w) A (checkBoundCall "list.append" ⟨[.ref l, v], []⟩) Q E s := by
  have hT : s.TypeIs (.ref l) "list" := ⟨_, hl, rfl⟩
  have hm : isSubtype (.type "list") (.type "module") = pure false := by rw [isSubtype_type]; kernel_rfl
  have ht : isSubtype (.type "list") (.type "type") = pure false := by rw [isSubtype_type]; kernel_rfl
  have hk : builtinKind "list.append" = some .method := by decide +kernel
  have hsig : Manifest.signature? "list.append" = some ⟨.oneArg, "list.append", "append", .self, [⟨"object", .posOnly, true⟩]⟩ := by
    rw [signature?_of (id := "list.append") (n := ['d', 'n', 'e', 'p', 'p', 'a']) (o := ['t', 's', 'i', 'l']) (by kernel_rfl) F.owner_list]; kernel_rfl
  unfold checkBoundCall
  rw [hsig]
  dsimp only
  rw [hk]
  dsimp only
  rw [if_neg (by decide)]
  refine wpAny_bind (wpAny_isInstance hT hm ?_)
  rw [if_neg (by decide +kernel)]
  refine wpAny_bind (m := isType (.ref l)) (wpAny_bind (wpAny_loadPart hl (wpAny_pure ?_)))
  dsimp only
  rw [if_neg (by decide)]
  refine wpAny_bind (wpAny_typeOf hT ?_)
  dsimp only
  refine wpAny_of_eq (a := ()) (by kernel_rfl) h
theorem call_app {b : Addr} {v : Value} {news' : List (Addr × Obj)} {Q : Value → Shared → Prop} (F : Fr h₀ L s.heap m) (N : News h₀ L s.heap news) (hm : (b, appObj l) ∈ news) (U : Upd l (listOf vs n) (listOf (vs.push v) (n + 1)) news news') (hsz : vs.size ≤ sizeLine)
    (h : ∀ h', Fr h₀ L h' m → News h₀ L h' news' → Q .none { s with heap := h' }) : wpAny (model prog w) A (call (.ref b) [v]) Q E s := by
  have ho := N.get hm
  refine wpAny_call (codeAny_of_tree ?_)
  show wpAny _ A.in1 (callAny (.ref b) ⟨[v], []⟩) _ _ s
  simp only [callAny]
  refine wpAny_bind (wpAny_load ho ?_)
  simp only [appObj, show (Value.type "builtin_function_or_method" == Value.type "method" || Value.type "builtin_function_or_method" == Value.type "builtin_function_or_method" || Value.type "builtin_function_or_method" == Value.type "method-wrapper") = true by decide, if_true]
  refine KFB.if_so (by decide) ?_
  obtain ⟨pre, post, e1, e2, a1, a2⟩ := U.split
  have z := N (l, listOf vs n) (by rw [e1]; exact List.mem_append.mpr (.inr (.head _)))
  refine wpAny_bind (check_app z.1 ?_)
  refine wpAny_bind (wpAny_pure (wpAny_pure ?_))
  refine ⟨Code.quiet_builtin _ (by decide +kernel), codeAny_builtin PySem.F.entry_list_append ?_⟩
  show wpAny _ _ (updateSeq l (·.push v) >>= fun _ => ret .none) _ _ s
  refine wpAny_bind ?_
  refine wpAny_updateSeq z.1 rfl (wpAny_pure (h _ ?_ ?_))
  · exact F.change (Heap.SameBut.update ..) z.2.1 z.2.2
  · rw [e2]
    refine news_set (e1 ▸ N) a1 a2 (Heap.SameBut.update ..) ?_
    rw [Heap.get?_update_self _ z.1 (by rw [mapSeq_push]; rfl), mapSeq_push]
end
end Mine

end

section
open PySem PySem.W PySem.Calls PyProof.Rows
set_option Elab.async false
set_option maxRecDepth 100000
set_option maxHeartbeats 8000000
namespace Mine
open PySem.Builtin
theorem typeCall_int_2 (a b : Value) : checkTypeCall "int" ⟨[a, b], []⟩ = pure () := by kernel_rfl
theorem newCall_int_2 (a b : Value) : checkBuiltinCall "int.__new__" ⟨[.type "int", a, b], []⟩ = pure () := by kernel_rfl
theorem args_init_3 (a b c : Value) : argsOk "object.__init__" ⟨[a, b, c], []⟩ := by
  unfold argsOk; rw [signature?_of (id := "object.__init__") (n := ['_', '_', 't', 'i', 'n', 'i', '_', '_']) (o := ['t', 'c', 'e', 'j', 'b', 'o']) (by kernel_rfl) PySem.F.owner_object]; kernel_rfl

/-- the hexadecimal texts of the writers, and their numbers -/
def hexTab : List (Array Nat × Nat) := [(#[48, 48, 48, 48], 0), (#[48, 48, 48, 49], 1), (#[48, 48, 49, 102], 31), (#[48, 48, 55, 102], 127), (#[48, 48, 101, 57], 233), (#[50, 48, 97, 99], 8364), (#[50, 48, 50, 56], 8232), (#[50, 48, 50, 57], 8233), (#[102, 102, 102, 102], 65535), (#[100, 55, 102, 102], 55295), (#[101, 48, 48, 48], 57344), (#[100, 56, 51, 100], 55357), (#[100, 101, 48, 48], 56832), (#[100, 98, 102, 102], 56319), (#[100, 102, 102, 102], 57343)]
/-- the signs behind a backslash, and what they stand for -/
def backs : List (Nat × Nat) := [(34, 34), (92, 92), (98, 8), (102, 12), (110, 10), (114, 13), (116, 9)]

theorem int_hex (u v : Nat) : ∀ z ∈ hexTab, ∀ (M : Model) (A : Around) (E : Value → Shared → Prop) (s : Shared) (Q : Fin → Shared → Prop), Q (.done (.ret (.int ((z.2 : Nat) : Int) s.toks))) { s with toks := s.toks + 1 } →
   wpAny M A (Builtin.«int.__new__» ⟨[.type "int", .str ⟨z.1⟩ u, .int 16 v], []⟩) Q E s := by
  intro z hz M A E s Q h
  simp only [hexTab, List.mem_cons, List.not_mem_nil, or_false] at hz
  unfold Builtin.«int.__new__»
  dsimp only
  refine wpAny_bind (wpAny_of_eq (a := true) rfl ?_)
  rw [if_neg (by decide)]
  refine wpAny_bind (wpAny_of_eq (a := true) PySem.F.conv_sub_int ?_)
  rw [if_neg (by decide)]
  refine wpAny_bind (wpAny_of_eq (a := ()) PySem.F.madeHere_int ?_)
  refine ev_sound (o := default) 1000 _ [] s (r := (.done (.ret (.int ((z.2 : Nat) : Int) s.toks)), s.toks + 1, [])) ?_ (fun x hx => nomatch hx) h
  rcases hz with rfl | rfl | rfl | rfl | rfl | rfl | rfl | rfl | rfl | rfl | rfl | rfl | rfl | rfl | rfl
  all_goals kernel_rfl
section
variable {prog : Program} {w : World} {A : Around} {E : Value → Shared → Prop} {s : Shared} {h₀ : Heap} {L : Addr} {m : Str → Option Value}
theorem call_hex {x : Array Nat} {n : Nat} {u v : Tok} {Q : Value → Shared → Prop} (hz : (x, n) ∈ hexTab) (h : ∀ t k, Q (.int ((n : Nat) : Int) t) { s with toks := k }) :
    wpAny (model prog w) A (call (.type "int") [.str ⟨x⟩ u, .int 16 v]) Q E s :=
  callType_new PySem.F.called_int PySem.F.newNe_int (typeCall_int_2 _ _) (newCall_int_2 _ _) (fun obj => args_init_3 _ _ _) PySem.F.entry_int_new
    (Gives.of_wp fun M A E s Q h => int_hex u v _ hz M A E s _ ⟨_, rfl, h⟩ : Gives (Builtin.«int.__new__» ⟨[.type "int", .str ⟨x⟩ u, .int 16 v], []⟩) (.int ((n : Nat) : Int))).meets (show (Made.int ((n : Nat) : Int)).post _ s from ⟨rfl, h _ _⟩)
end
end Mine

end

section
open PySem PySem.W PySem.Calls PyProof.Rows
set_option Elab.async false
set_option maxRecDepth 100000
set_option maxHeartbeats 8000000
namespace Mine
/-! The pieces of the scanner's loop. -/
/-- what stands in `X` from the place `k` on -/
structure At (X : Str) (k : Nat) (D : List Nat) : Prop where
  out : X.cps.toList.drop k = D
structure Small (X : Str) : Prop where
  out : X.length ≤ 300
theorem At.next {X : Str} {k n : Nat} {c : Nat} {D : List Nat} (h : At X k (c :: D)) (e : n = k + 1) : At X n D := by
  refine ⟨?_⟩
  rw [e, ← List.drop_drop, h.out]; rfl
theorem At.app {X : Str} {k n : Nat} {U D : List Nat} (h : At X k (U ++ D)) (e : n = k + U.length) : At X n D := by
  refine ⟨?_⟩
  rw [e, ← List.drop_drop, h.out, List.drop_left]
theorem At.sign {X : Str} {k c : Nat} {D : List Nat} (h : At X k (c :: D)) : X.cps[k]? = some c := by
  have e := congrArg (fun l => l[0]?) h.out
  simpa [List.getElem?_drop] using e
theorem At.len {X : Str} {k : Nat} {D : List Nat} (h : At X k D) (hk : k ≤ X.length) : k + D.length = X.length := by
  have e := congrArg List.length h.out
  rw [List.length_drop, Array.length_toList] at e
  unfold Str.length at hk ⊢
  omega
theorem At.le {X : Str} {k c : Nat} {D : List Nat} (h : At X k (c :: D)) : k + D.length + 1 = X.length := by
  have e := congrArg List.length h.out
  rw [List.length_drop, Array.length_toList, List.length_cons] at e
  unfold Str.length
  omega
theorem slice_is {X : Str} {k a b : Nat} {D u : List Nat} {i j : Int} (h : At X k D) (hi : i = ((k + a : Nat) : Int)) (hj : j = ((k + a + b : Nat) : Int)) (hu : (D.drop a).take b = u) (hl : k + a + b ≤ X.length) : Txt.slice X (some i) (some j) = ⟨u.toArray⟩ := by
  subst hi hj
  have e := eq_of_beq (slice_closes (x := X) (i := ((k + a : Nat) : Int)) (j := ((k + a + b : Nat) : Int)) ⟨by omega, by omega, by rw [Array.length_toList]; unfold Str.length at hl; omega⟩)
  rw [e, ← hu, ← h.out, List.drop_drop]
  congr 2
  rw [show ((((k + a + b : Nat) : Int) - ((k + a : Nat) : Int)).toNat) = b by omega, Int.toNat_natCast]

section
variable {prog : Program} {w : World} {A : Around} {E : Value → Shared → Prop} {s : Shared} {h₀ : Heap} {L : Addr} {m : Str → Option Value}
theorem sub_sign {X : Str} {k c : Nat} {D : List Nat} {i : Int} {t u : Tok} {value slice : Expr} {Q : Value → Shared → Prop} (h : At X k (c :: D)) (hS : Small X) (hi : i = ((k : Nat) : Int)) (hQ : ∀ t' tk, Q (.str ⟨#[c]⟩ t') { s with toks := tk })
    (hs : subscripted slice false (.str X t) (.int i u) = operate [.str X t, .int i u] (getItem (.str X t) (.int i u)) := by with_unfolding_all rfl) (ht : ∀ r, letTemporaryGo value (.str X t) r = pure () := by intro _; with_unfolding_all rfl) :
    wpAny (model prog w) A (subscriptTail value slice (.str X t) (.int i u)) Q E s := by
  have hl := h.le
  have hS := hS.out
  refine subscriptTail_builtin (typeIs_str _ _ _) PySem.F.slot_str_getitem.lookup (P.getItem_str (c := c) ?_ ?_ (hQ _ _)) hs ht
  · simp only [Bool.or_eq_false_iff, decide_eq_false_iff_not]; omega
  · subst hi
    have e : seqIndex? ((k : Nat) : Int) X.length = some k := by
      unfold seqIndex?
      simp
      omega
    rw [e]
    exact h.sign
theorem eqs_to {x y : Str} {t u : Tok} {b : Bool} {Q : Value → Shared → Prop} (e : (x == y) = b) (h : Q (.bool b) s) : wpAny (model prog w) A (compareOp .Eq (.str x t) (.str y u)) Q E s :=
  PyProof.Rows.eq_str (by rw [e]; exact h)
theorem nes_to {x y : Str} {t u : Tok} {b : Bool} {Q : Value → Shared → Prop} (e : (x == y) = b) (h : Q (.bool !b) s) : wpAny (model prog w) A (compareOp .NotEq (.str x t) (.str y u)) Q E s :=
  PyProof.Rows.ne_str (by rw [bne, e]; exact h)
theorem eqi_to {a c : Int} {t u : Tok} {b : Bool} {Q : Value → Shared → Prop} (e : (a == c) = b) (h : Q (.bool b) s) : wpAny (model prog w) A (compareOp .Eq (.int a t) (.int c u)) Q E s :=
  PyProof.Rows.eq_int (by rw [e]; exact h)
theorem nei_to {a c : Int} {t u : Tok} {b : Bool} {Q : Value → Shared → Prop} (e : (a == c) = b) (h : Q (.bool !b) s) : wpAny (model prog w) A (compareOp .NotEq (.int a t) (.int c u)) Q E s :=
  PyProof.Rows.ne_int (by rw [bne, e]; exact h)
theorem chr_to {i : Int} {c : Nat} {t : Tok} {Q : Value → Shared → Prop} (e : i = (c : Int)) (hc : c ≤ 1114111) (h : ∀ t' k, Q (.str ⟨#[c]⟩ t') { s with toks := k }) : wpAny (model prog w) A (call (.builtin "chr") [.int i t]) Q E s := by
  subst e
  exact P.chr_of_int (by simp only [Bool.or_eq_false_iff, decide_eq_false_iff_not]; omega) (h _ _)
theorem truthy_to {x : Str} {t : Tok} {b : Bool} {Q : Bool → Shared → Prop} (hx : x.length ≤ 300) (e : ((x.length : Int) != 0) = b) (h : ∀ k, Q b { s with toks := k }) : wpAny (model prog w) A (truthy (.str x t)) Q E s :=
  P.truthy_str (by omega) (by rw [e]; exact h _)
end

/-- the pieces so far make the signs `U` -/
def Chunks (vs : Array Value) (U : List Nat) (k : Nat) : Prop := ∃ ys, StrsAre vs.toList ys ∧ (ys.flatMap fun x => x.cps.toList) = U ∧ vs.size ≤ k
theorem Chunks.nil : Chunks #[] [] 0 := ⟨[], .nil, rfl, Nat.le_refl _⟩
theorem Chunks.push {vs : Array Value} {U : List Nat} {k : Nat} {x : Str} {t : Tok} (h : Chunks vs U k) : Chunks (vs.push (.str x t)) (U ++ x.cps.toList) (k + 1) := by
  obtain ⟨ys, hy, e, hk⟩ := h
  refine ⟨ys ++ [x], by rw [Array.toList_push]; exact kct_snoc hy, by rw [List.flatMap_append, e]; simp, by rw [Array.size_push]; omega⟩
theorem Chunks.more {vs : Array Value} {U : List Nat} {k k' : Nat} (h : Chunks vs U k) (hk : k ≤ k') : Chunks vs U k' := by
  obtain ⟨ys, hy, e, hz⟩ := h
  exact ⟨ys, hy, e, by omega⟩
theorem sum_flat : ∀ ys : List Str, (ys.map (·.length)).sum = (ys.flatMap fun x => x.cps.toList).length
  | [] => rfl
  | y :: r => by rw [List.map_cons, List.sum_cons, List.flatMap_cons, List.length_append, sum_flat r, Array.length_toList]; rfl
section
variable {prog : Program} {w : World} {A : Around} {E : Value → Shared → Prop} {s : Shared}
theorem join_chunks {D : Addr} {vs : Array Value} {U : List Nat} {k : Nat} {t : Tok} {Q : Value → Shared → Prop} (hl : s.heap.IsList D vs) (h : Chunks vs U k) (hU : U.length ≤ 300)
    (hQ : ∀ t' tk, Q (.str ⟨U.toArray⟩ t') { s with toks := tk }) : wpAny (model prog w) A (call (.builtin "str.join") [.str (Str.ofString "") t, .ref D]) Q E s := by
  obtain ⟨ys, hy, e, hk⟩ := h
  refine join_list hl hy ?_ fun t' k => ?_
  · rw [sum_flat, e, show (Str.ofString "").length = 0 by decide +kernel]; omega
  · have e2 : Txt.join (Str.ofString "") ys = ⟨U.toArray⟩ := by
      have e3 := glued_cps ys
      rw [e] at e3
      have e4 : (Txt.join (Str.ofString "") ys).cps = U.toArray := by rw [← e3]
      cases hj : Txt.join (Str.ofString "") ys with
      | mk c => rw [hj] at e4; rw [← e4]
    rw [e2]
    exact hQ _ _
end

/-! The tokens that the writers print, one for a sign. -/
theorem hex_four : ∀ z ∈ hexTab, ∃ a b c d, z.1 = #[a, b, c, d] ∧ ((⟨[b].toArray⟩ : Str) == Str.ofString "x") = false ∧ ((⟨[b].toArray⟩ : Str) == Str.ofString "X") = false := by
  intro z hz
  simp only [hexTab, List.mem_cons, List.not_mem_nil, or_false] at hz
  rcases hz with rfl | rfl | rfl | rfl | rfl | rfl | rfl | rfl | rfl | rfl | rfl | rfl | rfl | rfl | rfl <;> exact ⟨_, _, _, _, rfl, by decide +kernel, by decide +kernel⟩
def isHigh (n : Nat) : Bool := (Builtin.bitAnd ((n : Nat) : Int) 64512) == 55296
def isLow (n : Nat) : Bool := (Builtin.bitAnd ((n : Nat) : Int) 64512) == 56320
inductive Tk (E : List Nat) (c : Nat) : Prop
  | plain (h : E = [c]) (hs : isSp c = false)
  | quote (h : E = [39]) (hc : c = 39)
  | back (e : Nat) (h : E = [92, e]) (hb : (e, c) ∈ backs)
  | hex (x : Array Nat) (hx : (x, c) ∈ hexTab) (h : E = 92 :: 117 :: x.toList) (hs : isHigh c = false)
  | pair (x y : Array Nat) (n k : Nat) (hx : (x, n) ∈ hexTab) (hy : (y, k) ∈ hexTab) (h : E = 92 :: 117 :: (x.toList ++ 92 :: 117 :: y.toList)) (hs : isHigh n = true) (hl : isLow k = true) (hc : (65536 + Builtin.bitOr (((n : Int) - 55296) * 2 ^ 10) ((k : Int) - 56320) : Int) = (c : Int))
def tkB (E : List Nat) (c : Nat) : Bool :=
  (E == [c] && !isSp c) || (E == [39] && c == 39) || (backs.any fun p => E == [92, p.1] && p.2 == c) || (hexTab.any fun z => E == 92 :: 117 :: z.1.toList && z.2 == c && !isHigh c) ||
  (hexTab.any fun z => hexTab.any fun y => E == 92 :: 117 :: (z.1.toList ++ 92 :: 117 :: y.1.toList) && isHigh z.2 && isLow y.2 && (65536 + Builtin.bitOr (((z.2 : Int) - 55296) * 2 ^ 10) ((y.2 : Int) - 56320) : Int) == (c : Int))
theorem tk_of {E : List Nat} {c : Nat} (h : tkB E c = true) : Tk E c := by
  unfold tkB at h
  simp only [Bool.or_eq_true, Bool.and_eq_true, Bool.not_eq_true', List.any_eq_true, beq_iff_eq] at h
  rcases h with (((⟨h1, h2⟩ | ⟨h1, h2⟩) | ⟨p, hp, h1, h2⟩) | ⟨z, hz, ⟨h1, h2⟩, h3⟩) | ⟨z, hz, y, hy, ⟨⟨h1, h2⟩, h3⟩, h4⟩
  · exact .plain h1 h2
  · exact .quote h1 h2
  · exact .back p.1 h1 (by rw [← h2]; exact hp)
  · exact .hex z.1 (by rw [← h2]; exact hz) h1 h3
  · exact .pair z.1 y.1 z.2 y.2 hz hy h1 h2 h3 h4
theorem tk_asc : ∀ c ∈ codes, tkB (ascF c).cps.toList c = true := by decide +kernel
theorem tk_plain : ∀ c ∈ codes, tkB (plainF c).cps.toList c = true := by decide +kernel
end Mine

end

section
open PySem PySem.W PySem.Calls PyProof.Rows
set_option Elab.async false
set_option maxRecDepth 100000
set_option maxHeartbeats 8000000
namespace Mine
/-- the pattern goes from `p` over the plain signs `pre` to the sign `c` at `q`, and `D` stands behind it -/
structure Go (X : Str) (p q : Nat) (pre : List Nat) (c : Nat) (D : List Nat) : Prop where
  le : p ≤ q
  lt : q < X.cps.size
  small : Small X
  here : At X q (c :: D)
  sp : isSp c = true
  run : ∀ j, p ≤ j → j < q → isSp (X.cps.getD j 0) = false
  ext : X.cps.extract p q = pre.toArray
  last : X.cps.extract q (q + 1) = [c].toArray
  behind : At X (q + 1) D
theorem extract_at {X : Str} {p n : Nat} {U D : List Nat} (h : At X p (U ++ D)) (e : n = U.length) : X.cps.extract p (p + n) = U.toArray := by
  apply Array.toList_inj.mp
  rw [Array.toList_extract, List.extract_eq_take_drop, h.out, e, Nat.add_sub_cancel_left, List.take_left]
theorem Go.of {X : Str} {p q : Nat} {pre : List Nat} {c : Nat} {D : List Nat} (h : At X p (pre ++ c :: D)) (hq : q = p + pre.length) (hp : ∀ x ∈ pre, isSp x = false) (hs : isSp c = true) (hS : Small X) : Go X p q pre c D := by
  subst hq
  have h1 : At X (p + pre.length) (c :: D) := h.app rfl
  have h2 := h1.le
  refine ⟨by omega, by unfold Str.length at h2; omega, hS, h1, hs, ?_, extract_at h rfl, extract_at (U := [c]) h1 rfl, h1.next rfl⟩
  intro j hj hj2
  have e : X.cps.toList[j]? = pre[j - p]? := by
    have e1 := congrArg (fun l => l[j - p]?) h.out
    simp only [List.getElem?_drop] at e1
    rw [show p + (j - p) = j by omega] at e1
    rw [e1, List.getElem?_append_left (by omega)]
  have e2 : pre[j - p]? = some (pre[j - p]'(by omega)) := List.getElem?_eq_getElem _
  rw [Array.getD_eq_getD_getElem?, ← Array.getElem?_toList, e, e2]
  exact hp _ (List.getElem_mem _)
/-- a token that does not begin as a plain sign -/
inductive TkS (E : List Nat) (c : Nat) : Prop
  | quote (h : E = [39]) (hc : c = 39)
  | back (e : Nat) (h : E = [92, e]) (hb : (e, c) ∈ backs)
  | hex (x : Array Nat) (hx : (x, c) ∈ hexTab) (h : E = 92 :: 117 :: x.toList) (hs : isHigh c = false)
  | pair (x y : Array Nat) (n k : Nat) (hx : (x, n) ∈ hexTab) (hy : (y, k) ∈ hexTab) (h : E = 92 :: 117 :: (x.toList ++ 92 :: 117 :: y.toList)) (hs : isHigh n = true) (hl : isLow k = true) (hc : (65536 + Builtin.bitOr (((n : Int) - 55296) * 2 ^ 10) ((k : Int) - 56320) : Int) = (c : Int))
theorem Tk.two {E : List Nat} {c : Nat} (h : Tk E c) : (E = [c] ∧ isSp c = false) ∨ TkS E c := by
  cases h with
  | plain h hs => exact .inl ⟨h, hs⟩
  | quote h hc => exact .inr (.quote h hc)
  | back e h hb => exact .inr (.back e h hb)
  | hex x hx h hs => exact .inr (.hex x hx h hs)
  | pair x y n k hx hy h hs hl hc => exact .inr (.pair x y n k hx hy h hs hl hc)
theorem split_plain {G : Nat → List Nat} : ∀ l : List Nat, (∀ c ∈ l, Tk (G c) c) → ∃ pre more, l = pre ++ more ∧ pre.flatMap G = pre ∧ (∀ c ∈ pre, isSp c = false) ∧ (more = [] ∨ ∃ c r, more = c :: r ∧ TkS (G c) c)
  | [], _ => ⟨[], [], rfl, rfl, (fun _ h => nomatch h), .inl rfl⟩
  | c :: l, h => by
    rcases (h c (.head _)).two with ⟨e, hs⟩ | ht
    · obtain ⟨pre, more, e1, e2, e3, e4⟩ := split_plain l fun d hd => h d (.tail _ hd)
      refine ⟨c :: pre, more, by rw [e1]; rfl, by rw [List.flatMap_cons, e, e2]; rfl, ?_, e4⟩
      intro d hd
      rcases List.mem_cons.mp hd with rfl | hd
      · exact hs
      · exact e3 d hd
    · exact ⟨[], c :: l, rfl, rfl, (fun _ h => nomatch h), .inr ⟨c, l, rfl, ht⟩⟩
section
variable {prog : Program} {w : World} {A : Around} {E : Value → Shared → Prop} {s : Shared} {h₀ : Heap} {L : Addr} {m : Str → Option Value} {news : List (Addr × Obj)}
theorem match_go {X : Str} {t u : Tok} {p q : Nat} {pre D : List Nat} {c : Nat} {i : Int} {Q : Value → Shared → Prop} (g : Go X p q pre c D) (hi : i = (p : Int)) (F : Fr h₀ L s.heap m) (K : (hd.heap_39 w.params).In h₀) (N : News h₀ L s.heap news)
    (h : ∀ T Mo h', Fr h₀ L h' m → News h₀ L h' ((Mo, matObj X t p T) :: (T, spanObj p q) :: news) → AllLt T news → @LT.lt Nat _ T Mo → Q (.ref Mo) { s with heap := h' }) :
    wpAny (model prog w) A (call (.builtin "re.Pattern.match") [.ref 87, .str X t, .int i u]) Q E s := by
  subst hi
  have hS := g.small.out
  unfold Str.length at hS
  refine call_match F K N g.le g.lt (by omega) ?_ g.run h
  rw [Array.getD_eq_getD_getElem?, g.here.sign]
  exact g.sp
theorem groups_go {X : Str} {t : Tok} {p q : Nat} {pre D : List Nat} {c : Nat} {T Mo : Addr} {Q : Value → Shared → Prop} (g : Go X p q pre c D) (F : Fr h₀ L s.heap m) (N : News h₀ L s.heap news) (hm : (Mo, matObj X t p T) ∈ news) (hT : (T, spanObj p q) ∈ news)
    (h : ∀ G h' t1 t2 tk, Fr h₀ L h' m → News h₀ L h' ((G, { cls := .type "tuple", data := .seq [.str ⟨pre.toArray⟩ t1, .str ⟨[c].toArray⟩ t2].toArray }) :: news) → AllLt G news → Q (.ref G) { s with heap := h', toks := tk }) :
    wpAny (model prog w) A (call (.builtin "re.Match.groups") [.ref Mo]) Q E s := by
  have hS := g.small.out
  unfold Str.length at hS
  refine call_groups F N hm hT (by omega) fun G h' t1 t2 tk F' N' l => ?_
  rw [g.ext, g.last] at N'
  exact h G h' t1 t2 tk F' N' l
theorem end_go {X : Str} {t : Tok} {p q : Nat} {pre D : List Nat} {c : Nat} {T Mo : Addr} {Q : Value → Shared → Prop} (_g : Go X p q pre c D) (N : News h₀ L s.heap news) (hm : (Mo, matObj X t p T) ∈ news) (hT : (T, spanObj p q) ∈ news)
    (h : ∀ t', Q (.int ((q + 1 : Nat) : Int) t') { s with toks := s.toks + 1 }) : wpAny (model prog w) A (call (.builtin "re.Match.end") [.ref Mo]) Q E s := call_end N hm hT h

def backHit (e c : Nat) : Bool := match Spec.lookup (.str (one e)) (backD.map fun p => (PyData.str p.1, p.2)) with | some d => isStr d (one c) | none => false
theorem back_hit : ∀ p ∈ backs, backHit p.1 p.2 = true := by decide +kernel
theorem sub_back {e c : Nat} {t : Tok} {value slice : Expr} {Q : Value → Shared → Prop} (hb : (e, c) ∈ backs) (F : Fr h₀ L s.heap m) (X : (hd.heap_39 w.params).In h₀)
    (hyes : ∀ t', Q (.str ⟨#[c]⟩ t') { s with toks := s.toks + 1 })
    (hs : subscripted slice false (.ref 88) (.str ⟨#[e]⟩ t) = operate [.ref 88, .str ⟨#[e]⟩ t] (getItem (.ref 88) (.str ⟨#[e]⟩ t)) := by with_unfolding_all rfl) :
    wpAny (model prog w) A (subscriptTail value slice (.ref 88) (.str ⟨#[e]⟩ t)) Q E s := by
  have T := back_tab (prog := prog) (w := w) (X.keeps F.keep)
  have hty : s.TypeIs (.ref 88) "dict" := by
    obtain ⟨_, kvs, hd, _⟩ := T
    exact hd.mapOf.typeIs
  refine tail_any hty slot_dict_getitem.lookup ?_ hs
  have h1 := back_hit _ hb
  unfold backHit at h1
  cases hl : Spec.lookup (.str (one e)) (backD.map fun p => (PyData.str p.1, p.2)) with
  | none => dsimp only at h1; rw [hl] at h1; cases h1
  | some d =>
    dsimp only at h1; rw [hl] at h1
    refine getItem_tab PyProof.V.same_str (strKind_is prog w (one e) t) T hl fun v hv => ?_
    rw [isStr_eq h1] at hv
    obtain ⟨t', rfl⟩ := PyProof.V.Flat.str_inv hv
    exact hyes t'
theorem back_not_u : ∀ p ∈ backs, ((⟨#[p.1]⟩ : Str) == Str.ofString "u") = false := by decide +kernel
end
/-- the walk stands here -/
def Stop (P : Prop) : Prop := P
theorem stop_here {P : Prop} (h : Stop P) : P := h
theorem Stop.out {P : Prop} (h : P) : Stop P := h
/-- what the loop of the scanner carries -/
structure Sc where
  p : Nat
  tp : Tok
  vs : Array Value
  n : Nat
  U : List Nat
  l : List Nat
def ScP (X : Str) (T R : List Nat) (G : Nat → List Nat) (c : Sc) : Prop := Chunks c.vs c.U (2 * (T.length - c.l.length)) ∧ c.U ++ c.l = T ∧ At X c.p (c.l.flatMap G ++ 34 :: R)
end Mine
namespace Mine
/-- which token stands behind the plain signs, and what stands behind it -/
inductive Alt (G : Nat → List Nat) (R : List Nat) (more : List Nat) (ch : Nat) (D : List Nat) : Prop
  | fin (hm : more = []) (hc : ch = 34) (hD : D = R)
  | quote (r : List Nat) (hm : more = 39 :: r) (hc : ch = 39) (hD : D = r.flatMap G ++ 34 :: R)
  | back (e c : Nat) (r : List Nat) (hm : more = c :: r) (hc : ch = 92) (hD : D = e :: (r.flatMap G ++ 34 :: R)) (hb : (e, c) ∈ backs)
  | hex (x y z v c : Nat) (r : List Nat) (hm : more = c :: r) (hc : ch = 92) (hD : D = 117 :: x :: y :: z :: v :: (r.flatMap G ++ 34 :: R)) (hx : (#[x, y, z, v], c) ∈ hexTab) (h1 : ((⟨[y].toArray⟩ : Str) == Str.ofString "x") = false) (h2 : ((⟨[y].toArray⟩ : Str) == Str.ofString "X") = false) (hs : isHigh c = false)
  | pair (x y z v x' y' z' v' n k c : Nat) (r : List Nat) (hm : more = c :: r) (hc : ch = 92) (hD : D = 117 :: x :: y :: z :: v :: 92 :: 117 :: x' :: y' :: z' :: v' :: (r.flatMap G ++ 34 :: R)) (hx : (#[x, y, z, v], n) ∈ hexTab) (h1 : ((⟨[y].toArray⟩ : Str) == Str.ofString "x") = false) (h2 : ((⟨[y].toArray⟩ : Str) == Str.ofString "X") = false) (hy : (#[x', y', z', v'], k) ∈ hexTab) (h3 : ((⟨[y'].toArray⟩ : Str) == Str.ofString "x") = false) (h4 : ((⟨[y'].toArray⟩ : Str) == Str.ofString "X") = false)
    (hs : isHigh n = true) (hl : isLow k = true) (hc : (65536 + Builtin.bitOr (((n : Int) - 55296) * 2 ^ 10) ((k : Int) - 56320) : Int) = (c : Int))
theorem alt_of {G : Nat → List Nat} {R more : List Nat} (h : more = [] ∨ ∃ c r, more = c :: r ∧ TkS (G c) c) : ∃ ch D, isSp ch = true ∧ more.flatMap G ++ 34 :: R = ch :: D ∧ Alt G R more ch D := by
  rcases h with rfl | ⟨c, r, rfl, hc⟩
  · exact ⟨34, R, by decide, rfl, .fin rfl rfl rfl⟩
  · rw [List.flatMap_cons]
    cases hc with
    | quote h hc => subst hc; exact ⟨39, _, by decide, by rw [h]; rfl, .quote r rfl rfl rfl⟩
    | back e h hb => exact ⟨92, _, by decide, by rw [h]; rfl, .back e c r rfl rfl rfl hb⟩
    | hex x hx h hs =>
      obtain ⟨a, b, d, e, he, h1, h2⟩ := hex_four _ hx
      dsimp only at he
      subst he
      exact ⟨92, _, by decide, by rw [h]; rfl, .hex a b d e c r rfl rfl rfl hx h1 h2 hs⟩
    | pair x y n k hx hy h hs hl hc =>
      obtain ⟨a, b, d, e, he, h1, h2⟩ := hex_four _ hx
      obtain ⟨a', b', d', e', he', h1', h2'⟩ := hex_four _ hy
      dsimp only at he he'
      subst he he'
      exact ⟨92, _, by decide, by rw [h]; rfl, .pair a b d e a' b' d' e' n k c r rfl rfl rfl hx h1 h2 hy h1' h2' hs hl hc⟩
/-- the chunks after the plain signs are laid to them -/
def AppPost (h₀ : Heap) (L : Addr) (m : Str → Option Value) (NW : Array Value → Nat → List (Addr × Obj)) (U : List Nat) (k : Nat) (s : Shared) (f : Flow) (s' : Shared) : Prop :=
  f = .next ∧ ∃ vs n h' tk', s' = { s with heap := h', toks := tk' } ∧ Fr h₀ L h' m ∧ News h₀ L h' (NW vs n) ∧ Chunks vs U k
theorem AppPost.of {h₀ h' : Heap} {L : Addr} {m : Str → Option Value} {NW : Array Value → Nat → List (Addr × Obj)} {U : List Nat} {k tk' : Nat} {s : Shared} {vs : Array Value} {n : Nat} (F : Fr h₀ L h' m) (N : News h₀ L h' (NW vs n)) (C : Chunks vs U k) :
    AppPost h₀ L m NW U k s .next { s with heap := h', toks := tk' } := ⟨rfl, vs, n, h', tk', rfl, F, N, C⟩
end Mine
namespace Mine
theorem app_step {prog : Program} {w : World} {A : Around} {E : Value → Shared → Prop} {Q : Flow → Shared → Prop} {s : Shared} {env : Env} {st : Stmt} {h₀ : Heap} {L : Addr} {m : Str → Option Value} (NW : Array Value → Nat → List (Addr × Obj)) (U : List Nat) (k : Nat) {vs : Array Value} {n : Nat}
    (_F : Fr h₀ L s.heap m) (_N : News h₀ L s.heap (NW vs n)) (h : wpAny (model prog w) A (exec st env) (AppPost h₀ L m NW U k s) E s)
    (hq : ∀ vs' n' h' tk', Fr h₀ L h' m → News h₀ L h' (NW vs' n') → Chunks vs' U k → Q .next { s with heap := h', toks := tk' }) : wpAny (model prog w) A (exec st env) Q E s := by
  refine wpAny_mono h (fun f s' hp => ?_) fun _ _ x => x
  obtain ⟨rfl, vs', n', h', tk', rfl, F, N, C⟩ := hp
  exact hq vs' n' h' tk' F N C
end Mine
namespace Mine
/-- while this stands, the walk stops at the test of a name -/
structure Mark : Prop where
end Mine
namespace Mine
theorem len_cons {c : Nat} {r : List Nat} : (((⟨(c :: r).toArray⟩ : Str).length : Int) != 0) = true := by
  show (((c :: r).toArray.size : Int) != 0) = true
  rw [List.size_toArray, List.length_cons]
  simp only [bne_iff_ne, ne_eq]
  omega
theorem Chunks.room {vs : Array Value} {U : List Nat} {k : Nat} (h : Chunks vs U k) (hk : k ≤ 100) : vs.size ≤ sizeLine := by
  obtain ⟨_, _, _, hz⟩ := h
  rw [sizeLine_eq]; omega
end Mine
namespace Mine
theorem Chunks.push1 {vs : Array Value} {U : List Nat} {k c : Nat} {t : Tok} (h : Chunks vs U k) : Chunks (vs.push (.str ⟨#[c]⟩ t)) (U ++ [c]) (k + 1) := h.push (x := ⟨#[c]⟩)
theorem mem3 {α : Type} {a b c : α} {l : List α} (ha : a ∈ l) (hb : b ∈ l) (hc : c ∈ l) : ∀ p ∈ [a, b, c], p ∈ l := by
  intro p hp
  simp only [List.mem_cons, List.not_mem_nil, or_false] at hp
  rcases hp with rfl | rfl | rfl <;> assumption
end Mine
namespace Mine
def scStored : List Str := [Str.ofString "chunk", Str.ofString "content", Str.ofString "terminator", Str.ofString "msg", Str.ofString "esc", Str.ofString "char", Str.ofString "escX", Str.ofString "uni", Str.ofString "esc2", Str.ofString "uni2"]
end Mine
namespace Mine
theorem kst_same {u m₀ : Str → Option Value} {st : List Str} {x z : Str} {v : Value} (h2 : z ≠ x) (h3 : st.contains z = false) : kstB (fun z => if st.contains z then u z else m₀ z) [(x, v)] z = m₀ z := by
  show (if z = x then some v else if st.contains z then u z else m₀ z) = m₀ z
  rw [if_neg h2, h3]; rfl
theorem sc_ne {z : Str} (h : scStored.contains z = false) : z ≠ Str.ofString "chunk" ∧ z ≠ Str.ofString "content" ∧ z ≠ Str.ofString "terminator" ∧ z ≠ Str.ofString "msg" ∧ z ≠ Str.ofString "esc" ∧ z ≠ Str.ofString "char" ∧ z ≠ Str.ofString "escX" ∧ z ≠ Str.ofString "uni" ∧ z ≠ Str.ofString "esc2" ∧ z ≠ Str.ofString "uni2" := by
  simpa only [scStored, List.contains_cons, List.contains_nil, Bool.or_false, Bool.or_eq_false_iff, beq_eq_false_iff_ne, ne_eq] using h
theorem sc_close {h₀ h : Heap} {L b D d₁ : Addr} {o₁ : Obj} {s : Shared} {m₀ m' : Str → Option Value} {X : Str} {T R U' r : List Nat} {G : Nat → List Nat} {c : Sc} {tk p' k n' : Nat} {tp' : Tok} {vs' : Array Value} {news' : List (Addr × Obj)} {u : Str → Option Value} {v : Value} {h1 : Heap}
    (_F0 : Fr h₀ L h1 (kstB (fun z => if scStored.contains z then u z else m₀ z) [(Str.ofString "end", v)]))
    (F : Fr h₀ L h m') (N : News h₀ L h news') (hb : (b, appObj D) ∈ news') (hD : (D, listOf vs' n') ∈ news') (hd : (d₁, o₁) ∈ news') (C : Chunks vs' U' k) (hk : k ≤ 2 * (T.length - r.length)) (hU : U' ++ r = T) (hA : At X p' (r.flatMap G ++ 34 :: R))
    (he : m' (Str.ofString "end") = some (.int ((p' : Nat) : Int) tp')) (hs : ∀ z, z ≠ Str.ofString "end" → (z ≠ Str.ofString "chunk" ∧ z ≠ Str.ofString "content" ∧ z ≠ Str.ofString "terminator" ∧ z ≠ Str.ofString "msg" ∧ z ≠ Str.ofString "esc" ∧ z ≠ Str.ofString "char" ∧ z ≠ Str.ofString "escX" ∧ z ≠ Str.ofString "uni" ∧ z ≠ Str.ofString "esc2" ∧ z ≠ Str.ofString "uni2") → m' z = kstB (fun z => if scStored.contains z then u z else m₀ z) [(Str.ofString "end", v)] z) (hl : r.length < c.l.length) :
    KswEnd h₀ L s (fun c : Sc => [(b, appObj D), (D, listOf c.vs c.n), (d₁, o₁)]) (fun c => [(Str.ofString "end", .int ((c.p : Nat) : Int) c.tp)]) (fun _ => True) scStored m₀ (ScP X T R G) (fun c => c.l.length) c { s with heap := h, toks := tk } :=
  ksw_end (σ := Sc) ⟨p', tp', vs', n', U', r⟩ F N (mem3 hb hD hd) trivial (fun q hq => by rcases List.mem_singleton.mp hq with rfl; exact he) (fun z h2 h3 => (hs z (h2 _ (List.Mem.head _)) (sc_ne h3)).trans (kst_same (h2 _ (List.Mem.head _)) h3)) ⟨C.more hk, hU, hA⟩ hl
end Mine
namespace Mine
structure Kept (P : Prop) : Prop where
  out : P
end Mine
namespace Mine
theorem At.lit {l : List Nat} : At ⟨l.toArray⟩ 0 l := ⟨rfl⟩
theorem hex_le : ∀ z ∈ hexTab, z.2 ≤ 1114111 := by decide +kernel
section
variable {prog : Program} {w : World} {A : Around} {E : Value → Shared → Prop} {s : Shared} {h₀ : Heap} {L : Addr} {m : Str → Option Value} {news : List (Addr × Obj)}
theorem slice_go {X : Str} {k : Nat} (a b : Nat) {D u : List Nat} {i j : Int} {t ui uj : Tok} {value slice : Expr} {Q : Value → Shared → Prop} (h : At X k D) (hi : i = ((k + a : Nat) : Int)) (hj : j = ((k + a + b : Nat) : Int)) (hu : (D.drop a).take b = u) (hl : k + a + b ≤ X.length) (hS : X.length ≤ 300)
    (F : Fr h₀ L s.heap m) (N : News h₀ L s.heap news) (hQ : ∀ h' t' tk, Fr h₀ L h' m → News h₀ L h' news → Q (.str ⟨u.toArray⟩ t') { s with heap := h', toks := tk })
    (hs : subscripted slice false (.str X t) (.ref s.heap.objs.size) = operate [.ref s.heap.objs.size, .str X t] (getItem (.str X t) (.ref s.heap.objs.size)) := by with_unfolding_all rfl)
    (ht : ∀ r, letTemporaryGo value (.str X t) r = pure () := by intro _; with_unfolding_all rfl) :
    wpAny (model prog w) A (subscriptTail value slice (.str X t) (.ref s.heap.objs.size)) Q E { s with heap := s.heap.push { cls := .type "slice", data := .fields #[.int i ui, .int j uj, .none] } } := by
  refine slice_strN_ss F N (fun h' t' k' F' N' => ?_) hs ht (by rw [sizeLine_eq]; omega)
  rw [slice_is h hi hj hu hl]
  exact hQ h' t' k' F' N'
end
end Mine
namespace Mine
theorem len_to {prog : Program} {w : World} {A : Around} {E : Value → Shared → Prop} {s : Shared} {x : Str} {n : Nat} {t : Tok} {Q : Value → Shared → Prop} (e : x.length = n) (hn : n ≤ 300) (h : ∀ t' k, Q (.int ((n : Nat) : Int) t') { s with toks := k }) : wpAny (model prog w) A (call (.builtin "len") [.str x t]) Q E s := by
  subst e
  exact P.len_str (by omega) (h _ _)
end Mine
namespace Mine
def pairB (n k : Nat) : Bool := (65536 + Builtin.bitOr (((n : Int) - 55296) * 2 ^ 10) ((k : Int) - 56320) : Int) ≤ 1114111 || !isHigh n || !isLow k
theorem pair_all : ∀ z ∈ hexTab, ∀ y ∈ hexTab, pairB z.2 y.2 = true := by decide +kernel
theorem pair_le {n k c : Nat} {a b : Array Nat} (hx : (a, n) ∈ hexTab) (hy : (b, k) ∈ hexTab) (hs : isHigh n = true) (hl : isLow k = true) (hc : (65536 + Builtin.bitOr (((n : Int) - 55296) * 2 ^ 10) ((k : Int) - 56320) : Int) = (c : Int)) : c ≤ 1114111 := by
  have h := pair_all _ hx _ hy
  dsimp only at h
  unfold pairB at h
  rw [hc, hs, hl] at h
  simp only [Bool.not_true, Bool.or_false, decide_eq_true_eq] at h
  omega
end Mine
namespace Mine
theorem shift_ok {n : Nat} (h : n ≤ 1114111) : (((n : Nat) : Int) - 55296).natAbs < 2 ^ 64 := by omega
end Mine

end

section
open PySem PySem.W PySem.Calls PyProof.Rows
set_option Elab.async false
set_option maxRecDepth 100000
set_option maxHeartbeats 8000000
namespace Mine
local macro_rules | `(tactic| k_room) => `(tactic| ktr_room)
local macro_rules | `(tactic| k_units) => `(tactic| ktr_units)
local macro_rules | `(tactic| walk_at "getAttr ref true") => `(tactic| (k_here; (with_reducible show wpAny _ _ (getAttr (Value.ref _) "append" true) _ _ _); k_dflt (refine' get_append ?F ?N ?m ?_; (case F => k_asm); (case N => k_asm); (case m => k_mem)); intro b9 h9 F9 N9 l9; (try simp only [AllLt, List.cons_append, List.nil_append, and_true] at l9); (try dsimp only)))
local macro_rules | `(tactic| walk_at "getMethod ref") => `(tactic| (k_here; k_dflt (first
  | ((with_reducible show wpAny _ _ (getMethod (Value.ref 87) "match" _) _ _ _); refine' get_match ?F ?X ?_; (case F => k_asm); (case X => k_asm))
  | ((with_reducible show wpAny _ _ (getMethod (Value.ref _) "end" _) _ _ _); refine' get_end ?N ?m ?_; (case N => k_asm); (case m => k_mem))
  | ((with_reducible show wpAny _ _ (getMethod (Value.ref _) "groups" _) _ _ _); refine' get_groups ?N ?m ?_; (case N => k_asm); (case m => k_mem))); (try dsimp only)))
local macro_rules | `(tactic| walk_at "call builtin:re.Pattern.match") => `(tactic| (k_here; k_dflt (refine' match_go (by assumption) rfl ?F ?X ?N ?_; (case F => k_asm); (case X => k_asm); (case N => k_asm)); intro T9 M9 h9 F9 N9 l9 l8; (try simp only [AllLt, List.cons_append, List.nil_append, and_true] at l9); (try dsimp only)))
local macro_rules | `(tactic| walk_at "call builtin:re.Match.end") => `(tactic| (k_here; k_dflt (refine' end_go (by assumption) ?N ?m ?t ?_; (case N => k_asm); (case m => k_mem); (case t => k_mem)); intro t9; (try dsimp only)))
local macro_rules | `(tactic| walk_at "call builtin:re.Match.groups") => `(tactic| (k_here; k_dflt (refine' groups_go (by assumption) ?F ?N ?m ?t ?_; (case F => k_asm); (case N => k_asm); (case m => k_mem); (case t => k_mem)); intro G9 h9 t9 t8 k9 F9 N9 l9; (try simp only [AllLt, List.cons_append, List.nil_append, and_true] at l9); (try dsimp only)))
local macro_rules | `(tactic| walk_at "subscriptTail") => `(tactic| (k_here; (with_reducible show wpAny _ _ (subscriptTail _ _ (Value.str _ _) (Value.int _ _)) _ _ _); k_dflt (first | refine sub_sign (by assumption : At _ (_ + 1) _) (by assumption) (by first | rfl | omega) ?_ | refine sub_sign (by assumption : At _ 0 _) (by assumption) (by first | rfl | omega) ?_); intro t9 k9; (try dsimp only)))
local macro_rules | `(tactic| walk_at "subscriptTail Name Name str int") => `(tactic| (k_here; k_dflt (first | refine sub_sign (by assumption : At _ (_ + 1) _) (by assumption) (by first | rfl | omega) ?_ | refine sub_sign (by assumption : At _ 0 _) (by assumption) (by first | rfl | omega) ?_); intro t9 k9; (try dsimp only)))
local macro_rules | `(tactic| walk_at "exec If") => `(tactic| (k_here; (with_reducible show wpAny _ _ (exec (Stmt.If (PySem.Expr.Name _ _) _ _ _) _) _ _ _); (with_reducible rename Mark => hMk9); clear hMk9; refine stop_here ?_))
local macro_rules | `(tactic| walk_at "truthy str") => `(tactic| (k_here; k_dflt (first | refine truthy_to (b := false) (by assumption) (by rfl) ?_ | refine truthy_to (b := true) (by assumption) len_cons ?_); intro k9; (try dsimp only)))
local macro_rules | `(tactic| walk_at "callWith ref") => `(tactic| (k_here; k_dflt (refine' callWith_app (l := ?l) ?N ?m ?_; (case N => k_asm); (case m => k_mem))))
local macro_rules | `(tactic| walk_at "And") => `(tactic| (k_here; k_dflt (refine' And.intro (app_at ?N ?m) ?_; (case N => k_asm); (case m => k_mem))))
local macro_rules | `(tactic| walk_at "call ref") => `(tactic| (k_here; k_dflt (refine' call_app ?F ?N ?m ?U ?z ?_; (case F => k_asm); (case N => k_asm); (case m => k_mem); (case U => k_upd); (case z => exact Chunks.room (by assumption) (by omega))); intro h9 F9 N9; (try dsimp only)))
local macro_rules | `(tactic| walk_at "compareOp Eq str str") => `(tactic| (k_here; k_dflt (first | refine eqs_to (b := false) (by assumption) ?_ | refine eqs_to (b := true) (by decide) ?_ | refine eqs_to (b := false) (by decide) ?_); (try dsimp only)))
local macro_rules | `(tactic| walk_at "compareOp NotEq str str") => `(tactic| (k_here; k_dflt (first | refine nes_to (b := false) (by assumption) ?_ | refine nes_to (b := true) (by decide) ?_ | refine nes_to (b := false) (by decide) ?_); (try dsimp only [Bool.not_true, Bool.not_false])))
local macro_rules | `(tactic| walk_at "call builtin:str.join") => `(tactic| (k_here; k_dflt (refine join_chunks (by is_list) (by assumption) (by (simp only [List.length_append] at *); omega) ?_); intro t9 k9; (try dsimp only)))
local macro_rules | `(tactic| walk_at "exec Try") => `(tactic| (k_here; refine wpAny_Try_except ?_))
local macro_rules | `(tactic| walk_at "subscriptTail") => `(tactic| (k_here; (with_reducible show wpAny _ _ (subscriptTail _ _ (Value.ref 88) (Value.str _ _)) _ _ _); k_dflt (refine' sub_back (by assumption) ?F ?X ?_ ?z; (case F => k_asm); (case X => k_asm); (case z => with_unfolding_all rfl)); intro t9; (try dsimp only)))
local macro_rules | `(tactic| walk_at "subscriptTail Name Slice str ref") => `(tactic| (k_here; (with_reducible rename Fr _ _ _ _ => lF); (with_reducible rename News _ _ _ _ => lN); k_dflt (first
  | refine slice_go (s := ⟨_, _, _, _, _⟩) 1 4 (by assumption : At _ (_ + 1) _) (by omega) (by omega) (rfl : List.take _ (List.drop _ _) = [_, _, _, _]) (by omega) (by assumption) lF lN ?_
  | refine slice_go (s := ⟨_, _, _, _, _⟩) 5 2 (by assumption : At _ (_ + 1) _) (by omega) (by omega) (rfl : List.take _ (List.drop _ _) = [_, _]) (by omega) (by assumption) lF lN ?_
  | refine slice_go (s := ⟨_, _, _, _, _⟩) 7 4 (by assumption : At _ (_ + 1) _) (by omega) (by omega) (rfl : List.take _ (List.drop _ _) = [_, _, _, _]) (by omega) (by assumption) lF lN ?_
  | refine slice_go (s := ⟨_, _, _, _, _⟩) 1 1 At.lit (by omega) (by omega) (rfl : List.take _ (List.drop _ _) = [_]) (by show 2 ≤ 4; decide) (by show 4 ≤ 300; decide) lF lN ?_); intro h9 t9 k9 F9 N9; (try dsimp only)))
local macro_rules | `(tactic| walk_at "compareOp NotEq int int") => `(tactic| (k_here; k_dflt (first | refine nei_to (b := false) (by assumption) ?_ | refine nei_to (b := true) (by assumption) ?_ | refine nei_to (b := true) (by rfl) ?_); (try dsimp only [Bool.not_true, Bool.not_false])))
local macro_rules | `(tactic| walk_at "compareOp Eq int int") => `(tactic| (k_here; k_dflt (first | refine eqi_to (b := false) (by assumption) ?_ | refine eqi_to (b := true) (by assumption) ?_ | refine eqi_to (b := true) (by rfl) ?_); (try dsimp only)))
local macro_rules | `(tactic| walk_at "call builtin:chr") => `(tactic| (k_here; k_dflt (first | refine chr_to rfl (by assumption) ?_ | refine chr_to (by assumption) (by assumption) ?_); intro t9 k9; (try dsimp only)))
local macro_rules | `(tactic| walk_at "call type:int") => `(tactic| (k_here; k_dflt (refine call_hex (by assumption) ?_); intro t9 k9; (try dsimp only)))
local macro_rules | `(tactic| walk_at "call builtin:len") => `(tactic| (k_here; k_dflt (refine len_to (n := 4) rfl (by decide) ?_); intro t9 k9; (try dsimp only)))
local macro_rules | `(tactic| walk_at "binaryOp LShift int int") => `(tactic| (k_here; k_dflt (refine lshift_int_small (by decide) (by decide) (shift_ok (by assumption)) ?_); (try dsimp only)))
local macro_rules | `(tactic| walk_at "last exec While") => `(tactic| (k_here; refine stop_here ?_))
section
variable {w : World} {pp : Program} {loose : List Str} {mean : ExcName → Option Value} {mg mb : Str → Option Value} {news : List (Addr × Obj)}
  {dp un : Nat} {gd : Option (List Code)} {cn : Str} {cs : Scope} {a : Addr} {ccd : Value} {cl : List (Str × Addr)} {outer : List Env} {A₀ : Around} {base h₀ : Heap} {L : Addr} {m : Str → Option Value} {s : Shared} {Q E : Value → Shared → Prop}
theorem scan_u {X : Str} {T R : List Nat} {G : Nat → List Nat} {t u : Tok} {d₁ : Addr} {o₁ : Obj} (hB : Below A₀ base outer h₀) (hF : Fr h₀ L s.heap m) (hX : (hd.heap_39 w.params).In h₀) (hN : News h₀ L s.heap [(d₁, o₁)]) (hT : Top pp loose mean mg mb h₀) (hk : cs.kind = .function)
    (hA : At X 0 (34 :: (T.flatMap G ++ 34 :: R))) (hS : Small X) (hG : ∀ c ∈ T, Tk (G c) c) (hTl : T.length ≤ 24)
    (hdp : dp + 8 < recursionLimit) (hun : un + 100 < cLine)
    (hret : ∀ r t1 t2 n h' tk, Fr h₀ L h' m → News h₀ L h' [(r, { cls := .type "tuple", data := .seq #[.str ⟨T.toArray⟩ t1, .int (((T.flatMap G).length + 2 : Nat) : Int) t2] n }), (d₁, o₁)] → Q (.ref r) { s with heap := h', toks := tk }) :
    wpAny (model PySem.Challenge.rw_ew0008_01.row.prog w) (ktrTop dp un gd cn cs L a ccd cl outer) (call (.ref 96) [.str X t, .int 1 u]) Q E s := by
  revert hX; k_fill; intro hX
  refine wpAny_call ?_
  k_dflt (refine' code_def ?k1 ?k2 ?k3 ?k4 ?k5 ?kA ?kF ?kK ?k6 ?k7 ?k8 ?k9 ?kB ?_ ?c2 ?c3 ?c4 ?c5; (case kA => exact rfl); (case kF => exact rfl); (case kK => assumption); (case k1 => k_asm); (case k2 => k_asm); (case k3 => k_asm); (case k4 => k_asm); (case k5 => k_asm); (case k6 => k_is); (case k7 => k_is); (case k8 => ktr_room); (case k9 => exact binds_K (by k_in) rfl (by k_is) rfl rfl rfl); (case c5 => decide); (case kB => exact locs rfl); (case c2 => exact rfl); (case c3 => exact rfl); (case c4 => exact rfl); k_whole; intro g' L' h' FG' F' N' B' X' T'; (try dsimp only); (try k_lift B'); (try k_fold))
  k_steps
  (with_reducible rename Fr _ _ _ _ => lF); (with_reducible rename News _ _ _ _ => lN)
  refine Stop.out ?_
  refine ksw_while (σ := Sc) (fun c => [(_, appObj _), (_, listOf c.vs c.n), (d₁, o₁)]) (fun c => [(Str.ofString "end", .int ((c.p : Nat) : Int) c.tp)]) (fun _ => True)
    scStored (ScP X T R G) (fun c => c.l.length) ⟨1, u, #[], 0, [], T⟩ lF lN trivial
    (by intro q hq; rcases List.mem_singleton.mp hq with rfl; with_unfolding_all rfl) ⟨Chunks.nil.more (Nat.zero_le _), rfl, hA.next rfl⟩ ?_
  have hXl := hA.le
  simp only [List.length_append, List.length_cons] at hXl
  clear lF lN hA
  rintro ⟨p, tp, vs, n, U, l⟩ kU h tk - ⟨hC, hUl, hat⟩ kF kN
  dsimp only at hC hUl hat kF kN
  subst hUl
  obtain ⟨pre, more, rfl, hpre, hps, hmore⟩ := split_plain l fun c hc => hG c (List.mem_append_right _ hc)
  rw [List.flatMap_append, hpre, List.append_assoc] at hat
  obtain ⟨ch, D, hsp, hD, halt⟩ := alt_of (R := R) hmore
  rw [hD] at hat
  have hgo := Go.of hat rfl hps hsp hS
  clear hat hD hmore hsp hps
  have kF0 := Kept.mk kF
  have hMk : Mark := ⟨⟩
  have hpl : Str.length ⟨pre.toArray⟩ ≤ 300 := by show pre.toArray.size ≤ 300; simp only [List.length_append, List.size_toArray] at hTl ⊢; omega
  k_steps
  (with_reducible rename Fr _ _ _ _ => lF); (with_reducible rename News _ _ _ _ => lN)
  refine Stop.out ?_
  refine app_step (fun v k => [_, _, _, (_, appObj _), (_, listOf v k), (d₁, o₁)]) (U ++ pre) (2 * ((U ++ (pre ++ more)).length - (pre ++ more).length) + 1) lF lN ?_ ?_
  · cases pre with
    | nil =>
      k_steps
      exact AppPost.of (by k_asm) (by k_asm) (by rw [List.append_nil]; exact hC.more (Nat.le_succ _))
    | cons c1 r1 =>
      k_steps
      exact AppPost.of (by k_asm) (by k_asm) hC.push
  clear lF lN hC
  intro vs' n' h' tk' F' N' C'
  (try dsimp only)
  have hb := hgo.behind
  have hle := hgo.here.le
  cases halt with
  | fin hm hc hD =>
    subst hm hc hD
    have e : p + pre.length + 1 = ((U ++ (pre ++ [])).flatMap G).length + 2 := by omega
    rw [← e] at hret
    simp only [List.append_nil] at hret C'
    k_steps
    exact hret _ _ _ _ _ _ (by k_asm) (cb_drop (by assumption) (by kcj_all))
  | quote r hm hc hD =>
    subst hm hc hD
    k_steps
    (with_reducible rename Chunks _ _ _ => lC)
    refine' sc_close kF0.out (p' := (p + pre.length + 1)) (r := r) (U' := _ ++ [39]) ?F ?N ?b ?D ?d ?C ?k ?U hb ?e ?s ?l
    (case F => k_asm)
    (case N => k_asm)
    (case b => k_mem)
    (case D => k_mem)
    (case d => k_mem)
    (case C => exact lC.push1)
    (case k => (simp only [List.length_append, List.length_cons] at *; omega))
    (case U => (simp only [List.append_assoc, List.cons_append, List.nil_append]))
    (case e => with_unfolding_all rfl)
    (case s => (intro z h4 ⟨n1, n2, n3, n4, n5, n6, n7, n8, n9, n10⟩; (first | with_reducible rfl | (simp only [h4, n1, n2, n3, n4, n5, n6, n7, n8, n9, n10, if_false]; done))))
    (case l => (show List.length _ < List.length _; simp only [List.length_append, List.length_cons]; omega))
  | back e c r hm hc hD hbk =>
    subst hm hc hD
    have hnu := back_not_u _ hbk
    dsimp only at hnu
    k_steps
    (with_reducible rename Chunks _ _ _ => lC)
    refine' sc_close kF0.out (p' := (p + pre.length + 1 + 1)) (r := r) (U' := _ ++ [c]) ?F ?N ?b ?D ?d ?C ?k ?U (hb.next rfl) ?e ?s ?l
    (case F => k_asm)
    (case N => k_asm)
    (case b => k_mem)
    (case D => k_mem)
    (case d => k_mem)
    (case C => exact lC.push1)
    (case k => (simp only [List.length_append, List.length_cons] at *; omega))
    (case U => (simp only [List.append_assoc, List.cons_append, List.nil_append]))
    (case e => with_unfolding_all rfl)
    (case s => (intro z h4 ⟨n1, n2, n3, n4, n5, n6, n7, n8, n9, n10⟩; (first | with_reducible rfl | (simp only [h4, n1, n2, n3, n4, n5, n6, n7, n8, n9, n10, if_false]; done))))
    (case l => (show List.length _ < List.length _; simp only [List.length_append, List.length_cons]; omega))
  | hex x y z v c r hm hc hD hx h1 h2 hs =>
    subst hm hc hD
    have hs' : (Builtin.bitAnd ((c : Nat) : Int) 64512 == 55296) = false := hs
    have hcl := hex_le _ hx
    dsimp only at hcl
    simp only [List.length_append, List.length_cons] at hle
    have hS' := hS.out
    k_steps
    (with_reducible rename Chunks _ _ _ => lC)
    refine' sc_close kF0.out (p' := (p + pre.length + 1 + 5)) (r := r) (U' := _ ++ [c]) ?F ?N ?b ?D ?d ?C ?k ?U (hb.app (U := [117, x, y, z, v]) rfl) ?e ?s ?l
    (case F => k_asm)
    (case N => k_asm)
    (case b => k_mem)
    (case D => k_mem)
    (case d => k_mem)
    (case C => exact lC.push1)
    (case k => (simp only [List.length_append, List.length_cons] at *; omega))
    (case U => (simp only [List.append_assoc, List.cons_append, List.nil_append]))
    (case e => with_unfolding_all rfl)
    (case s => (intro z h4 ⟨n1, n2, n3, n4, n5, n6, n7, n8, n9, n10⟩; (first | with_reducible rfl | (simp only [h4, n1, n2, n3, n4, n5, n6, n7, n8, n9, n10, if_false]; done))))
    (case l => (show List.length _ < List.length _; simp only [List.length_append, List.length_cons]; omega))
  | pair x y z v x' y' z' v' n2 k2 c r hm hc hD hx h1 h2 hy h3 h4 hs hl hc2 =>
    subst hm hc hD
    have hs' : (Builtin.bitAnd ((n2 : Nat) : Int) 64512 == 55296) = true := hs
    have hl' : (Builtin.bitAnd ((k2 : Nat) : Int) 64512 == 56320) = true := hl
    have hnl := hex_le _ hx
    dsimp only at hnl
    have hcl : c ≤ 1114111 := pair_le hx hy hs hl hc2
    simp only [List.length_append, List.length_cons] at hle
    have hS' := hS.out
    k_steps
    (with_reducible rename Chunks _ _ _ => lC)
    refine' sc_close kF0.out (p' := (p + pre.length + 1 + 5 + 6)) (r := r) (U' := _ ++ [c]) ?F ?N ?b ?D ?d ?C ?k ?U (hb.app (U := [117, x, y, z, v, 92, 117, x', y', z', v']) rfl) ?e ?s ?l
    (case F => k_asm)
    (case N => k_asm)
    (case b => k_mem)
    (case D => k_mem)
    (case d => k_mem)
    (case C => exact lC.push1)
    (case k => (simp only [List.length_append, List.length_cons] at *; omega))
    (case U => (simp only [List.append_assoc, List.cons_append, List.nil_append]))
    (case e => with_unfolding_all rfl)
    (case s => (intro z h4 ⟨n1, n2, n3, n4, n5, n6, n7, n8, n9, n10⟩; (first | with_reducible rfl | (simp only [h4, n1, n2, n3, n4, n5, n6, n7, n8, n9, n10, if_false]; done))))
    (case l => (show List.length _ < List.length _; simp only [List.length_append, List.length_cons]; omega))
end
end Mine

end

section
open PySem PySem.W PySem.Calls PyProof.Rows
set_option Elab.async false
set_option maxRecDepth 100000
set_option maxHeartbeats 8000000
namespace Mine
/-! The law's text. -/
def sgnC (k : Int) : Nat := codes.getD (k.fmod 25).toNat 0
def sgn (k : Int) : Str := one (sgnC k)
theorem sgn_all : ∀ i < 25, one (codes.getD i 0) = [Str.ofString "a", Str.ofString "~", Str.ofString " ", Str.ofString "/", Str.ofString "é", Str.ofString "€", Str.ofString "😀", Str.ofString "'", Str.ofString "\"", Str.ofString "\\", Str.ofString "\n", Str.ofString "\t", Str.ofString "\x01", Str.ofString "\x1f", Str.ofString "\x08", Str.ofString "\x7f", Str.ofString (String.ofList [Char.ofNat 1114111]), Str.ofString "\r", Str.ofString "\x0c", Str.ofString "\u2028", Str.ofString "\u2029", Str.ofString "\uffff", Str.ofString "\x00", Str.ofString "\ud7ff", Str.ofString "\ue000"].getD i Str.empty := by decide +kernel
theorem sgn_mem_all : ∀ i < 25, codes.getD i 0 ∈ codes := by decide +kernel
theorem fmod_25 (k : Int) : (k.fmod 25).toNat < 25 := by
  rw [Int.fmod_eq_emod_of_nonneg k (by decide)]
  omega
theorem sgn_mem (k : Int) : sgnC k ∈ codes := sgn_mem_all _ (fmod_25 k)
theorem flat_sgn : ∀ ns : List Int, ns.flatMap (fun k => (sgn k).cps.toList) = ns.map sgnC
  | [] => rfl
  | a :: r => by rw [List.flatMap_cons, List.map_cons, flat_sgn r]; rfl
/-- a text of the law -/
structure LawText (x : Str) : Prop where
  len : x.length ≤ 24
  mem : ∀ c ∈ x.cps.toList, c ∈ codes
section
variable {prog : Program} {w : World} {A : Around} {E : Value → Shared → Prop} {s : Shared} {D : Addr} {ys : List Value} {t : Tok} {Q : Value → Shared → Prop}
theorem join_law {ns : List Int} (hl : s.heap.IsList D ys.toArray) (hc : CarriedAll ys (ns.map fun k => PyData.str (sgn k))) (hn : ns.length ≤ 24) (h : ∀ x t' k, LawText x → Q (.str x t') { s with toks := k }) :
    wpAny (model prog w) A (call (.builtin "str.join") [.str (Str.ofString "") t, .ref D]) Q E s := by
  refine KT.join_B 1 hl hc (fun a _ => Nat.le_refl 1) (by omega) (by decide) fun t' k => h _ t' k ?_
  have e : (Txt.join (Str.ofString "") (ns.map sgn)).cps.toList = ns.map sgnC := by
    rw [glued_cps, List.flatMap_map]
    exact flat_sgn ns
  constructor
  · have := congrArg List.length e
    rw [List.length_map, Array.length_toList] at this
    unfold Str.length; omega
  · rw [e]
    intro c hc
    obtain ⟨k, _, rfl⟩ := List.mem_map.mp hc
    exact sgn_mem k
end
theorem cps_cat (a b : Str) : (a ++ b).cps.toList = a.cps.toList ++ b.cps.toList := by
  show (a.cps ++ b.cps).toList = _
  exact Array.toList_append
theorem quoted_cps (z : Str) : (quoted z).cps.toList = 34 :: (z.cps.toList ++ [34]) := by
  unfold quoted
  rw [cps_cat, cps_cat, show (Str.ofString "\"").cps.toList = [34] by decide +kernel]
  rfl
theorem first_at (x : Str) (g : Nat → Str) : At (quoted (joinT g x)) 0 (34 :: (x.cps.toList.flatMap (fun c => (g c).cps.toList) ++ 34 :: [])) := ⟨by
  rw [List.drop_zero, quoted_cps, joinT_cps]⟩
theorem second_at (x : Str) (g : Nat → Str) : At (quoted (joinT g x) ++ Str.ofString " x") 0 (34 :: (x.cps.toList.flatMap (fun c => (g c).cps.toList) ++ 34 :: [32, 120])) := ⟨by
  rw [List.drop_zero, cps_cat, quoted_cps, joinT_cps, show (Str.ofString " x").cps.toList = [32, 120] by decide +kernel]
  simp⟩
theorem str_size (x : Str) : x.length = x.cps.toList.length := by rw [Array.length_toList]; rfl
theorem quoted_len (z : Str) : (quoted z).length = z.length + 2 := by
  rw [str_size, quoted_cps, List.length_cons, List.length_append, str_size z]; rfl
theorem joinT_size (g : Nat → Str) (x : Str) : (joinT g x).length = (x.cps.toList.flatMap fun c => (g c).cps.toList).length := by rw [str_size, joinT_cps]
theorem first_small {x : Str} {g : Nat → Str} (h : (joinT g x).length ≤ 288) : Small (quoted (joinT g x)) := ⟨by rw [quoted_len]; omega⟩
theorem second_small {x : Str} {g : Nat → Str} (h : (joinT g x).length ≤ 288) : Small (quoted (joinT g x) ++ Str.ofString " x") := ⟨by
  rw [str_size, cps_cat, List.length_append, ← str_size, quoted_len, show (Str.ofString " x").cps.toList.length = 2 by decide +kernel]; omega⟩
theorem text_same (x : Str) : (⟨x.cps.toList.toArray⟩ : Str) = x := rfl
end Mine
namespace Mine
theorem ints_small {vs : List Value} {ns : List Int} (h : IntsAre vs (List.take 24 ns)) : vs.toArray.size ≤ sizeLine := by
  rw [List.size_toArray, h.length, sizeLine_eq, List.length_take]; omega
theorem take_24 {ns : List Int} : (List.take 24 ns).length ≤ 24 := by rw [List.length_take]; omega
end Mine
namespace Mine
theorem law_ja {x : Str} (h : LawText x) : (joinT ascF x).length ≤ 288 := joinT_len h.len fun c hc => asc_len c (h.mem c hc)
theorem law_jp {x : Str} (h : LawText x) : (joinT plainF x).length ≤ 288 := joinT_len h.len fun c hc => plain_len c (h.mem c hc)
theorem law_a {x : Str} (h : LawText x) : (quoted (joinT ascF x)).length ≤ 290 := by rw [quoted_len]; have := law_ja h; omega
theorem law_p {x : Str} (h : LawText x) : (quoted (joinT plainF x)).length ≤ 290 := by rw [quoted_len]; have := law_jp h; omega
theorem mem1 {α : Type} {a : α} {l : List α} (ha : a ∈ l) : ∀ p ∈ [a], p ∈ l := by
  intro p hp
  rw [List.mem_singleton.mp hp]; exact ha
theorem cps_len {x : Str} (h : x.length ≤ 24) : x.cps.toList.length ≤ 24 := by rw [Array.length_toList]; exact h
section
variable {w : World} {pp : Program} {loose : List Str} {mean : ExcName → Option Value} {mg mb : Str → Option Value} {news : List (Addr × Obj)}
  {dp un : Nat} {gd : Option (List Code)} {cn : Str} {cs : Scope} {a : Addr} {ccd : Value} {cl : List (Str × Addr)} {outer : List Env} {A₀ : Around} {base h₀ : Heap} {L : Addr} {m : Str → Option Value} {s : Shared} {Q E : Value → Shared → Prop}
theorem scan_first {x : Str} {t u : Tok} {d₁ : Addr} {o₁ : Obj} (hB : Below A₀ base outer h₀) (hF : Fr h₀ L s.heap m) (hX : (hd.heap_39 w.params).In h₀) (hN : News h₀ L s.heap [(d₁, o₁)]) (hT : Top pp loose mean mg mb h₀) (hk : cs.kind = .function)
    (hx : LawText x) (hdp : dp + 8 < recursionLimit) (hun : un + 100 < cLine)
    (hret : ∀ r t1 t2 n h' tk, Fr h₀ L h' m → News h₀ L h' [(r, { cls := .type "tuple", data := .seq #[.str x t1, .int (((quoted (joinT ascF x)).length : Nat) : Int) t2] n }), (d₁, o₁)] → Q (.ref r) { s with heap := h', toks := tk }) :
    wpAny (model PySem.Challenge.rw_ew0008_01.row.prog w) (ktrTop dp un gd cn cs L a ccd cl outer) (call (.ref 96) [.str (quoted (joinT ascF x)) t, .int 1 u]) Q E s :=
  scan_u (T := x.cps.toList) hB hF hX hN hT hk (first_at x ascF) (first_small (law_ja hx)) (fun c hc => tk_of (tk_asc c (hx.mem c hc))) (cps_len hx.len) hdp hun
    (fun r t1 t2 n h' tk F N => by rw [← joinT_size, ← quoted_len] at N; exact hret r t1 t2 n h' tk F N)
theorem scan_second {x : Str} {t u : Tok} {d₁ : Addr} {o₁ : Obj} (hB : Below A₀ base outer h₀) (hF : Fr h₀ L s.heap m) (hX : (hd.heap_39 w.params).In h₀) (hN : News h₀ L s.heap [(d₁, o₁)]) (hT : Top pp loose mean mg mb h₀) (hk : cs.kind = .function)
    (hx : LawText x) (hdp : dp + 8 < recursionLimit) (hun : un + 100 < cLine)
    (hret : ∀ r t1 t2 n h' tk, Fr h₀ L h' m → News h₀ L h' [(r, { cls := .type "tuple", data := .seq #[.str x t1, .int (((quoted (joinT plainF x)).length : Nat) : Int) t2] n }), (d₁, o₁)] → Q (.ref r) { s with heap := h', toks := tk }) :
    wpAny (model PySem.Challenge.rw_ew0008_01.row.prog w) (ktrTop dp un gd cn cs L a ccd cl outer) (call (.ref 96) [.str (quoted (joinT plainF x) ++ Str.ofString " x") t, .int 1 u]) Q E s :=
  scan_u (T := x.cps.toList) hB hF hX hN hT hk (second_at x plainF) (second_small (law_jp hx)) (fun c hc => tk_of (tk_plain c (hx.mem c hc))) (cps_len hx.len) hdp hun
    (fun r t1 t2 n h' tk F N => by rw [← joinT_size, ← quoted_len] at N; exact hret r t1 t2 n h' tk F N)
end
theorem quoted_same {z : Str} : (quoted z == (Str.ofString "\"" ++ z ++ Str.ofString "\"")) = true := beq_self_eq_true (quoted z)
theorem kct_is {news : List (Addr × Obj)} {r : Str} {t : Tok} : KCtEl news r (.str r t) news := ⟨rfl, t, rfl⟩
end Mine
namespace Mine
theorem law_ok {x : Str} (h : LawText x) : PyData.strOk x = true := by
  show x.cps.all (· < 0x110000) = true
  rw [← Array.all_toList, List.all_eq_true]
  intro c hc
  exact decide_eq_true (codes_lt c (h.mem c hc))
section
variable {prog : Program} {w : World} {A : Around} {E : Value → Shared → Prop} {s : Shared} {h₀ : Heap} {L a b : Addr} {news : List (Addr × Obj)} {x : Str} {n : Int} {t1 t2 t3 t4 : Tok} {k1 k2 : Nat} {Q : Value → Shared → Prop}
theorem tup_eq (hx : LawText x) (N : News h₀ L s.heap news) (ma : (a, ({ cls := .type "tuple", data := .seq #[.str x t1, .int n t2] k1 } : Obj)) ∈ news) (mb : (b, ({ cls := .type "tuple", data := .seq #[.str x t3, .int n t4] k2 } : Obj)) ∈ news) (hu : A.units + 64 < cLine) (h : Q (.bool true) s) :
    wpAny (model prog w) A (compareOp .Eq (.ref a) (.ref b)) Q E s := by
  have hsh : SeqAt.shaped (.tuple [.str x, .int n]) = true := by
    simp [SeqAt.shaped, PyData.canLay0, PyData.canLayAll0, PyData.depth, PyData.depthAll, law_ok hx]
  refine eq_dataH (reads_tuple_at (N.get ma) rfl rfl (.cons (.str _ _) (.cons (.int _ _) .nil))) (reads_tuple_at (N.get mb) rfl rfl (.cons (.str _ _) (.cons (.int _ _) .nil))) hsh hsh hu ?_
  simp only [PyData.eqv, PyData.eqvAll, beq_self_eq_true, Bool.and_true, Bool.true_and]
  exact h
end
end Mine
namespace Mine
theorem len_law {prog : Program} {w : World} {A : Around} {E : Value → Shared → Prop} {s : Shared} {x : Str} {t : Tok} {Q : Value → Shared → Prop} (hn : x.length ≤ 290) (h : ∀ t' k, Q (.int ((x.length : Nat) : Int) t') { s with toks := k }) : wpAny (model prog w) A (call (.builtin "len") [.str x t]) Q E s := len_to rfl (by omega) h
end Mine

end

section
open PySem PySem.W PySem.Calls PyProof.Rows
set_option Elab.async false
set_option maxRecDepth 100000
set_option maxHeartbeats 8000000
namespace Mine
theorem sgn_ok (k : Int) : sgn k = [Str.ofString "a", Str.ofString "~", Str.ofString " ", Str.ofString "/", Str.ofString "é", Str.ofString "€", Str.ofString "😀", Str.ofString "'", Str.ofString "\"", Str.ofString "\\", Str.ofString "\n", Str.ofString "\t", Str.ofString "\x01", Str.ofString "\x1f", Str.ofString "\x08", Str.ofString "\x7f", Str.ofString (String.ofList [Char.ofNat 1114111]), Str.ofString "\r", Str.ofString "\x0c", Str.ofString "\u2028", Str.ofString "\u2029", Str.ofString "\uffff", Str.ofString "\x00", Str.ofString "\ud7ff", Str.ofString "\ue000"].getD (k.fmod 25).toNat Str.empty := sgn_all _ (fmod_25 k)
local macro_rules | `(tactic| walk_at "KCtEl") => `(tactic| (refine kct_el (sgn_ok _) rfl rfl))
local macro_rules | `(tactic| walk_at "CompSrc") => `(tactic| (k_here; (with_reducible rename Mark => hMk9); clear hMk9; (try k_fmods); k_dflt (refine LCg.CompSrc.ledger (by rfl) (by k_asm) (by k_asm) (by k_mem) (ints_small (by assumption)) ?_); intro g'; (refine' kct_list sgn (by assumption) (fun k' t' I' oI' C' oC' D' m' ys' h' tk' E' hk' hC' hx' F' N' off' ne' => ?_) ?_); (all_goals (try (simp only [LCg.Off3, and_true] at off'))); (all_goals (try ((show KPfMark → _); intro hMark'))); (all_goals (try ((show KPfDone _); unfold KPfDone; intro ys' hy' hl')))))
local macro_rules | `(tactic| walk_at "call builtin:str.join") => `(tactic| (k_here; (with_reducible rename CarriedAll _ _ => hc9); k_dflt (refine join_law (by is_list) hc9 take_24 ?_); intro x9 t9 k9 hx9; (have ha9 := law_a hx9); (have hp9 := law_p hx9); (try dsimp only)))
local macro_rules | `(tactic| walk_at "eval ListComp") => `(tactic| (k_here; (with_reducible rename LawText _ => hx9); (with_reducible rename GIs _ => hG9); k_dflt (refine ListComp_S hG9 (by k_asm) (by rfl) (by decide) (by rfl) (by decide) (by rfl) ?_); clear hG9))
local macro_rules | `(tactic| walk_at "TextSrc") => `(tactic| (k_here; (with_reducible rename LawText _ => hx9); k_dflt (refine' ⟨_, _, _, rfl, rfl, ?F, ?N, text_small hx9.len, ?_, ?_⟩; (case F => k_asm); (case N => k_asm)); (all_goals (first | (intro c' u' I' oI' C' oC' D' m' ys' h' tk' E' hc' hC' hx' F' N' off' ne'; (try (simp only [LCg.Off3, and_true] at off'))) | (intro D' h' tk' ys' F' N' o1' hy'; (try simp only [LCg.Off1, and_true] at o1'))))))
local macro_rules | `(tactic| walk_at "KCtEl") => `(tactic| (first | exact kct_is | refine kct_el (sgn_ok _) rfl rfl))
local macro_rules | `(tactic| walk_at "call builtin:str.join") => `(tactic| (k_here; (with_reducible rename LawText _ => hx9); (with_reducible rename StrsAre _ _ => hSt9); k_dflt (first | refine join_text (by is_list) hSt9 hx9.len (fun c hc => asc_len c (hx9.mem c hc)) ?_ | refine join_text (by is_list) hSt9 hx9.len (fun c hc => plain_len c (hx9.mem c hc)) ?_); clear hSt9; intro t' k' hL'; (try dsimp only)))
local macro_rules | `(tactic| walk_at "call ref") => `(tactic| (k_here; (with_reducible show wpAny _ _ (call (Value.ref 44) [Value.str _ _]) _ _ _); (with_reducible rename LawText _ => hx9); k_dflt (refine' enca_u ?q1 ?q2 ?q3 ?q4 ?q5 rfl hx9.len hx9.mem ?q6 ?q7 ?_; (case q1 => k_asm); (case q2 => k_asm); (case q3 => exact cb_drop (by assumption) (mem1 (by k_mem))); (case q4 => k_asm); (case q5 => assumption); (case q6 => first | ktr_room | decide); (case q7 => first | ktr_units | decide)); (try dsimp only [CbRet]); intro ps9 t9 h9 tk9 F9 N9; (try dsimp only); (try k_fold)))
local macro_rules | `(tactic| walk_at "call ref") => `(tactic| (k_here; (with_reducible show wpAny _ _ (call (Value.ref 39) [Value.str _ _]) _ _ _); (with_reducible rename LawText _ => hx9); k_dflt (refine' enc_u (d₁ := 41) (o₁ := tabObj _) ?q0 ?q1 ?q2 ?q3 ?q4 rfl hx9.len hx9.mem ?q6 ?q7 ?_; (case q0 => k_asm); (case q1 => k_asm); (case q2 => k_asm); (case q3 => exact cb_drop (by assumption) (mem1 (by k_mem))); (case q4 => k_asm); (case q6 => first | ktr_room | decide); (case q7 => first | ktr_units | decide)); (try dsimp only [CbRet]); intro t9 h9 tk9 F9 N9; (try dsimp only); (try k_fold)))
local macro_rules | `(tactic| walk_at "call ref") => `(tactic| (k_here; (with_reducible show wpAny _ _ (call (Value.ref 118) [Value.str _ _]) _ _ _); (with_reducible rename LawText _ => hx9); k_dflt (refine' asc_u ?q0 ?q1 ?q2 ?q3 ?q4 rfl (hx9.mem _ (by assumption)) ?q6 ?q7 ?_; (case q0 => k_asm); (case q1 => k_asm); (case q2 => k_asm); (case q3 => k_asm); (case q4 => k_asm); (case q6 => first | ktr_room | decide); (case q7 => first | ktr_units | decide)); (try dsimp only [CbRet]); intro t9 h9 tk9 F9 N9; (try dsimp only); (try k_fold)))
local macro_rules | `(tactic| walk_at "call ref") => `(tactic| (k_here; (with_reducible show wpAny _ _ (call (Value.ref 125) [Value.str _ _]) _ _ _); (with_reducible rename LawText _ => hx9); k_dflt (refine' plain_u ?q0 ?q1 ?q2 ?q3 ?q4 rfl (hx9.mem _ (by assumption)) ?q6 ?q7 ?_; (case q0 => k_asm); (case q1 => k_asm); (case q2 => k_asm); (case q3 => k_asm); (case q4 => k_asm); (case q6 => first | ktr_room | decide); (case q7 => first | ktr_units | decide)); (try dsimp only [CbRet]); intro t9 h9 tk9 F9 N9; (try dsimp only); (try k_fold)))
local macro_rules | `(tactic| walk_at "call ref") => `(tactic| (k_here; (with_reducible show wpAny _ _ (call (Value.ref 96) [Value.str _ _, Value.int 1 _]) _ _ _); (with_reducible rename LawText _ => hx9); k_dflt (first
  | ((with_reducible show wpAny _ _ (call _ [Value.str (quoted _) _, _]) _ _ _); refine' scan_first (d₁ := 41) (o₁ := tabObj _) ?q0 ?q1 ?q2 ?q3 ?q4 rfl hx9 ?q6 ?q7 ?_; (case q0 => k_asm); (case q1 => k_asm); (case q2 => k_asm); (case q3 => exact cb_drop (by assumption) (mem1 (by k_mem))); (case q4 => k_asm); (case q6 => first | ktr_room | decide); (case q7 => first | ktr_units | decide))
  | (refine' scan_second (d₁ := 41) (o₁ := tabObj _) ?q0 ?q1 ?q2 ?q3 ?q4 rfl hx9 ?q6 ?q7 ?_; (case q0 => k_asm); (case q1 => k_asm); (case q2 => k_asm); (case q3 => exact cb_drop (by assumption) (mem1 (by k_mem))); (case q4 => k_asm); (case q6 => first | ktr_room | decide); (case q7 => first | ktr_units | decide))); intro r9 t9 t8 n9 h9 tk9 F9 N9; (try dsimp only); (try k_fold)))
local macro_rules | `(tactic| walk_at "compareOp NotEq str str") => `(tactic| (k_here; k_dflt (refine nes_to (b := true) quoted_same ?_); (try dsimp only [Bool.not_true, Bool.not_false])))
local macro_rules | `(tactic| walk_at "call builtin:len") => `(tactic| (k_here; k_dflt (refine len_law (by with_reducible assumption) ?_); intro t9 k9; (try dsimp only)))
local macro_rules | `(tactic| walk_at "compareOp Eq ref ref") => `(tactic| (k_here; (with_reducible rename LawText _ => hx9); k_dflt (refine' tup_eq hx9 ?q0 ?q1 ?q2 ?q3 ?_; (case q0 => k_asm); (case q1 => k_mem); (case q2 => k_mem); (case q3 => ke_room))))
local macro_rules | `(tactic| walk_at "GrownAll") => `(tactic| (refine stop_here ?_))
theorem L1 : PySem.Challenge.rw_ew0008_01.Holds := hd (by
  w_strict (k_go0; (all_goals try k_fold); (have hMk : Mark := ⟨⟩); (have hG1 : GIs plainF := trivial); (have hG2 : GIs ascF := trivial); k_steps; refine Stop.out (And.intro (GrownAt.of (P := 41) (by assumption) (by k_mem)) True.intro)))
end Mine

end

set_option maxRecDepth 100000 in
set_option maxHeartbeats 8000000 in
theorem PySem.Challenge.cw_ew0008_01_holds : PySem.Challenge.rw_ew0008_01.Holds := by
  exact Mine.L1
