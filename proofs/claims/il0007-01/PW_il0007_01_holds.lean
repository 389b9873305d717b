import PyProof.Rows.All
import Wide.All
import OpenK.AllK
import Wide.FinOn
import PySem.Challenge.RW_il0007_01
open PySem PySem.W PyProof.Rows
open LCg (NsObj lst ns_obj lst_snoc)
set_option Elab.async false
set_option compiler.extract_closed false
namespace Mine
section
set_option maxRecDepth 100000 in
set_option maxHeartbeats 8000000 in
open_top hd for PySem.Challenge.rw_il0007_01
theorem top_off : True := by
  w_top off
  trivial
end
section
theorem ex1 {α1 : Type} {p : α1 → Prop} {G : Prop} (h : ∃ x1, p x1) (k : ∀ x1, p x1 → G) : G := by obtain ⟨x1, h⟩ := h; exact k x1 h
theorem ex2 {α1 α2 : Type} {p : α1 → α2 → Prop} {G : Prop} (h : ∃ x1 x2, p x1 x2) (k : ∀ x1 x2, p x1 x2 → G) : G := by obtain ⟨x1, x2, h⟩ := h; exact k x1 x2 h
theorem ex3 {α1 α2 α3 : Type} {p : α1 → α2 → α3 → Prop} {G : Prop} (h : ∃ x1 x2 x3, p x1 x2 x3) (k : ∀ x1 x2 x3, p x1 x2 x3 → G) : G := by obtain ⟨x1, x2, x3, h⟩ := h; exact k x1 x2 x3 h
theorem ex4 {α1 α2 α3 α4 : Type} {p : α1 → α2 → α3 → α4 → Prop} {G : Prop} (h : ∃ x1 x2 x3 x4, p x1 x2 x3 x4) (k : ∀ x1 x2 x3 x4, p x1 x2 x3 x4 → G) : G := by obtain ⟨x1, x2, x3, x4, h⟩ := h; exact k x1 x2 x3 x4 h
theorem ex5 {α1 α2 α3 α4 α5 : Type} {p : α1 → α2 → α3 → α4 → α5 → Prop} {G : Prop} (h : ∃ x1 x2 x3 x4 x5, p x1 x2 x3 x4 x5) (k : ∀ x1 x2 x3 x4 x5, p x1 x2 x3 x4 x5 → G) : G := by obtain ⟨x1, x2, x3, x4, x5, h⟩ := h; exact k x1 x2 x3 x4 x5 h
theorem ex6 {α1 α2 α3 α4 α5 α6 : Type} {p : α1 → α2 → α3 → α4 → α5 → α6 → Prop} {G : Prop} (h : ∃ x1 x2 x3 x4 x5 x6, p x1 x2 x3 x4 x5 x6) (k : ∀ x1 x2 x3 x4 x5 x6, p x1 x2 x3 x4 x5 x6 → G) : G := by obtain ⟨x1, x2, x3, x4, x5, x6, h⟩ := h; exact k x1 x2 x3 x4 x5 x6 h
theorem ex7 {α1 α2 α3 α4 α5 α6 α7 : Type} {p : α1 → α2 → α3 → α4 → α5 → α6 → α7 → Prop} {G : Prop} (h : ∃ x1 x2 x3 x4 x5 x6 x7, p x1 x2 x3 x4 x5 x6 x7) (k : ∀ x1 x2 x3 x4 x5 x6 x7, p x1 x2 x3 x4 x5 x6 x7 → G) : G := by obtain ⟨x1, x2, x3, x4, x5, x6, x7, h⟩ := h; exact k x1 x2 x3 x4 x5 x6 x7 h
theorem ex8 {α1 α2 α3 α4 α5 α6 α7 α8 : Type} {p : α1 → α2 → α3 → α4 → α5 → α6 → α7 → α8 → Prop} {G : Prop} (h : ∃ x1 x2 x3 x4 x5 x6 x7 x8, p x1 x2 x3 x4 x5 x6 x7 x8) (k : ∀ x1 x2 x3 x4 x5 x6 x7 x8, p x1 x2 x3 x4 x5 x6 x7 x8 → G) : G := by obtain ⟨x1, x2, x3, x4, x5, x6, x7, x8, h⟩ := h; exact k x1 x2 x3 x4 x5 x6 x7 x8 h
theorem ex9 {α1 α2 α3 α4 α5 α6 α7 α8 α9 : Type} {p : α1 → α2 → α3 → α4 → α5 → α6 → α7 → α8 → α9 → Prop} {G : Prop} (h : ∃ x1 x2 x3 x4 x5 x6 x7 x8 x9, p x1 x2 x3 x4 x5 x6 x7 x8 x9) (k : ∀ x1 x2 x3 x4 x5 x6 x7 x8 x9, p x1 x2 x3 x4 x5 x6 x7 x8 x9 → G) : G := by obtain ⟨x1, x2, x3, x4, x5, x6, x7, x8, x9, h⟩ := h; exact k x1 x2 x3 x4 x5 x6 x7 x8 x9 h
theorem ex12 {α1 α2 α3 α4 α5 α6 α7 α8 α9 α10 α11 α12 : Type} {p : α1 → α2 → α3 → α4 → α5 → α6 → α7 → α8 → α9 → α10 → α11 → α12 → Prop} {G : Prop} (h : ∃ x1 x2 x3 x4 x5 x6 x7 x8 x9 x10 x11 x12, p x1 x2 x3 x4 x5 x6 x7 x8 x9 x10 x11 x12) (k : ∀ x1 x2 x3 x4 x5 x6 x7 x8 x9 x10 x11 x12, p x1 x2 x3 x4 x5 x6 x7 x8 x9 x10 x11 x12 → G) : G := by obtain ⟨x1, x2, x3, x4, x5, x6, x7, x8, x9, x10, x11, x12, h⟩ := h; exact k x1 x2 x3 x4 x5 x6 x7 x8 x9 x10 x11 x12 h
noncomputable abbrev Led := List (Addr × Obj)
/-- all that stood stands -/
noncomputable abbrev Ext (h h' : Heap) : Prop := ∀ b o, h.get? b = some o → h'.get? b = some o
/-- made between h and h' -/
noncomputable def Made (h h' : Heap) (l : Led) : Prop := ∀ p ∈ l, h'.get? p.1 = some p.2 ∧ h.get? p.1 = none
theorem Made.nil {h h' : Heap} : Made h h' [] := fun _ hp => nomatch hp
theorem Ext.refl (h : Heap) : Ext h h := fun _ _ e => e
theorem Ext.trans {h h' h'' : Heap} (a : Ext h h') (b : Ext h' h'') : Ext h h'' := fun x o e => b x o (a x o e)
theorem Made.news {h₀ h h' : Heap} {L : Addr} {m : Str → Option Value} {news l : Led} (F : Fr h₀ L h m) (N : News h₀ L h news) (k : Ext h h') (M : Made h h' l) : News h₀ L h' (l ++ news) := by
  intro p hp
  rcases List.mem_append.mp hp with hp | hp
  · obtain ⟨a, b⟩ := M p hp
    refine ⟨a, fun e => ?_, ?_⟩
    · obtain ⟨o, _, _, hL, _⟩ := F.ns
      rw [e, hL] at b; cases b
    · cases q : h₀.get? p.1 with
      | none => rfl
      | some o => rw [F.keep _ _ q] at b; cases b
  · exact ⟨k _ _ (N p hp).1, (N p hp).2⟩
/-- a call of a def at f with the values vs, from any frame: it gives back some r, all that stood stands, and Out tells of r -/
noncomputable def Spec (w : World) (f : Addr) (vs : List Value) (dd uu : Nat) (Pre : Heap → Prop) (Out : Heap → Heap → Value → Prop) : Prop :=
  ∀ (mean : ExcName → Option Value) (mg mb : Str → Option Value) (dp un : Nat) (gd : Option (List Code)) (cn : Str) (cs : Scope) (a : Addr) (ccd : Value) (cl : List (Str × Addr)) (outer : List Env) (A₀ : Around) (base h₀ : Heap) (L : Addr) (m : Str → Option Value) (s : Shared) (Q : Value → Shared → Prop),
    Below A₀ base outer h₀ → Fr h₀ L s.heap m → (hd.heap_39 w.params).In h₀ → Top hd.view_39 (looseW hd.view_39 []) mean mg mb h₀ → cs.kind = .function → dp + dd < recursionLimit → un + uu < cLine → Pre s.heap →
    (∀ r h' tk', Ext s.heap h' → Out s.heap h' r → Q r { s with heap := h', toks := tk' }) →
    wpAny (model PySem.Challenge.rw_il0007_01.row.prog w) (ktrTop dp un gd cn cs L a ccd cl outer) (call (.ref f) vs) Q (fun _ _ => False) s
theorem len1 (c : Nat) : Str.length ⟨#[c]⟩ = 1 := rfl
theorem beq1 (c d : Nat) : ((⟨#[c]⟩ : Str) == ⟨#[d]⟩) = decide (c = d) := by
  rw [Bool.eq_iff_iff]
  simp
theorem lit_bs : Str.ofString "\\" = ⟨#[92]⟩ := by decide +kernel
theorem lit_q : Str.ofString "\"" = ⟨#[34]⟩ := by decide +kernel
theorem lit_comma : Str.ofString "," = ⟨#[44]⟩ := by decide +kernel
theorem lit_slash : Str.ofString "/" = ⟨#[47]⟩ := by decide +kernel
theorem lit_eq : Str.ofString "=" = ⟨#[61]⟩ := by decide +kernel
theorem lit_dot : Str.ofString "." = ⟨#[46]⟩ := by decide +kernel
theorem lit_empty : Str.ofString "" = ⟨#[]⟩ := by decide +kernel
theorem strsAre_snoc {vs : Array Value} {xs : List Str} {y : Str} {t : Tok} (h : StrsAre vs.toList xs) : StrsAre (vs.push (.str y t)).toList (xs ++ [y]) := by
  rw [Array.toList_push]
  generalize vs.toList = l at h
  induction h with
  | nil => exact .cons _ _ .nil
  | cons z u _ ih => exact .cons z u ih
theorem strsAre_length {vs : List Value} {xs : List Str} (h : StrsAre vs xs) : vs.length = xs.length := by
  induction h with
  | nil => rfl
  | cons _ _ _ ih => simp [ih]
theorem foldl_take_succ {α β : Type} (f : β → α → β) (b : β) (l : List α) (i : Nat) (c : α) (h : l[i]? = some c) : (l.take (i + 1)).foldl f b = f ((l.take i).foldl f b) c := by
  rw [List.take_add_one, h]; simp
theorem Fr.see4 {h₀ h : Heap} {L : Addr} {m : Str → Option Value} {x1 x2 x3 x4 : Str} {v1 v2 v3 v4 : Value} (F : Fr h₀ L h m) (e1 : m x1 = some v1) (e2 : m x2 = some v2) (e3 : m x3 = some v3) (e4 : m x4 = some v4) :
    Fr h₀ L h (fun y => if y = x1 then some v1 else if y = x2 then some v2 else if y = x3 then some v3 else if y = x4 then some v4 else m y) := by
  have : (fun y => if y = x1 then some v1 else if y = x2 then some v2 else if y = x3 then some v3 else if y = x4 then some v4 else m y) = m := by
    funext y
    repeat' split
    all_goals (first | rfl | (subst_vars; simp_all))
  rw [this]; exact F
theorem Fr.see3 {h₀ h : Heap} {L : Addr} {m : Str → Option Value} {x1 x2 x3 : Str} {v1 v2 v3 : Value} (F : Fr h₀ L h m) (e1 : m x1 = some v1) (e2 : m x2 = some v2) (e3 : m x3 = some v3) :
    Fr h₀ L h (fun y => if y = x1 then some v1 else if y = x2 then some v2 else if y = x3 then some v3 else m y) := by
  have : (fun y => if y = x1 then some v1 else if y = x2 then some v2 else if y = x3 then some v3 else m y) = m := by
    funext y
    repeat' split
    all_goals (first | rfl | (subst_vars; simp_all))
  rw [this]; exact F
theorem Fr.see2 {h₀ h : Heap} {L : Addr} {m : Str → Option Value} {x1 x2 : Str} {v1 v2 : Value} (F : Fr h₀ L h m) (e1 : m x1 = some v1) (e2 : m x2 = some v2) :
    Fr h₀ L h (fun y => if y = x1 then some v1 else if y = x2 then some v2 else m y) := by
  have : (fun y => if y = x1 then some v1 else if y = x2 then some v2 else m y) = m := by
    funext y
    repeat' split
    all_goals (first | rfl | (subst_vars; simp_all))
  rw [this]; exact F
theorem Fr.see1 {h₀ h : Heap} {L : Addr} {m : Str → Option Value} {x1 : Str} {v1 : Value} (F : Fr h₀ L h m) (e1 : m x1 = some v1) :
    Fr h₀ L h (fun y => if y = x1 then some v1 else m y) := by
  have : (fun y => if y = x1 then some v1 else m y) = m := by
    funext y
    split
    all_goals (first | rfl | (subst_vars; simp_all))
  rw [this]; exact F
theorem neA {a b : Addr} (h : a ≠ b) : @Ne Nat a b := h
theorem isList_of {h : Heap} {a : Addr} {ar : Array Value} {nn : Nat} (e : h.get? a = some (W.listOf ar nn)) : h.IsList a ar.toList.toArray := by
  rw [Array.toArray_toList]; exact ⟨_, e, rfl, nn, rfl⟩
theorem strsAre_get {vs : List Value} {xs : List Str} (h : StrsAre vs xs) {i : Nat} {v : Value} (e : vs[i]? = some v) : ∃ y u, v = .str y u ∧ xs[i]? = some y := by
  induction h generalizing i with
  | nil => simp at e
  | cons y t _ ih =>
    cases i with
    | zero => simp at e; exact ⟨y, t, e.symm, by simp⟩
    | succ i => simp at e; obtain ⟨y', u, e1, e2⟩ := ih e; exact ⟨y', u, e1, by simpa using e2⟩
theorem strsAre_snocL {vs : List Value} {xs : List Str} {y : Str} {t : Tok} (h : StrsAre vs xs) : StrsAre (vs ++ [.str y t]) (xs ++ [y]) := by
  induction h with
  | nil => exact .cons _ _ .nil
  | cons z u _ ih => exact .cons z u ih
theorem take_succ_map {α β : Type} (f : α → β) (l : List α) (i : Nat) (c : α) (h : l[i]? = some c) : (l.take (i + 1)).map f = (l.take i).map f ++ [f c] := by
  rw [List.take_add_one, h]; simp
theorem news_cat {h₀ h : Heap} {L : Addr} {a b : Led} (x : News h₀ L h a) (y : News h₀ L h b) : News h₀ L h (a ++ b) := fun p hp => (List.mem_append.mp hp).elim (x p) (y p)
theorem lift_list {g h : Heap} {L l : Addr} {m : Str → Option Value} {xs : Array Value} (F : Fr g L h m) (hl : g.IsList l xs) : h.IsList l xs := hl.at fun o e => F.keep _ o e
theorem list_some {h : Heap} {l : Addr} {xs : Array Value} (hl : h.IsList l xs) : ∃ o, h.get? l = some o := by obtain ⟨o, ho, _⟩ := hl; exact ⟨o, ho⟩
theorem gen_toks {α : Type} {M : Model} {A : Around} {t : Sem α} {Q : α → Shared → Prop} {E : Value → Shared → Prop} {h : Heap} {g : Array GenState} {d : Drawn} {n : Nat} {o : OsState} (h0 : 0 < n) (k : ∀ tk, 0 < tk → wpAny M A t Q E ⟨h, g, d, tk, o⟩) : wpAny M A t Q E ⟨h, g, d, n, o⟩ := k n h0
theorem replace_pos {prog : Program} {w : World} {A : Around} {E : Value → Shared → Prop} {s : Shared} {x y z : Str} {t u v : Tok} {Q : Value → Shared → Prop} (h0 : 0 < s.toks) (hu : @Ne Nat u 0) (hv : @Ne Nat v 0) (huv : @Ne Nat u v) (hyz : (y == z) = false) (hx : x.length ≤ 1048576) (hz : z.length ≤ 14)
    (hq : ∀ t' k, 0 < k → Q (.str (Txt.replace x y z) t') { s with toks := k }) : wpAny (model prog w) A (call (.builtin "str.replace") [.str x t, .str y u, .str z v]) Q E s :=
  wpAny_with_toks (n := s.toks) (Nat.le_refl _) (SC.replaceW hu hv huv hyz hx hz fun t' k hk => hq t' k (Nat.lt_of_lt_of_le h0 hk))
theorem isListA {h : Heap} {a : Addr} {ar : Array Value} {nn : Nat} (e : h.get? a = some (W.listOf ar nn)) : h.IsList a ar := ⟨_, e, rfl, nn, rfl⟩
theorem intsAre_get {vs : List Value} {xs : List Int} (h : IntsAre vs xs) {i : Nat} {v : Value} (e : vs[i]? = some v) : ∃ y u, v = .int y u ∧ xs[i]? = some y := by
  induction h generalizing i with
  | nil => simp at e
  | cons y t _ ih =>
    cases i with
    | zero => simp at e; exact ⟨y, t, e.symm, by simp⟩
    | succ i => simp at e; obtain ⟨y', u, e1, e2⟩ := ih e; exact ⟨y', u, e1, by simpa using e2⟩
theorem intsAre_snoc {vs : Array Value} {xs : List Int} {y : Int} {t : Tok} (h : IntsAre vs.toList xs) : IntsAre (vs.push (.int y t)).toList (xs ++ [y]) := by
  rw [Array.toList_push]
  generalize vs.toList = l at h
  induction h with
  | nil => exact .cons _ _ .nil
  | cons z u _ ih => exact .cons z u ih
theorem intsAre_length {vs : List Value} {xs : List Int} (h : IntsAre vs xs) : vs.length = xs.length := by
  induction h with
  | nil => rfl
  | cons _ _ _ ih => simp [ih]
noncomputable def Fin (Q : Value → Shared → Prop) (v : Value) (s : Shared) : Prop := Q v s
theorem Fin.intro {Q : Value → Shared → Prop} {v : Value} {s : Shared} (h : Q v s) : Fin Q v s := h
section
variable {prog : Program} {w : World} {A A₀ : Around} {s : Shared} {K : Frag} {L : Addr} {h₀ base : Heap} {m mg mb : Str → Option Value} {p : Program} {loose : List Str} {mean : ExcName → Option Value} {Q : Value → Shared → Prop}
theorem enterH {env : Env} {outer : List Env} {name qual : Str} {params : Arguments} {body : List Stmt} {scope : Scope} {dV kV doc pm cdv ct oc : Value} {an od : Option Addr} {osl : Array (Option Value)} {f : Addr} {vs : List Value} {binds : List (Str × Value)}
    (B : Below A₀ base outer h₀) (F : Fr h₀ L s.heap m) (X₀ : K.In h₀) (T : Top p loose mean mg mb h₀) (hA : A.frames = some (env :: outer)) (hf : env.frame = some L) (hke : env.scope.kind = .function)
    (ho : K.lookup f = some ⟨oc, od, .func (fnOf name qual params body scope dV kV doc pm an cdv ct), osl⟩) (hcd : codeIn K cdv qual = true) (hroom : A.depth < recursionLimit)
    (hbind : BindsTo s (fnOf name qual params body scope dV kV doc pm an cdv ct) ⟨vs, []⟩ binds) (hloc : ∀ y ∈ binds, scope.names.lookup y.1 = some .local)
    (h : ∀ L' h₁, Fr s.heap L' h₁ (fun y => binds.reverse.lookup y) → News s.heap L' h₁ [] → Below A base (env :: outer) s.heap → K.In s.heap → Top p loose mean mg mb s.heap →
      wpAny (model prog w) (A.deeper (envOf qual scope L' f cdv)) (execs body (envOf qual scope L' f cdv))
        (fun fl s' => Fin Q (match fl with | .ret v => v | _ => .none) s') (fun _ _ => False)
        { s with heap := h₁, toks := s.toks + binds.length })
    (hco : scope.isCoroutine = false) (hgen : scope.isGenerator = false) (hk : scope.kind = .function)
    (hcell : ∀ x ∈ scope.names, x.2 ≠ .cell) : wpAny (model prog w) A (call (.ref f) vs) Q (fun _ _ => False) s := by
  obtain ⟨FG, BG, st, lv⟩ := groundX (R := fun _ _ => True) B F (News.nil (L := L) (h := s.heap) (h₀ := h₀)) hA hf hke
  refine wpAny_call (codeAny_call_def (fd := fnX name qual params body scope [] dV kV doc pm an cdv ct) (body := body) (binds := binds) hroom ((X₀.keeps F.keep) _ _ ho) rfl (T.nolimit.keeps F.keep) (codeRec_of (X₀.keeps F.keep) hcd) rfl hbind hcell hloc (fun h₁ hns hk₁ => ?_) hco hgen hk)
  refine wpAny_mono (h _ h₁ ⟨hns, hk₁, Nat.le_refl _⟩ News.nil BG (X₀.keeps F.keep) (T.keeps F.keep)) (fun fl s' hl => hl) fun _ _ y => y.elim
end
theorem one_ne {R I : Addr} {o : Obj} (h : @Ne Nat R I) : ∀ p ∈ [(R, o)], p.1 ≠ I := fun p hp => by rw [List.mem_singleton.mp hp]; exact h
theorem hn_hd {a I : Addr} {o : Obj} {l : Led} (h : ∀ p ∈ ((a, o) :: l), p.1 ≠ I) : @Ne Nat a I := h _ (.head _)
theorem hn_tl {a : Addr × Obj} {I : Addr} {l : Led} (h : ∀ p ∈ (a :: l), p.1 ≠ I) : ∀ p ∈ l, p.1 ≠ I := fun p hp => h p (.tail _ hp)
theorem hn_put {a I : Addr} {o : Obj} {l : Led} (h0 : @Ne Nat a I) (h : ∀ p ∈ l, p.1 ≠ I) : ∀ p ∈ ((a, o) :: l), p.1 ≠ I := fun p hp => (List.mem_cons.mp hp).elim (fun e => by rw [e]; exact h0) (h p)
theorem all_put {α : Type} {P : α → Prop} {a : α} {l : List α} (h0 : P a) (h : ∀ p ∈ l, P p) : ∀ p ∈ a :: l, P p := fun p hp => (List.mem_cons.mp hp).elim (fun e => e ▸ h0) (h p)
theorem all_app {α : Type} {P : α → Prop} {r t : List α} (h0 : ∀ p ∈ r, P p) (h1 : ∀ p ∈ t, P p) : ∀ p ∈ r ++ t, P p := fun p hp => (List.mem_append.mp hp).elim (h0 p) (h1 p)
theorem all_nil {α : Type} {P : α → Prop} : ∀ p ∈ ([] : List α), P p := fun _ hp => nomatch hp
theorem get_snoc {α : Type} {l : List α} {x v : α} {i : Nat} (h : (l ++ [x])[i]? = some v) : l[i]? = some v ∨ (i = l.length ∧ v = x) := by
  rcases Nat.lt_trichotomy i l.length with hi | hi | hi
  · rw [List.getElem?_append_left hi] at h; exact .inl h
  · subst hi
    rw [List.getElem?_append_right (Nat.le_refl _), Nat.sub_self] at h
    exact .inr ⟨rfl, (Option.some.inj h).symm⟩
  · rw [List.getElem?_eq_none (by rw [List.length_append, List.length_singleton]; exact hi)] at h; cases h
theorem get_old {α : Type} {l : List α} {x v : α} {i : Nat} (h : l[i]? = some v) : (l ++ [x])[i]? = some v := by
  rw [List.getElem?_append_left (List.getElem?_eq_some_iff.mp h).1]; exact h
theorem get_new {α : Type} {l : List α} {x : α} : (l ++ [x])[l.length]? = some x := by
  rw [List.getElem?_append_right (Nat.le_refl _), Nat.sub_self]; rfl
end
section
noncomputable abbrev Jt := Nat → (Str → Option Value) → Led → Array GenState → Prop
/-- the end of a turn: the next state of the loop, the iterator kept -/
noncomputable def TurnEnd (h₀ : Heap) (L : Addr) (J : (Str → Option Value) → Led → Array GenState → Prop) (I : Addr) (oI : Obj) (s s₃ : Shared) : Prop :=
  ∃ h' tk g m' nx, s₃ = { s with heap := h', toks := tk, gens := g } ∧ Fr h₀ L h' m' ∧ News h₀ L h' ((I, oI) :: nx) ∧ (∀ p ∈ nx, p.1 ≠ I) ∧ J m' nx g
noncomputable def TurnPost (h₀ : Heap) (L : Addr) (J : (Str → Option Value) → Led → Array GenState → Prop) (I : Addr) (oI : Obj) (s : Shared) (Q : Flow → Shared → Prop) (f : Flow) (s₃ : Shared) : Prop :=
  match f with
  | .ret v => Q (.ret v) s₃
  | .brk => Q .next s₃
  | _ => TurnEnd h₀ L J I oI s s₃
theorem TurnEnd.intro {h₀ : Heap} {L : Addr} {J : (Str → Option Value) → Led → Array GenState → Prop} {I : Addr} {oI : Obj} {s : Shared} {h' : Heap} {tk : Nat} {g : Array GenState} {m' : Str → Option Value} (nx : Led)
    (F : Fr h₀ L h' m') (N : News h₀ L h' ((I, oI) :: nx)) (hn : ∀ p ∈ nx, p.1 ≠ I) (hj : J m' nx g) : TurnEnd h₀ L J I oI s { s with heap := h', toks := tk, gens := g } :=
  ⟨h', tk, g, m', nx, rfl, F, N, hn, hj⟩
section
variable {prog : Program} {w : World} {A : Around} {s : Shared} {env : Env} {h₀ : Heap} {target : PySem.Expr} {body : List Stmt} {Q : Flow → Shared → Prop}
/-- what letOwnedTupleGo does at this target and these items: nothing -/
noncomputable def Lets (prog : Program) (w : World) (A : Around) (target : PySem.Expr) (I : Addr) (P : Nat → Value → Prop) (St : Nat → Heap → Prop) : Prop :=
  ∀ i v (s' : Shared) (Q' : Unit → Shared → Prop), P i v → St (i + 1) s'.heap → Q' () s' → wpAny (model prog w) A (letOwnedTupleGo target (.ref I) v) Q' (fun _ _ => False) s'
theorem Lets.name {x : Str} {px : Pos} {I : Addr} {P : Nat → Value → Prop} {St : Nat → Heap → Prop} : Lets prog w A (.Name x px) I P St := fun _ _ _ _ _ _ h => wpAny_pure h
theorem Lets.tuple {elts : List PySem.Expr} {k : Nat} {pos : Pos} {I l : Addr} {P : Nat → Value → Prop} {items : Array Value} (hP : ∀ i v, P i v → ∃ T, v = .ref T) :
    Lets prog w A (.Tuple elts k pos) I P (fun i h => h.IsListIter I l i ∧ h.IsList l items) := fun i v s' Q' hp st h => by
  obtain ⟨T, rfl⟩ := hP i v hp
  exact wpAny_letOwnedTupleGo_listiter st.1 h
theorem forW {I : Addr} {fp : List Addr} {n : Nat} {P : Nat → Value → Prop} {St : Nat → Heap → Prop} {m₀ : Str → Option Value} {news : Led} (J : Jt)
    (W : Walks prog w A I fp [I] n P St) (hIo : ∀ i h, St i h → ∃ o, h.get? I = some o) (hL : env.locals ∉ fp) (h0I : h₀.get? I = none) (hnI : ∀ p ∈ news, p.1 ≠ I)
    (hfp : ∀ b ∈ fp, b = I ∨ (∃ o, h₀.get? b = some o) ∨ ∃ o, ∀ i m nx g, J i m nx g → (b, o) ∈ nx)
    (hst : St 0 s.heap) (F : Fr h₀ env.locals s.heap m₀) (N : News h₀ env.locals s.heap news) (hj : J 0 m₀ news s.gens)
    (hgo : Lets prog w A target I P St)
    (turn : ∀ i v m₁ nx h tk g oI, s.toks ≤ tk → i < n → P i v → J i m₁ nx g → (∀ p ∈ nx, p.1 ≠ I) → Fr h₀ env.locals h m₁ → News h₀ env.locals h ((I, oI) :: nx) →
      wpAny (model prog w) A (assign target env v) (fun _ s₂ => wpAny (model prog w) A (execs body env) (TurnPost h₀ env.locals (J (i + 1)) I oI s Q) (fun _ _ => False) s₂) (fun _ _ => False) { s with heap := h, toks := tk, gens := g })
    (done : ∀ m₁ nx h tk g, s.toks ≤ tk → J n m₁ nx g → Fr h₀ env.locals h m₁ → News h₀ env.locals h nx → Q .next { s with heap := h, toks := tk, gens := g }) :
    codeAny (model prog w) A (.forLoop target (.ref I) body [] env) (fun r s' => match r with | .ok f => Q f s' | .error e => cameBackBy (model prog w) A env (fun _ _ => False) e s') s := by
  have hIfp : I ∈ fp := W.sub I (by simp)
  have hLI : env.locals ≠ I := fun e => hL (e ▸ hIfp)
  have hSw : ∀ {h' h'' : Heap} {i : Nat} {m m' : Str → Option Value} {nx nx' : Led} {g g' : Array GenState} {oI : Obj} {j : Nat}, St i h' → h'.get? I = some oI → J j m nx g → Fr h₀ env.locals h' m → News h₀ env.locals h' nx → ∀ k, J k m' nx' g' → Fr h₀ env.locals h'' m' → News h₀ env.locals h'' ((I, oI) :: nx') → St i h'' := by
    intro h' h'' i m m' nx nx' g g' oI j st hI hJ F1 N1 k hJ' F2 N2
    refine W.frame i _ _ st fun b hb o e => ?_
    rcases hfp b hb with rfl | ⟨o', ho'⟩ | ⟨o', ho'⟩
    · rw [hI] at e; cases e; exact (N2 _ (.head _)).1
    · have e1 := F1.keep _ _ ho'
      rw [e] at e1; cases e1; exact F2.keep _ _ ho'
    · have e1 := (N1 _ (ho' _ _ _ _ hJ)).1
      rw [e] at e1; cases e1; exact (N2 _ (.tail _ (ho' _ _ _ _ hJ'))).1
  refine ex1 (p := fun Inv : Nat → Shared → Prop => ∀ k s', Inv k s' ↔ ∃ h' tk g m' nx i, s' = { s with heap := h', toks := tk, gens := g } ∧ St i h' ∧ Fr h₀ env.locals h' m' ∧ News h₀ env.locals h' nx ∧ (∀ p ∈ nx, p.1 ≠ I) ∧ J i m' nx g ∧ i ≤ n ∧ k = n + 1 - i ∧ s.toks ≤ tk) ⟨_, fun _ _ => Iff.rfl⟩ ?_
  intro Inv hInv
  refine codeAny_forLoop_any Inv ?_ (n + 1) ((hInv _ _).mpr
    ⟨s.heap, s.toks, s.gens, m₀, news, 0, rfl, hst, F, N, hnI, hj, Nat.zero_le _, rfl, Nat.le_refl _⟩)
  intro k s' hI
  replace hI := (hInv _ _).mp hI
  refine ex6 hI ?_
  clear hI
  intro h' tk g m' nx i hx9
  have qe1 := hx9.1
  have hst' := hx9.2.1
  have F' := hx9.2.2.1
  have N' := hx9.2.2.2.1
  have hnI' := hx9.2.2.2.2.1
  have hJ := hx9.2.2.2.2.2.1
  have hi := hx9.2.2.2.2.2.2.1
  have qe2 := hx9.2.2.2.2.2.2.2.1
  have htk := hx9.2.2.2.2.2.2.2.2
  clear hx9
  subst qe1
  subst qe2
  have old : ∀ b o, h₀.get? b = some o → b ≠ I := fun b o e q => by rw [q, h0I] at e; cases e
  have next : ∀ h₁ : Heap, (∀ b o, b ∉ [I] → h'.get? b = some o → h₁.get? b = some o) → Fr h₀ env.locals h₁ m' ∧ News h₀ env.locals h₁ nx := fun h₁ hk₁ =>
    ⟨⟨F'.ns.at' fun o e => hk₁ _ o (by simpa using hLI) e, fun b o e => hk₁ b o (by simpa using old b o e) (F'.keep b o e), F'.above⟩, fun p hp => ⟨hk₁ _ _ (by simpa using hnI' p hp) (N' p hp).1, (N' p hp).2⟩⟩
  by_cases hlt : i < n
  · refine wpAny_with_toks (n := s.toks) htk (W.item i _ _ _ hlt hst' fun v h₁ tk₁ hP hst₁ hk₁ htk₁ => ?_)
    have F₁ := (next h₁ hk₁).1
    have N₁ := (next h₁ hk₁).2
    refine ex1 (hIo _ _ hst₁) ?_
    intro oI hoI
    have NI : News h₀ env.locals h₁ ((I, oI) :: nx) := fun p hp => by
      rcases List.mem_cons.mp hp with rfl | hp
      · exact ⟨hoI, Ne.symm hLI, h0I⟩
      · exact N₁ p hp
    refine wpAny_mono (hgo i v _ (fun _ s₁ => s₁ = { s with heap := h₁, toks := tk₁, gens := g }) hP hst₁ rfl) (fun _ s₁ e₁ => ?_) fun _ _ x => x.elim
    subst e₁
    refine wpAny_mono (wpAny_toks_of (n := s.toks) htk₁ (turn i v m' nx h₁ tk₁ g oI htk₁ hlt hP hJ hnI' F₁ NI)) (fun _ s₂ h₂ => wpAny_mono (wpAny_toks_of (n := s.toks) h₂.1 h₂.2) (fun f s₃ h₃' => ?_) fun _ _ x => x.2.elim) fun _ _ x => x.2.elim
    have htk₃ := h₃'.1
    have h₃ := h₃'.2
    clear h₃'
    have fin : TurnEnd h₀ env.locals (J (i + 1)) I oI s s₃ → ∃ m, m < n + 1 - i ∧ Inv m s₃ := by
      rintro ⟨h₃', tk₃, g₃, m₃, nx₃, rfl, F₃, N₃, hn₃, hJ₃⟩
      exact ⟨n + 1 - (i + 1), by omega, (hInv _ _).mpr ⟨h₃', tk₃, g₃, m₃, nx₃, i + 1, rfl, hSw hst₁ hoI hJ F₁ N₁ _ hJ₃ F₃ N₃, F₃, fun p hp => N₃ p (.tail _ hp), hn₃, hJ₃, hlt, rfl, htk₃⟩⟩
    cases f with
    | ret v => exact h₃
    | brk => exact h₃
    | next => exact fin h₃
    | cont => exact fin h₃
  · have hin : i = n := by omega
    subst hin
    refine wpAny_with_toks (n := s.toks) htk (W.done _ _ _ hst' fun h₁ tk₁ hk₁ htk₁ => wpAny_execs_nil ?_)
    have F₁ := (next h₁ hk₁).1
    have N₁ := (next h₁ hk₁).2
    exact done m' nx h₁ tk₁ g htk₁ hJ F₁ N₁
/-- over a list: of the base or of the ledger -/
theorem iter_list {l : Addr} {vs : List Value} {m₀ : Str → Option Value} {news : Led} (J : Jt)
    (hh : A.handled = none) (hl : s.heap.IsList l vs.toArray) (hfp : (∃ o, h₀.get? l = some o) ∨ (l ≠ env.locals ∧ ∃ o, ∀ i m nx g, J i m nx g → (l, o) ∈ nx)) (F : Fr h₀ env.locals s.heap m₀) (N : News h₀ env.locals s.heap news) (hj : J 0 m₀ news s.gens)
    (hgo : ∀ I, Lets prog w A target I (fun i v => vs[i]? = some v) (fun i h => h.IsListIter I l i ∧ h.IsList l vs.toArray))
    (turn : ∀ i v I oI m₁ nx h tk g, s.toks ≤ tk → vs[i]? = some v → J i m₁ nx g → (∀ p ∈ nx, p.1 ≠ I) → Fr h₀ env.locals h m₁ → News h₀ env.locals h ((I, oI) :: nx) → ∀ Post : Flow → Shared → Prop, (∀ f s₃, TurnPost h₀ env.locals (J (i + 1)) I oI s Q f s₃ → Post f s₃) →
      wpAny (model prog w) A (assign target env v) (fun _ s₂ => wpAny (model prog w) A (execs body env) Post (fun _ _ => False) s₂) (fun _ _ => False) { s with heap := h, toks := tk, gens := g })
    (done : ∀ m₁ nx h tk g, s.toks ≤ tk → J vs.length m₁ nx g → Fr h₀ env.locals h m₁ → News h₀ env.locals h nx → Q .next { s with heap := h, toks := tk, gens := g }) :
    wpAny (model prog w) A (pyIter (.ref l)) (fun it s₂ => codeAny (model prog w) A (.forLoop target it body [] env) (fun r s' => match r with | .ok f => Q f s' | .error e => cameBackBy (model prog w) A env (fun _ _ => False) e s') s₂) (fun _ _ => False) s := by
  refine wpAny_pyIter_list hl ?_
  have hol := hl
  obtain ⟨ol, hol, _⟩ := hol
  have hlt : l < s.heap.objs.size := Heap.lt_size hol
  have hne : l ≠ s.heap.objs.size := Nat.ne_of_lt hlt
  have hLl : env.locals ≠ l := by
    rcases hfp with ⟨o, ho⟩ | ⟨h1, _⟩
    · exact Nat.ne_of_gt (Nat.lt_of_lt_of_le (Heap.lt_size ho) F.above)
    · exact Ne.symm h1
  refine forW (fp := [s.heap.objs.size, l]) (n := vs.length) (P := fun i v => vs[i]? = some v) (St := fun i h => h.IsListIter s.heap.objs.size l i ∧ h.IsList l vs.toArray) (news := news) (s := { s with heap := s.heap.push _ }) J ?_ ?_ ?_ ?_ ?_ ?_ ?_ (F.push _) (fun p hp => ⟨Heap.get?_push_of_some _ (N p hp).1, (N p hp).2⟩) hj (hgo _) ?_ ?_
  · have W := Walks.list (prog := prog) (w := w) hh s.heap.objs.size l hne vs.toArray
    have e : vs.toArray.size = vs.length := by simp
    rw [e] at W
    simpa using W
  · rintro i h ⟨⟨o, ho, _⟩, _⟩
    exact ⟨o, ho⟩
  · intro hm
    rcases List.mem_cons.mp hm with e | hm
    · exact absurd F.ns.lt (e ▸ Nat.lt_irrefl _)
    · exact hLl (List.mem_singleton.mp hm)
  · exact next_is_new F
  · exact fun p hp => Nat.ne_of_lt (Heap.lt_size (N p hp).1)
  · intro b hb
    rcases List.mem_cons.mp hb with e | hb
    · exact .inl e
    · rw [List.mem_singleton.mp hb]
      exact .inr (hfp.imp id fun h => h.2)
  · exact ⟨⟨_, Heap.get?_push_size _ rfl, rfl, rfl⟩, hl.push _⟩
  · intro i v m₁ nx h tk g oI hge _ hP hJ hn F₁ N₁
    exact turn i v _ oI m₁ nx h tk g hge hP hJ hn F₁ N₁ _ (fun _ _ h => h)
  · exact done
/-- over a text -/
theorem iter_str {x : Str} {t : Tok} {m₀ : Str → Option Value} {news : Led} (J : Jt)
    (hh : A.handled = none) (F : Fr h₀ env.locals s.heap m₀) (N : News h₀ env.locals s.heap news) (hj : J 0 m₀ news s.gens) {tx : Str} {tp : Pos} (htg : target = .Name tx tp)
    (turn : ∀ i c u I oI m₁ nx h tk g, s.toks ≤ tk → x.cps[i]? = some c → J i m₁ nx g → (∀ p ∈ nx, p.1 ≠ I) → Fr h₀ env.locals h m₁ → News h₀ env.locals h ((I, oI) :: nx) → ∀ Post : Flow → Shared → Prop, (∀ f s₃, TurnPost h₀ env.locals (J (i + 1)) I oI s Q f s₃ → Post f s₃) →
      wpAny (model prog w) A (assign target env (.str ⟨#[c]⟩ u)) (fun _ s₂ => wpAny (model prog w) A (execs body env) Post (fun _ _ => False) s₂) (fun _ _ => False) { s with heap := h, toks := tk, gens := g })
    (done : ∀ m₁ nx h tk g, s.toks ≤ tk → J x.cps.size m₁ nx g → Fr h₀ env.locals h m₁ → News h₀ env.locals h nx → Q .next { s with heap := h, toks := tk, gens := g }) :
    wpAny (model prog w) A (pyIter (.str x t)) (fun it s₂ => codeAny (model prog w) A (.forLoop target it body [] env) (fun r s' => match r with | .ok f => Q f s' | .error e => cameBackBy (model prog w) A env (fun _ _ => False) e s') s₂) (fun _ _ => False) s := by
  subst htg
  have key : ∀ (ty : String) (W : Walks prog w A s.heap.objs.size [s.heap.objs.size] [s.heap.objs.size] x.cps.size (SignAt x) (fun i h => h.IsStrIter s.heap.objs.size ty x t i)) (o : Obj), (s.heap.push o).IsStrIter s.heap.objs.size ty x t 0 →
      codeAny (model prog w) A (.forLoop (.Name tx tp) (.ref s.heap.objs.size) body [] env) (fun r s' => match r with | .ok f => Q f s' | .error e => cameBackBy (model prog w) A env (fun _ _ => False) e s') { s with heap := s.heap.push o } := by
    intro ty W o ho
    refine forW (news := news) (s := { s with heap := s.heap.push _ }) J W ?_ ?_ ?_ ?_ ?_ ho (F.push _) (fun p hp => ⟨Heap.get?_push_of_some _ (N p hp).1, (N p hp).2⟩) hj Lets.name ?_ ?_
    · rintro i h ⟨o, ho, _⟩
      exact ⟨o, ho⟩
    · intro hm
      exact absurd F.ns.lt ((List.mem_singleton.mp hm) ▸ Nat.lt_irrefl _)
    · exact next_is_new F
    · exact fun p hp => Nat.ne_of_lt (Heap.lt_size (N p hp).1)
    · exact fun b hb => .inl (List.mem_singleton.mp hb)
    · rintro i v m₁ nx h tk g oI hge _ ⟨c, u, hc, rfl⟩ hJ hn F₁ N₁
      exact turn i c u _ oI m₁ nx h tk g hge hc hJ hn F₁ N₁ _ (fun _ _ h => h)
    · exact done
  cases ha : x.cps.all (· < 128)
  · exact wpAny_pyIter_wide ha (key _ (Walks.strWide hh _ x t) _ ⟨_, Heap.get?_push_size _ rfl, rfl, rfl⟩)
  · exact wpAny_pyIter_ascii ha (key _ (Walks.strAscii hh _ x t) _ ⟨_, Heap.get?_push_size _ rfl, rfl, rfl⟩)
/-- over range(n) -/
theorem iter_range {r : Addr} {b₀ : Int} {t₀ u₀ v₀ : Tok} {n : Nat} {m₀ : Str → Option Value} {news : Led} (J : Jt)
    (hh : A.handled = none) (hr : IsRange s.heap r 0 b₀ 1 t₀ u₀ v₀) (hsmall : Builtin.Range.small 0 b₀ 1 = true) (hsz : Builtin.Range.rangeSize 0 b₀ 1 = (n : Int)) (F : Fr h₀ env.locals s.heap m₀) (N : News h₀ env.locals s.heap news) (hj : J 0 m₀ news s.gens) {tx : Str} {tp : Pos} (htg : target = .Name tx tp)
    (turn : ∀ i u I oI m₁ nx h tk g, s.toks ≤ tk → i < n → J i m₁ nx g → (∀ p ∈ nx, p.1 ≠ I) → Fr h₀ env.locals h m₁ → News h₀ env.locals h ((I, oI) :: nx) → ∀ Post : Flow → Shared → Prop, (∀ f s₃, TurnPost h₀ env.locals (J (i + 1)) I oI s Q f s₃ → Post f s₃) →
      wpAny (model prog w) A (assign target env (.int (i : Int) u)) (fun _ s₂ => wpAny (model prog w) A (execs body env) Post (fun _ _ => False) s₂) (fun _ _ => False) { s with heap := h, toks := tk, gens := g })
    (done : ∀ m₁ nx h tk g, s.toks ≤ tk → J n m₁ nx g → Fr h₀ env.locals h m₁ → News h₀ env.locals h nx → Q .next { s with heap := h, toks := tk, gens := g }) :
    wpAny (model prog w) A (pyIter (.ref r)) (fun it s₂ => codeAny (model prog w) A (.forLoop target it body [] env) (fun r s' => match r with | .ok f => Q f s' | .error e => cameBackBy (model prog w) A env (fun _ _ => False) e s') s₂) (fun _ _ => False) s := by
  subst htg
  refine wpAny_pyIter_range hr hsmall ?_
  have W : Walks prog w A s.heap.objs.size [s.heap.objs.size] [s.heap.objs.size] n (fun i v => i < n ∧ ∃ t, v = .int (0 + i * 1) t)
      (fun i h => IsRangeIter h s.heap.objs.size (0 + (i : Nat) * 1) ((n : Int) - (i : Nat)) 1) := (Walks.range hh _ 0 1 n).bound
  refine forW (news := news) (s := { s with heap := s.heap.push _ }) J W ?_ ?_ ?_ ?_ ?_ (by show IsRangeIter _ _ _ _ _; rw [hsz]; simpa using Heap.get?_push_size _ rfl) (F.push _) (fun p hp => ⟨Heap.get?_push_of_some _ (N p hp).1, (N p hp).2⟩) hj Lets.name ?_ ?_
  · exact fun i h st => ⟨_, st⟩
  · intro hm
    exact absurd F.ns.lt ((List.mem_singleton.mp hm) ▸ Nat.lt_irrefl _)
  · exact next_is_new F
  · exact fun p hp => Nat.ne_of_lt (Heap.lt_size (N p hp).1)
  · exact fun b hb => .inl (List.mem_singleton.mp hb)
  · rintro i v m₁ nx h tk g oI hge _ ⟨hi, u, rfl⟩ hJ hn F₁ N₁
    have := turn i u _ oI m₁ nx h tk g hge hi hJ hn F₁ N₁ _ (fun _ _ h => h)
    have e : (0 : Int) + (i : Int) * 1 = (i : Int) := by omega
    rw [e]; exact this
  · exact done
end
end
section
/-- an iterator: n items, the i-th of them P; own tells of its stage and of the objects (at adr) that it lives on -/
structure Itr (prog : Program) (w : World) (A : Around) (Kp : Heap → Prop) (I : Addr) (n : Nat) (P : Nat → Value → Prop) (adr : List Addr) (G : Array GenState → Array GenState → Prop) (own : Nat → Shared → Led → Prop) : Prop where
  grefl : ∀ a, G a a
  gtrans : ∀ a b c, G a b → G b c → G a c
  here : ∀ i s o, own i s o → ∀ p ∈ o, s.heap.get? p.1 = some p.2
  adrs : ∀ i s o, own i s o → o.map (·.1) = adr
  item : ∀ i (s : Shared) o (Q : Option Value → Shared → Prop), own i s o → i < n →
    (∀ v h' tk g o', P i v → own (i + 1) { s with heap := h', toks := tk, gens := g } o' → G s.gens g → (∀ b ob, b ∉ adr → s.heap.get? b = some ob → h'.get? b = some ob) → Q (some v) { s with heap := h', toks := tk, gens := g }) →
    wpAny (model prog w) A (pyNext (.ref I)) Q (fun _ _ => False) s
  done : ∀ (s : Shared) o (Q : Option Value → Shared → Prop), own n s o →
    (∀ h' tk g, G s.gens g → (∀ b ob, b ∉ adr → s.heap.get? b = some ob → h'.get? b = some ob) → Q none { s with heap := h', toks := tk, gens := g }) →
    wpAny (model prog w) A (pyNext (.ref I)) Q (fun _ _ => False) s
  self : ∀ i (s : Shared) o (Q : Value → Shared → Prop), own i s o → Q (.ref I) s → wpAny (model prog w) A (pyIter (.ref I)) Q (fun _ _ => False) s
  frame : ∀ i (s s' : Shared) o, own i s o → (∀ p ∈ o, s'.heap.get? p.1 = some p.2) → Kp s'.heap → s'.gens = s.gens → own i s' o
noncomputable abbrev Kt := Nat → List Value → Led → Prop
noncomputable def OffC (D C : Addr) (adr : List Addr) (nx : Led) : Prop := ∀ p ∈ nx, (@Ne Nat p.1 D) ∧ (@Ne Nat p.1 C) ∧ p.1 ∉ adr
noncomputable def CEnd (h₀ : Heap) (L : Addr) (m : Str → Option Value) (Jn : Led → Prop) (adr : List Addr) (o : Led) (C : Addr) (oC : Obj) (D : Addr) (oD : Obj) (s s₄ : Shared) : Prop :=
  ∃ h' tk nx, s₄ = { s with heap := h', toks := tk } ∧ Fr h₀ L h' m ∧ News h₀ L h' ((C, oC) :: (D, oD) :: nx) ∧ News h₀ L h' o ∧ OffC D C adr nx ∧ Jn nx
theorem CEnd.intro {h₀ : Heap} {L : Addr} {m : Str → Option Value} {Jn : Led → Prop} {adr : List Addr} {o : Led} {C : Addr} {oC : Obj} {D : Addr} {oD : Obj} {s : Shared} {h' : Heap} {tk : Nat} (nx : Led)
    (F : Fr h₀ L h' m) (N : News h₀ L h' ((C, oC) :: (D, oD) :: nx)) (No : News h₀ L h' o) (ho : OffC D C adr nx) (hj : Jn nx) : CEnd h₀ L m Jn adr o C oC D oD s { s with heap := h', toks := tk } :=
  ⟨h', tk, nx, rfl, F, N, No, ho, hj⟩
noncomputable abbrev testsOf (ifs : List PySem.Expr) (env : Env) : Sem Bool := forIn ifs true fun c r => if r = true then do let ok ← isTrue c env (eval c env); pure (ForInStep.yield ok) else pure (ForInStep.yield r)
/-- what the target's assignment does in the block: it sets names of the block alone -/
noncomputable def Puts (prog : Program) (w : World) (A : Around) (h₀ : Heap) (L : Addr) (m : Str → Option Value) (target : PySem.Expr) (scope : Scope) (cl : List (Str × Addr)) (env : Env) (P : Nat → Value → Prop) (Bd : Value → (Str → Option Value) → Prop) (news : Led → Prop) : Prop :=
  ∀ i v (s : Shared) C (m' : Str → Option Value) (nx : Led) (Q : Unit → Shared → Prop), P i v → s.heap.Ns C m' → Fr h₀ L s.heap m → News h₀ L s.heap nx → news nx → C ≠ L → h₀.get? C = none →
    (∀ h'' m'' tk, h''.Ns C m'' → Bd v m'' → (∀ b ob, b ≠ C → s.heap.get? b = some ob → h''.get? b = some ob) → Q () { s with heap := h'', toks := tk }) →
    wpAny (model prog w) A (assign target (compEnvC scope cl C env) v) Q (fun _ _ => False) s
section
variable {prog : Program} {w : World} {A : Around} {s : Shared} {h₀ : Heap} {L : Addr} {m : Str → Option Value} {env : Env}
theorem blockW {elt iter target : PySem.Expr} {ifs : List PySem.Expr} {scope : Scope} {cl : List (Str × Addr)} {pos : Pos} {s₂ : Shared} {I : Addr} {n : Nat} {P : Nat → Value → Prop} {adr : List Addr} {G : Array GenState → Array GenState → Prop} {own : Nat → Shared → Led → Prop}
    {news : Led} {o₀ : Led} {Bd : Value → (Str → Option Value) → Prop} {RR : Value → Addr → Result → Shared → Prop} {Kp : Heap → Prop} (J : Kt)
    (W : Itr prog w A Kp I n P adr G own) (hK : ∀ h nx i ys, Fr h₀ L h m → News h₀ L h nx → J i ys nx → Kp h) (hsz : n ≤ sizeLine)
    (hcell : ∀ y ∈ scope.names, y.2 ≠ .cell) (hkind : scope.kind = .function)
    (hst : own 0 s₂ o₀) (F : Fr h₀ L s₂.heap m) (N : News h₀ L s₂.heap news) (hadr : ∀ a ∈ adr, a ≠ L ∧ h₀.get? a = none) (off : ∀ p ∈ news, p.1 ∉ adr) (hj : J 0 [] news)
    (hput : Puts prog w A h₀ L m target scope cl env P Bd (fun nx => ∃ i ys, J i ys nx))
    (hlet : ∀ i v (s' : Shared) o (Q' : Unit → Shared → Prop), P i v → own (i + 1) s' o → Q' () s' → wpAny (model prog w) A (letOwnedTupleGo target (.ref I) v) Q' (fun _ _ => False) s')
    (turn : ∀ i v ys nx h tk g o C oC D m₂, G s₂.gens g → i < n → P i v → J i ys nx → own (i + 1) { s₂ with heap := h, toks := tk, gens := g } o → NsObj oC m₂ → Bd v m₂ → Fr h₀ L h m → News h₀ L h ((C, oC) :: (D, lst ys) :: nx) → News h₀ L h o → OffC D C adr nx → (@Ne Nat C D) → (∀ a ∈ adr, (@Ne Nat a C) ∧ (@Ne Nat a D)) →
      wpAny (model prog w) A (testsOf ifs (compEnvC scope cl C env)) (fun ok s₃ => if ok = true
        then wpAny (model prog w) A (eval elt (compEnvC scope cl C env)) (fun y s₄ => CEnd h₀ L m (J (i + 1) (ys ++ [y])) adr o C oC D (lst ys) { s₂ with heap := h, toks := tk, gens := g } s₄) (fun _ _ => False) s₃
        else CEnd h₀ L m (J (i + 1) ys) adr o C oC D (lst ys) { s₂ with heap := h, toks := tk, gens := g } s₃) (fun _ _ => False) { s₂ with heap := h, toks := tk, gens := g })
    (hlen : ∀ i ys nx, J i ys nx → ys.length ≤ i)
    (hRR : ∀ D C h tk g m' ys news', G s₂.gens g → Fr h₀ L h m → News h₀ L h ((D, lst ys) :: news') → (∀ p ∈ news', @Ne Nat p.1 D) → h.Ns C m' → h₀.get? C = none → h₀.get? D = none → C ≠ L → D ≠ L → C ≠ D → (∀ p ∈ news', p.1 ≠ C) → J n ys news' → RR (.ref D) C (.ok .next) { s₂ with heap := h, toks := tk, gens := g }) :
    wpAny (model prog w) A (newList []) (fun acc s₃ => wpAny (model prog w) A (newFunctionEnv scope env.globals cl [] env.qual none .none (some env)) (fun cenv s₄ =>
      codeAny (model prog w) A (.compStart (.ListComp elt [⟨target, iter, ifs, 0⟩] scope pos) 0 (.ref I) acc { cenv with scope := relabel scope env }) (RR acc cenv.locals) s₄) (fun _ _ => False) s₃) (fun _ _ => False) s₂ := by
  refine wpAny_newObj_type (wpAny_newFunctionEnv hcell (by intro y hy; simp at hy) (fun h₁ hns₁ hsb₁ => ?_) hkind)
  dsimp only at hns₁ hsb₁ ⊢
  generalize hH2 : s₂.heap.push { cls := .type "list", dict := none, data := .seq ([] : List Value).toArray } = H2 at hns₁ hsb₁ ⊢
  have hC : H2.objs.size = s₂.heap.objs.size + 1 := by rw [← hH2, Heap.size_push]
  have hDC : s₂.heap.objs.size ≠ H2.objs.size := by rw [hC]; exact Nat.ne_of_lt (Nat.lt_succ_self _)
  have below : ∀ b, b < s₂.heap.objs.size → b ≠ H2.objs.size ∧ b ≠ s₂.heap.objs.size := fun b hb => ⟨by rw [hC]; exact Nat.ne_of_lt (Nat.lt_succ_of_lt hb), Nat.ne_of_lt hb⟩
  have hal : ∀ a ∈ adr, a < s₂.heap.objs.size := fun a ha => by
    rw [← W.adrs _ _ _ hst] at ha
    obtain ⟨p, hp, rfl⟩ := List.mem_map.mp ha
    exact Heap.lt_size (W.here _ _ _ hst p hp)
  have hDf : s₂.heap.objs.size ∉ adr := fun hm => Nat.lt_irrefl _ (hal _ hm)
  have hCf : H2.objs.size ∉ adr := fun hm => by have := hal _ hm; rw [hC] at this; exact Nat.lt_irrefl _ (Nat.lt_of_succ_lt this)
  have old : ∀ b o, s₂.heap.get? b = some o → h₁.get? b = some o := fun b o e => hsb₁.extBut b o (below b (Heap.lt_size e)).1 (Heap.get?_push_of_some _ (hH2 ▸ Heap.get?_push_of_some _ e))
  have hacc : h₁.get? s₂.heap.objs.size = some (lst []) := hsb₁.extBut _ _ hDC (Heap.get?_push_of_some _ (hH2 ▸ Heap.get?_push_size _ rfl))
  have fresh : ∀ a, s₂.heap.objs.size ≤ a → s₂.heap.get? a = none := fun a ha => by
    cases e : s₂.heap.get? a with
    | none => rfl
    | some o' => exact absurd (Heap.lt_size e) (Nat.not_lt.mpr ha)
  have fresh₀ : ∀ a, s₂.heap.objs.size ≤ a → h₀.get? a = none := fun a ha => by
    cases e : h₀.get? a with
    | none => rfl
    | some o' => have := F.keep a o' e; rw [fresh a ha] at this; cases this
  have hD₀ : h₀.get? s₂.heap.objs.size = none := fresh₀ _ (Nat.le_refl _)
  have hC₀ : h₀.get? H2.objs.size = none := fresh₀ _ (by rw [hC]; exact Nat.le_succ _)
  have hLlt : L < s₂.heap.objs.size := F.ns.lt
  have hDL : s₂.heap.objs.size ≠ L := Ne.symm (below L hLlt).2
  have hCL : H2.objs.size ≠ L := Ne.symm (below L hLlt).1
  have hadr' : ∀ a ∈ adr, (@Ne Nat a H2.objs.size) ∧ (@Ne Nat a s₂.heap.objs.size) := fun a ha => below a (hal a ha)
  have off₀ : OffC s₂.heap.objs.size H2.objs.size adr news := fun p hp => ⟨(below _ (Heap.lt_size (N p hp).1)).2, (below _ (Heap.lt_size (N p hp).1)).1, off p hp⟩
  have oldb : ∀ b o, h₀.get? b = some o → b ∉ adr := fun b o e q => by rw [(hadr b q).2] at e; cases e
  have F₁ : Fr h₀ L h₁ m := F.keeps old
  have hst₁ : own 0 { s₂ with heap := h₁, toks := s₂.toks + ([] : List (Str × Value)).length } o₀ := W.frame 0 s₂ _ o₀ hst (fun p hp => old _ _ (W.here _ _ _ hst p hp)) (hK h₁ news 0 [] F₁ (fun p hp => ⟨old _ _ (N p hp).1, (N p hp).2⟩) hj) rfl
  have loop : ∀ s₃ : Shared, s₃ = { s₂ with heap := h₁, toks := s₂.toks + ([] : List (Str × Value)).length } →
      codeAny (model prog w) A (.compLoop (.ListComp elt [⟨target, iter, ifs, 0⟩] scope pos) 0 (.ref I) (.ref s₂.heap.objs.size) (compEnvC scope cl H2.objs.size env))
        (RR (.ref s₂.heap.objs.size) H2.objs.size) s₃ := by
    rintro s₃ rfl
    refine ex1 (p := fun Inv : Nat → Shared → Prop => ∀ k s', Inv k s' ↔ ∃ h' tk g i ys m' news' o, s' = { s₂ with heap := h', toks := tk, gens := g } ∧ G s₂.gens g ∧ i ≤ n ∧ k = n + 1 - i ∧ own i s' o ∧ Fr h₀ L h' m ∧ h'.Ns H2.objs.size m' ∧ News h₀ L h' ((s₂.heap.objs.size, lst ys) :: news') ∧
        OffC s₂.heap.objs.size H2.objs.size adr news' ∧ J i ys news') ⟨_, fun _ _ => Iff.rfl⟩ ?_
    intro Inv hInv
    refine codeAny_loop rfl Inv (fun k s' hI => ?_) (n + 1) ((hInv _ _).mpr
      ⟨h₁, _, s₂.gens, 0, [], _, news, o₀, rfl, W.grefl _, Nat.zero_le _, rfl, hst₁, F₁, hns₁, fun p hp => ?_, off₀, hj⟩)
    · show wpAny _ A ((compTurn (.ListComp elt [⟨target, iter, ifs, 0⟩] scope pos) 0 (.ref I) (.ref s₂.heap.objs.size) (compEnvC scope cl H2.objs.size env)).onRaise (fun x => do noteFrame x (compEnvC scope cl H2.objs.size env); theTreesLotGoes x)) _ _ s'
      refine wpAny_noted ?_
      rw [compTurn_list]
      replace hI := (hInv _ _).mp hI
      refine ex8 hI ?_
      clear hI
      intro h' tk g i ys m' news' o hx9
      have qe1 := hx9.1
      have hG := hx9.2.1
      have hi := hx9.2.2.1
      have qe2 := hx9.2.2.2.1
      have hst' := hx9.2.2.2.2.1
      have F' := hx9.2.2.2.2.2.1
      have hn' := hx9.2.2.2.2.2.2.1
      have N' := hx9.2.2.2.2.2.2.2.1
      have off' := hx9.2.2.2.2.2.2.2.2.1
      have hJ' := hx9.2.2.2.2.2.2.2.2.2
      clear hx9
      subst qe1
      subst qe2
      have up : ∀ h₂ : Heap, (∀ b ob, b ∉ adr → h'.get? b = some ob → h₂.get? b = some ob) → Fr h₀ L h₂ m ∧ News h₀ L h₂ ((s₂.heap.objs.size, lst ys) :: news') ∧ h₂.Ns H2.objs.size m' := fun h₂ hk₂ =>
        ⟨⟨F'.ns.at' fun o e => hk₂ _ o (fun q => (hadr _ q).1 rfl) e, fun b o e => hk₂ b o (oldb b o e) (F'.keep b o e), F'.above⟩, fun p hp => ⟨hk₂ _ _ (by
          rcases List.mem_cons.mp hp with rfl | hp
          · exact hDf
          · exact (off' p hp).2.2) (N' p hp).1, (N' p hp).2⟩, hn'.at' fun o e => hk₂ _ o hCf e⟩
      by_cases hlt : i < n
      · refine wpAny_bind (wpAny_standAt (wpAny_bind (wpAny_mono (W.item i _ o _ hst' hlt fun v h₂ tk₂ g₂ o₂ hPv hst₂ hG₂ hk₂ => ?_) (fun r s₁ h₁ => h₁) fun _ _ x => x.elim)))
        refine wpAny_bind (wpAny_mono (hlet i v _ o₂ (fun _ s₁ => s₁ = { s₂ with heap := h₂, toks := tk₂, gens := g₂ }) hPv hst₂ rfl) (fun _ s₁ e₁ => ?_) fun _ _ x => x.elim)
        subst e₁
        have hx9 := up h₂ hk₂
        have F₂ := hx9.1
        have N₂ := hx9.2.1
        have hn₂ := hx9.2.2
        clear hx9
        refine wpAny_bind (wpAny_mono (hput i v _ H2.objs.size m' news' _ hPv hn₂ F₂ (fun p hp => N₂ p (.tail _ hp)) ⟨i, ys, hJ'⟩ hCL hC₀ fun h₃ m₃ tk₃ hn₃ hb₃ hk₃ => ?_) (fun _ _ q => q) fun _ _ x => x.elim)
        have F₃ : Fr h₀ L h₃ m := ⟨F₂.ns.at' fun o e => hk₃ _ o (Ne.symm hCL) e, fun b o e => hk₃ b o (fun q => by rw [q, hC₀] at e; cases e) (F₂.keep b o e), F₂.above⟩
        refine ex1 (ns_obj hn₃) ?_
        intro oC hx9
        have heC := hx9.1
        have hoC := hx9.2
        clear hx9
        have N₃ : News h₀ L h₃ ((H2.objs.size, oC) :: (s₂.heap.objs.size, lst ys) :: news') := fun p hp => by
          rcases List.mem_cons.mp hp with rfl | hp
          · exact ⟨heC, hCL, hC₀⟩
          · refine ⟨hk₃ _ _ ?_ (N₂ p hp).1, (N₂ p hp).2⟩
            rcases List.mem_cons.mp hp with rfl | hp
            · exact hDC
            · exact (off' p hp).2.1
        have No₂ : ∀ p ∈ o₂, p.1 ∈ adr := fun p hp => by rw [← W.adrs _ _ _ hst₂]; exact List.mem_map.mpr ⟨p, hp, rfl⟩
        have No₃ : News h₀ L h₃ o₂ := fun p hp => ⟨hk₃ _ _ (fun q => hCf (q ▸ No₂ p hp)) (W.here _ _ _ hst₂ p hp), (hadr _ (No₂ p hp)).1, (hadr _ (No₂ p hp)).2⟩
        have hst₃ : own (i + 1) { s₂ with heap := h₃, toks := tk₃, gens := g₂ } o₂ := W.frame _ _ _ _ hst₂ (fun p hp => (No₃ p hp).1) (hK h₃ news' i ys F₃ (fun p hp => N₃ p (.tail _ (.tail _ hp))) hJ') rfl
        have go : ∀ (ys' : List Value) (s₅ : Shared), CEnd h₀ L m (J (i + 1) ys') adr o₂ H2.objs.size oC s₂.heap.objs.size (lst ys') { s₂ with heap := h₃, toks := tk₃, gens := g₂ } s₅ →
            ∃ q, q < n + 1 - i ∧ Inv q s₅ := by
          rintro ys' s₅ ⟨h₄, tk₄, nx, rfl, F₄, N₄, No₄, off₄, hJ₄⟩
          refine ⟨n + 1 - (i + 1), by omega, (hInv _ _).mpr ⟨h₄, tk₄, g₂, i + 1, ys', m₃, nx, o₂, rfl, W.gtrans _ _ _ hG hG₂, hlt, rfl, ?_, F₄, hoC.ns (N₄ _ (.head _)).1, fun p hp => N₄ p (.tail _ hp), off₄, hJ₄⟩⟩
          exact W.frame _ _ _ _ hst₃ (fun p hp => (No₄ p hp).1) (hK h₄ nx (i + 1) ys' F₄ (fun p hp => N₄ p (.tail _ (.tail _ hp))) hJ₄) rfl
        refine wpAny_bind (wpAny_mono (turn i v ys news' h₃ tk₃ g₂ o₂ H2.objs.size oC s₂.heap.objs.size m₃ (W.gtrans _ _ _ hG hG₂) hlt hPv hJ' hst₃ hoC hb₃ F₃ N₃ No₃ off' (Ne.symm hDC) hadr') (fun ok s₄ h₄ => ?_) fun _ _ x => x.elim)
        cases ok with
        | false =>
          rw [if_neg Bool.false_ne_true] at h₄
          exact wpAny_pure ⟨rfl, go _ _ h₄⟩
        | true =>
          rw [if_pos rfl] at h₄
          refine wpAny_bind (wpAny_bind (wpAny_mono h₄ (fun y s₅ h₅ => ?_) fun _ _ x => x.elim))
          refine ex3 h₅ ?_
          clear h₅
          intro h₅' tk₅ nx hx9
          have qe1 := hx9.1
          have F₅ := hx9.2.1
          have N₅ := hx9.2.2.1
          have No₅ := hx9.2.2.2.1
          have off₅ := hx9.2.2.2.2.1
          have hJ₅ := hx9.2.2.2.2.2
          clear hx9
          subst qe1
          have zD := (N₅ (s₂.heap.objs.size, lst ys) (.tail _ (.head _))).1
          refine wpAny_bind (append_at (hsz := by show ys.toArray.size ≤ sizeLine; rw [List.size_toArray]; exact Nat.le_trans (hlen _ _ _ hJ') (Nat.le_trans hi hsz)) zD fun h₆ hs₆ hD₆ => ?_)
          refine wpAny_pure (wpAny_pure ⟨rfl, go (ys ++ [y]) _ ⟨h₆, tk₅, nx, rfl, F₅.change hs₆ hDL hD₀, fun p hp => ?_, fun p hp => ?_, off₅, hJ₅⟩⟩)
          · rcases List.mem_cons.mp hp with rfl | hp
            · exact ⟨hs₆.extBut _ _ (Ne.symm hDC) (N₅ _ (.head _)).1, hCL, hC₀⟩
            · rcases List.mem_cons.mp hp with rfl | hp
              · exact ⟨hD₆.trans (congrArg some (lst_snoc ys y)), hDL, hD₀⟩
              · exact ⟨hs₆.extBut _ _ (off₅ p hp).1 (N₅ p (.tail _ (.tail _ hp))).1, (N₅ p (.tail _ (.tail _ hp))).2⟩
          · exact ⟨hs₆.extBut _ _ (fun q => hDf (q ▸ No₂ p hp)) (No₅ p hp).1, (No₅ p hp).2⟩
      · obtain rfl : i = n := Nat.le_antisymm hi (Nat.not_lt.mp hlt)
        refine wpAny_bind (wpAny_standAt (wpAny_bind (wpAny_mono (W.done _ o _ hst' fun h₂ tk₂ g₂ hb₂ hk₂ => ?_) (fun r s₁ h₁ => h₁) fun _ _ x => x.elim)))
        have hx9 := up h₂ hk₂
        have F₂ := hx9.1
        have N₂ := hx9.2.1
        have hn₂ := hx9.2.2
        clear hx9
        exact wpAny_pure (hRR _ _ h₂ tk₂ g₂ _ ys news' (W.gtrans _ _ _ hG hb₂) F₂ N₂ (fun p hp => (off' p hp).1) hn₂ hC₀ hD₀ hCL hDL (Ne.symm hDC) (fun p hp => (off' p hp).2.1) hJ')
    · rcases List.mem_cons.mp hp with rfl | hp
      · exact ⟨hacc, hDL, hD₀⟩
      · exact ⟨old _ _ (N p hp).1, (N p hp).2⟩
  exact codeAny_compStart_list (loop _ rfl) (wpAny_mono (W.self 0 _ _ _ hst₁ (loop _ rfl)) (fun _ _ q => q) fun _ _ x => x.elim)
theorem Itr.list (hh : A.handled = none) (I l : Addr) (hne : l ≠ I) (vs : List Value) :
    Itr prog w A (fun h => h.IsList l vs.toArray) I vs.length (fun i v => vs[i]? = some v) [I] (fun a b => b = a) (fun i s o => ∃ oI, o = [(I, oI)] ∧ s.heap.get? I = some oI ∧ s.heap.IsListIter I l i ∧ s.heap.IsList l vs.toArray) := by
  have W := Walks.list (prog := prog) (w := w) hh I l hne vs.toArray
  have e : vs.toArray.size = vs.length := by simp
  refine ⟨fun _ => rfl, fun _ _ _ a b => b.trans a, ?_, ?_, ?_, ?_, ?_, ?_⟩
  · rintro i s o ⟨oI, rfl, h1, _⟩ p hp
    rw [List.mem_singleton.mp hp]; exact h1
  · rintro i s o ⟨oI, rfl, _⟩
    rfl
  · rintro i s o Q ⟨oI, rfl, h1, h2⟩ hi k
    refine W.item i s _ _ (by rw [e]; exact hi) h2 fun v h' tk hP hst hk => ?_
    obtain ⟨o', ho', r⟩ := hst.1
    exact k v h' tk s.gens _ (by simpa using hP) ⟨o', rfl, ho', ⟨o', ho', r⟩, hst.2⟩ rfl hk
  · rintro s o Q ⟨oI, rfl, h1, h2⟩ k
    rw [← e] at h2
    exact W.done s _ _ h2 fun h' tk hk => k h' tk s.gens rfl hk
  · rintro i s o Q ⟨oI, rfl, h1, h2⟩ k
    exact W.self i s _ _ h2 k
  · rintro i s s' o ⟨oI, rfl, h1, h2, h3⟩ hk hK _
    have := hk _ (.head _)
    refine ⟨oI, rfl, this, ?_, hK⟩
    obtain ⟨o', ho', r⟩ := h2
    rw [h1] at ho'; cases ho'
    exact ⟨oI, this, r⟩
theorem Itr.keys {K : Type} [DecidableEq K] {knd : KeyKind prog w K} (hh : A.handled = none) (I d : Addr) (hne : d ≠ I) (kvs : List (K × Value)) (ep : Nat) :
    Itr prog w A (fun h => h.DictAt knd d kvs ep) I kvs.length (fun i v => ∃ k x, kvs[i]? = some (k, x) ∧ knd.is k v = true) [I] (fun a b => b = a) (fun i s o => ∃ oI, o = [(I, oI)] ∧ s.heap.get? I = some oI ∧ s.heap.IsKeyIter I d i kvs.length ep ∧ s.heap.DictAt knd d kvs ep) := by
  have W := Walks.dictKeys (knd := knd) hh I d hne kvs ep
  refine ⟨fun _ => rfl, fun _ _ _ a b => b.trans a, ?_, ?_, ?_, ?_, ?_, ?_⟩
  · rintro i s o ⟨oI, rfl, h1, _⟩ p hp
    rw [List.mem_singleton.mp hp]; exact h1
  · rintro i s o ⟨oI, rfl, _⟩
    rfl
  · rintro i s o Q ⟨oI, rfl, h1, h2⟩ hi k
    refine W.item i s _ _ hi h2 fun v h' tk hP hst hk => ?_
    obtain ⟨o', ho', r⟩ := hst.1
    exact k v h' tk s.gens _ hP ⟨o', rfl, ho', ⟨o', ho', r⟩, hst.2⟩ rfl hk
  · rintro s o Q ⟨oI, rfl, h1, h2⟩ k
    exact W.done s _ _ h2 fun h' tk hk => k h' tk s.gens rfl hk
  · rintro i s o Q ⟨oI, rfl, h1, h2⟩ k
    exact W.self i s _ _ h2 k
  · rintro i s s' o ⟨oI, rfl, h1, h2, h3⟩ hk hK _
    have := hk _ (.head _)
    refine ⟨oI, rfl, this, ?_, hK⟩
    obtain ⟨o', ho', r⟩ := h2
    rw [h1] at ho'; cases ho'
    exact ⟨oI, this, r⟩
theorem Puts.name {x : Str} {px : Pos} {scope : Scope} {cl : List (Str × Addr)} {P : Nat → Value → Prop} {news : Led → Prop} (hkind : scope.kind = .function) (hx : scope.names.lookup x = some .local) :
    Puts prog w A h₀ L m (.Name x px) scope cl env P (fun v m' => m' x = some v) news := fun i v s C m' nx Q hp hn F N hnw hCL hC0 k =>
  wpAny_assign_Name (wpAny_storeName_local (lookup_relabel_local hx) hn (fun h₃ hn₃ hs₃ => k h₃ _ _ hn₃ (by simp) fun b ob hb e => hs₃.extBut b ob hb e) (by simp [compEnvC, relabel, hkind]))
theorem Puts.three {x₁ x₂ x₃ : Str} {p₁ p₂ p₃ tp : Pos} {tk : Nat} {scope : Scope} {cl : List (Str × Addr)} {P : Nat → Value → Prop} {news : Led → Prop} (hh : A.handled = none) (hkind : scope.kind = .function)
    (hx₁ : scope.names.lookup x₁ = some .local) (hx₂ : scope.names.lookup x₂ = some .local) (hx₃ : scope.names.lookup x₃ = some .local) (h12 : x₁ ≠ x₂) (h13 : x₁ ≠ x₃) (h23 : x₂ ≠ x₃)
    (B : Value → Value → Value → Value → Prop)
    (hP : ∀ i v, P i v → ∀ h nx, Fr h₀ L h m → News h₀ L h nx → news nx → ∃ T a b c, v = .ref T ∧ IsTup h T #[a, b, c] ∧ B v a b c) :
    Puts prog w A h₀ L m (.Tuple [.Name x₁ p₁, .Name x₂ p₂, .Name x₃ p₃] tk tp) scope cl env P (fun v m' => ∃ a b c, m' x₁ = some a ∧ m' x₂ = some b ∧ m' x₃ = some c ∧ B v a b c) news := by
  intro i v s C m' nx Q hp hn F N hnw hCL hC0 k
  obtain ⟨T, a, b, c, rfl, ht, hB⟩ := hP i v hp _ _ F N hnw
  refine assign_Tuple_tuple hh ht rfl rfl fun h₅ he => ?_
  have hnlt : C < s.heap.objs.size := hn.lt
  show wpAny (model prog w) A (assignInOrder [assign (.Name x₁ p₁) (compEnvC scope cl C env), assign (.Name x₂ p₂) (compEnvC scope cl C env), assign (.Name x₃ p₃) (compEnvC scope cl C env)] [a, b, c]) _ _ _
  have hloc : ((compEnvC scope cl C env).scope.kind == .class || ((compEnvC scope cl C env).scope.kind == .module && (compEnvC scope cl C env).locals != (compEnvC scope cl C env).globals)) = false := by simp [compEnvC, relabel, hkind]
  have hn₅ : h₅.Ns C m' := hn.at' fun o e => he C o (Nat.ne_of_lt hnlt) e
  refine assignInOrder_cons (wpAny_assign_Name (wpAny_storeName_local (lookup_relabel_local hx₁) hn₅ (fun h₆ hn₆ hs₆ => ?_) hloc))
  refine assignInOrder_cons (wpAny_assign_Name (wpAny_storeName_local (lookup_relabel_local hx₂) hn₆ (fun h₇ hn₇ hs₇ => ?_) hloc))
  refine assignInOrder_cons (wpAny_assign_Name (wpAny_storeName_local (lookup_relabel_local hx₃) hn₇ (fun h₈ hn₈ hs₈ => ?_) hloc))
  refine assignInOrder_nil (k h₈ _ _ hn₈ ⟨a, b, c, ?_, ?_, ?_, hB⟩ fun b ob hb e => ?_)
  · simp [h12, h13]
  · simp [h23]
  · simp
  · exact hs₈.extBut b ob hb (hs₇.extBut b ob hb (hs₆.extBut b ob hb (he b ob (Nat.ne_of_lt (Heap.lt_size e)) e)))
/-- a comprehension: its source, then the iterator, then the block -/
theorem ListComp_open {elt iter target : PySem.Expr} {ifs : List PySem.Expr} {scope : Scope} {cl : List (Str × Addr)} {pos : Pos} {Q : Value → Shared → Prop}
    (hclos : closureFor scope env = pure cl) (hkind : scope.kind = .function) (hnames : ∀ y ∈ scope.names, y.2 = .local → scope.names.lookup y.1 = some .local)
    (h : wpAny (model prog w) A (eval iter env) (fun xv s₁ => wpAny (model prog w) A (pyIter xv) (fun it s₂ => wpAny (model prog w) A (newList []) (fun acc s₃ => wpAny (model prog w) A (newFunctionEnv scope env.globals cl [] env.qual none .none (some env)) (fun cenv s₄ =>
      codeAny (model prog w) A (.compStart (.ListComp elt [⟨target, iter, ifs, 0⟩] scope pos) 0 it acc { cenv with scope := relabel scope env }) (compPost (model prog w) A (fun _ _ => False) none Q acc cenv.locals) s₄) (fun _ _ => False) s₃) (fun _ _ => False) s₂) (fun _ _ => False) s₁) (fun _ _ => False) s)
    (hs : ∀ x, foldedSetIterable iter env x = pure x := by intro _; rfl) :
    wpAny (model prog w) A (eval (.ListComp elt [⟨target, iter, ifs, 0⟩] scope pos) env) Q (fun _ _ => False) s := by
  rw [eval_ListComp]
  exact wpAny_comprehension_free (use := none) rfl hs hclos hkind hnames h
theorem ListComp_assign {elt iter target : PySem.Expr} {ifs : List PySem.Expr} {y : Str} {py : Pos} {scope : Scope} {cl : List (Str × Addr)} {pos spos : Pos} {Q : Flow → Shared → Prop}
    (hsw : swapsWith (.ListComp elt [⟨target, iter, ifs, 0⟩] scope pos) (some (.Name y py)) spos.line env = pure true)
    (hclos : closureFor scope env = pure cl) (hkind : scope.kind = .function) (hnames : ∀ y ∈ scope.names, y.2 = .local → scope.names.lookup y.1 = some .local)
    (h : wpAny (model prog w) A (eval iter env) (fun xv s₁ => wpAny (model prog w) A (pyIter xv) (fun it s₂ => wpAny (model prog w) A (newList []) (fun acc s₃ => wpAny (model prog w) A (newFunctionEnv scope env.globals cl [] env.qual none .none (some env)) (fun cenv s₄ =>
      codeAny (model prog w) A (.compStart (.ListComp elt [⟨target, iter, ifs, 0⟩] scope pos) 0 it acc { cenv with scope := relabel scope env }) (compPost (model prog w) A (fun _ _ => False) (some (assign (.Name y py) env)) (fun _ s' => Q .next s') acc cenv.locals) s₄) (fun _ _ => False) s₃) (fun _ _ => False) s₂) (fun _ _ => False) s₁) (fun _ _ => False) s)
    (hs : ∀ x, foldedSetIterable iter env x = pure x := by intro _; rfl) :
    wpAny (model prog w) A (exec (.Assign [.Name y py] (.ListComp elt [⟨target, iter, ifs, 0⟩] scope pos) spos) env) Q (fun _ _ => False) s := by
  rw [exec_Assign_Name_used _ _ _ _ hsw]
  refine wpAny_bind (wpAny_standAt (wpAny_bind ?_))
  show wpAny _ A (do let _ ← comprehension (.ListComp elt [⟨target, iter, ifs, 0⟩] scope pos) scope env _ (newList []) false (eval iter env) (some (assign (.Name y py) env))) _ _ s
  exact wpAny_bind (wpAny_mono (wpAny_comprehension_free (use := some (assign (.Name y py) env)) (Q := fun _ s' => Q .next s') rfl hs hclos hkind hnames h) (fun _ s' hq => wpAny_pure (wpAny_pure hq)) fun _ _ e => e)
/-- where the block's end leads: the answer itself, or the name that it is stored under -/
noncomputable def Ends (h₀ : Heap) (L : Addr) (m : Str → Option Value) (use : Option Str) (Q : Value → Shared → Prop) (n : Nat) (J : Kt) (s : Shared) (G : Array GenState → Array GenState → Prop) : Prop :=
  ∀ D h tk g ys nx, G s.gens g → J n ys nx → News h₀ L h ((D, lst ys) :: nx) → (∀ p ∈ nx, @Ne Nat p.1 D) → Fr h₀ L h (match use with | none => m | some y => fun z => if z = y then some (.ref D) else m z) → Q (.ref D) { s with heap := h, toks := tk, gens := g }
theorem compPost_none {n : Nat} {J : Kt} {G : Array GenState → Array GenState → Prop} {Q : Value → Shared → Prop} {s₂ : Shared} (hE : Ends h₀ L m none Q n J s₂ G) :
    ∀ D C h tk g m' ys news', G s₂.gens g → Fr h₀ L h m → News h₀ L h ((D, lst ys) :: news') → (∀ p ∈ news', @Ne Nat p.1 D) → h.Ns C m' → h₀.get? C = none → h₀.get? D = none → C ≠ L → D ≠ L → C ≠ D → (∀ p ∈ news', p.1 ≠ C) → J n ys news' →
      compPost (model prog w) A (fun _ _ => False) none Q (.ref D) C (.ok .next) { s₂ with heap := h, toks := tk, gens := g } := by
  intro D C h tk g m' ys news' hG F' N' o1 hn hC₀ hD₀ hCL hDL hCD offC hJ
  refine ⟨m', hn, fun h'' hs'' => hE D h'' tk g ys news' hG hJ (fun p hp => ?_) o1 (F'.change hs'' hCL hC₀)⟩
  refine ⟨hs''.extBut _ _ ?_ (N' p hp).1, (N' p hp).2⟩
  rcases List.mem_cons.mp hp with rfl | hp
  · exact Ne.symm hCD
  · exact offC p hp
theorem compPost_some {n : Nat} {J : Kt} {G : Array GenState → Array GenState → Prop} {Q : Value → Shared → Prop} {s₂ : Shared} {y : Str} {py : Pos} (hL : env.locals = L) (hy : env.kindOf y = some .local) (hp : (env.scope.kind == .class || (env.scope.kind == .module && env.locals != env.globals)) = false)
    (hE : ∀ D h tk g ys nx, G s₂.gens g → J n ys nx → News h₀ L h ((D, lst ys) :: nx) → (∀ p ∈ nx, @Ne Nat p.1 D) → Fr h₀ L h (fun z => if z = y then some (.ref D) else m z) → Q .none { s₂ with heap := h, toks := tk, gens := g }) :
    ∀ D C h tk g m' ys news', G s₂.gens g → Fr h₀ L h m → News h₀ L h ((D, lst ys) :: news') → (∀ p ∈ news', @Ne Nat p.1 D) → h.Ns C m' → h₀.get? C = none → h₀.get? D = none → C ≠ L → D ≠ L → C ≠ D → (∀ p ∈ news', p.1 ≠ C) → J n ys news' →
      compPost (model prog w) A (fun _ _ => False) (some (assign (.Name y py) env)) Q (.ref D) C (.ok .next) { s₂ with heap := h, toks := tk, gens := g } := by
  subst hL
  intro D C h tk g m' ys news' hG F' N' o1 hn hC₀ hD₀ hCL hDL hCD offC hJ
  refine wpAny_assign_Name (wpAny_storeName_local hy F'.ns (fun h' hn' hs' => ?_) hp)
  have F₂ := F'.set hn' hs'
  have N₂ : News h₀ env.locals h' ((D, lst ys) :: news') := N'.set hs'
  refine ⟨m', hn.sameBut hs' hCL, fun h'' hs'' => hE D h'' _ g ys news' hG hJ (fun p hp => ?_) o1 (F₂.change hs'' hCL hC₀)⟩
  refine ⟨hs''.extBut _ _ ?_ (N₂ p hp).1, (N₂ p hp).2⟩
  rcases List.mem_cons.mp hp with rfl | hp
  · exact Ne.symm hCD
  · exact offC p hp
theorem comp_list {elt iter target : PySem.Expr} {ifs : List PySem.Expr} {scope : Scope} {cl : List (Str × Addr)} {pos : Pos} {l : Addr} {vs : List Value} {news : Led} {Bd : Value → (Str → Option Value) → Prop} {RR : Value → Addr → Result → Shared → Prop} (J : Kt)
    (hh : A.handled = none) (hl : s.heap.IsList l vs.toArray) (hK : ∀ h nx i ys, Fr h₀ L h m → News h₀ L h nx → J i ys nx → h.IsList l vs.toArray) (hsz : vs.length ≤ sizeLine)
    (hcell : ∀ y ∈ scope.names, y.2 ≠ .cell) (hkind : scope.kind = .function) (F : Fr h₀ L s.heap m) (N : News h₀ L s.heap news) (hj : J 0 [] news)
    (hput : Puts prog w A h₀ L m target scope cl env (fun i v => vs[i]? = some v) Bd (fun nx => ∃ i ys, J i ys nx))
    (hlet : (∃ x px, target = .Name x px) ∨ ((∃ elts k p, target = .Tuple elts k p) ∧ ∀ (i : Nat) (v : Value), vs[i]? = some v → ∃ T, v = Value.ref T))
    (hlen : ∀ i ys nx, J i ys nx → ys.length ≤ i)
    (turn : ∀ i v ys nx h tk I oI C oC D m₂, i < vs.length → vs[i]? = some v → J i ys nx → NsObj oC m₂ → Bd v m₂ → Fr h₀ L h m → News h₀ L h ((C, oC) :: (D, lst ys) :: nx) → News h₀ L h [(I, oI)] → OffC D C [I] nx → (@Ne Nat C D) → (@Ne Nat I C) → (@Ne Nat I D) → ∀ (Y : Value → Shared → Prop) (Z : Shared → Prop), (∀ y s₄, CEnd h₀ L m (J (i + 1) (ys ++ [y])) [I] [(I, oI)] C oC D (lst ys) { s with heap := h, toks := tk } s₄ → Y y s₄) → (∀ s₃, CEnd h₀ L m (J (i + 1) ys) [I] [(I, oI)] C oC D (lst ys) { s with heap := h, toks := tk } s₃ → Z s₃) →
      wpAny (model prog w) A (testsOf ifs (compEnvC scope cl C env)) (fun ok s₃ => if ok = true
        then wpAny (model prog w) A (eval elt (compEnvC scope cl C env)) Y (fun _ _ => False) s₃
        else Z s₃) (fun _ _ => False) { s with heap := h, toks := tk })
    (hRR : ∀ D C h tk g m' ys news', g = s.gens → Fr h₀ L h m → News h₀ L h ((D, lst ys) :: news') → (∀ p ∈ news', @Ne Nat p.1 D) → h.Ns C m' → h₀.get? C = none → h₀.get? D = none → C ≠ L → D ≠ L → C ≠ D → (∀ p ∈ news', p.1 ≠ C) → J vs.length ys news' → RR (.ref D) C (.ok .next) { s with heap := h, toks := tk, gens := g }) :
    wpAny (model prog w) A (pyIter (.ref l)) (fun it s₂ => wpAny (model prog w) A (newList []) (fun acc s₃ => wpAny (model prog w) A (newFunctionEnv scope env.globals cl [] env.qual none .none (some env)) (fun cenv s₄ =>
      codeAny (model prog w) A (.compStart (.ListComp elt [⟨target, iter, ifs, 0⟩] scope pos) 0 it acc { cenv with scope := relabel scope env }) (RR acc cenv.locals) s₄) (fun _ _ => False) s₃) (fun _ _ => False) s₂) (fun _ _ => False) s := by
  have hol := hl
  obtain ⟨ol, hol, _⟩ := hol
  have hlt : l < s.heap.objs.size := Heap.lt_size hol
  have hne : l ≠ s.heap.objs.size := Nat.ne_of_lt hlt
  refine wpAny_pyIter_list hl ?_
  refine blockW (s₂ := { s with heap := s.heap.push _ }) (own := fun i s' o => ∃ oI, o = [(s.heap.objs.size, oI)] ∧ s'.heap.get? s.heap.objs.size = some oI ∧ s'.heap.IsListIter s.heap.objs.size l i ∧ s'.heap.IsList l vs.toArray) (adr := [s.heap.objs.size]) (n := vs.length) (P := fun i v => vs[i]? = some v) (G := fun a b => b = a) (Bd := Bd) (news := news) J
    (Itr.list hh _ l hne vs) hK hsz hcell hkind ⟨_, rfl, Heap.get?_push_size _ rfl, ⟨_, Heap.get?_push_size _ rfl, rfl, rfl⟩, hl.push _⟩ (F.push _) (fun p hp => ⟨Heap.get?_push_of_some _ (N p hp).1, (N p hp).2⟩) ?_ ?_ hj hput ?_ ?_ hlen ?_
  · intro a ha
    rw [List.mem_singleton.mp ha]
    exact ⟨Nat.ne_of_gt F.ns.lt, next_is_new F⟩
  · intro p hp q
    exact Nat.ne_of_lt (Heap.lt_size (N p hp).1) (List.mem_singleton.mp q)
  · rintro i v s' o Q' hP ⟨oI, rfl, _, hit, _⟩ hQ
    rcases hlet with ⟨x, px, rfl⟩ | ⟨⟨elts, k, p, rfl⟩, hT⟩
    · exact wpAny_pure hQ
    · obtain ⟨T, rfl⟩ := hT i v hP
      exact wpAny_letOwnedTupleGo_listiter hit hQ
  · rintro i v ys nx h tk g o C oC D m₂ rfl hi hP hJ ⟨oI, rfl, _, _, _⟩ hoC hB F' N' No off hCD hI
    have hI' := hI _ (.head _)
    exact turn i v ys nx h tk _ oI C oC D m₂ hi hP hJ hoC hB F' N' No off hCD hI'.1 hI'.2 _ _ (fun _ _ h => h) (fun _ h => h)
  · intro D C h tk g m' ys news' hG
    exact hRR D C h tk g m' ys news' hG
theorem comp_listN {elt iter target : PySem.Expr} {ifs : List PySem.Expr} {scope : Scope} {cl : List (Str × Addr)} {pos : Pos} {l : Addr} {vs : List Value} {news : Led} {Bd : Value → (Str → Option Value) → Prop} {Q : Value → Shared → Prop} (J : Kt)
    (hh : A.handled = none) (hl : s.heap.IsList l vs.toArray) (hK : ∀ h nx i ys, Fr h₀ L h m → News h₀ L h nx → J i ys nx → h.IsList l vs.toArray) (hsz : vs.length ≤ sizeLine)
    (hcell : ∀ y ∈ scope.names, y.2 ≠ .cell) (hkind : scope.kind = .function) (F : Fr h₀ L s.heap m) (N : News h₀ L s.heap news) (hj : J 0 [] news)
    (hput : Puts prog w A h₀ L m target scope cl env (fun i v => vs[i]? = some v) Bd (fun nx => ∃ i ys, J i ys nx))
    (hlet : (∃ x px, target = .Name x px) ∨ ((∃ elts k p, target = .Tuple elts k p) ∧ ∀ (i : Nat) (v : Value), vs[i]? = some v → ∃ T, v = Value.ref T))
    (hlen : ∀ i ys nx, J i ys nx → ys.length ≤ i)
    (turn : ∀ i v ys nx h tk I oI C oC D m₂, i < vs.length → vs[i]? = some v → J i ys nx → NsObj oC m₂ → Bd v m₂ → Fr h₀ L h m → News h₀ L h ((C, oC) :: (D, lst ys) :: nx) → News h₀ L h [(I, oI)] → OffC D C [I] nx → (@Ne Nat C D) → (@Ne Nat I C) → (@Ne Nat I D) → ∀ (Y : Value → Shared → Prop) (Z : Shared → Prop), (∀ y s₄, CEnd h₀ L m (J (i + 1) (ys ++ [y])) [I] [(I, oI)] C oC D (lst ys) { s with heap := h, toks := tk } s₄ → Y y s₄) → (∀ s₃, CEnd h₀ L m (J (i + 1) ys) [I] [(I, oI)] C oC D (lst ys) { s with heap := h, toks := tk } s₃ → Z s₃) →
      wpAny (model prog w) A (testsOf ifs (compEnvC scope cl C env)) (fun ok s₃ => if ok = true
        then wpAny (model prog w) A (eval elt (compEnvC scope cl C env)) Y (fun _ _ => False) s₃
        else Z s₃) (fun _ _ => False) { s with heap := h, toks := tk })
    (hE : ∀ D h tk ys nx, J vs.length ys nx → News h₀ L h ((D, lst ys) :: nx) → (∀ p ∈ nx, @Ne Nat p.1 D) → Fr h₀ L h m → Q (.ref D) { s with heap := h, toks := tk }) :
    wpAny (model prog w) A (pyIter (.ref l)) (fun it s₂ => wpAny (model prog w) A (newList []) (fun acc s₃ => wpAny (model prog w) A (newFunctionEnv scope env.globals cl [] env.qual none .none (some env)) (fun cenv s₄ =>
      codeAny (model prog w) A (.compStart (.ListComp elt [⟨target, iter, ifs, 0⟩] scope pos) 0 it acc { cenv with scope := relabel scope env }) (compPost (model prog w) A (fun _ _ => False) none Q acc cenv.locals) s₄) (fun _ _ => False) s₃) (fun _ _ => False) s₂) (fun _ _ => False) s :=
  comp_list (RR := fun acc C => compPost (model prog w) A (fun _ _ => False) none Q acc C) J hh hl hK hsz hcell hkind F N hj hput hlet hlen turn
    (compPost_none (n := vs.length) (J := J) (G := fun a b => b = a) (s₂ := s) (by rintro D h tk g ys nx rfl hJ N' o1 F'; exact hE D h tk ys nx hJ N' o1 F'))
theorem comp_listS {elt iter target : PySem.Expr} {ifs : List PySem.Expr} {scope : Scope} {cl : List (Str × Addr)} {pos : Pos} {l : Addr} {vs : List Value} {news : Led} {Bd : Value → (Str → Option Value) → Prop} {Q : Value → Shared → Prop} {y : Str} {py : Pos} (J : Kt)
    (hh : A.handled = none) (hl : s.heap.IsList l vs.toArray) (hK : ∀ h nx i ys, Fr h₀ L h m → News h₀ L h nx → J i ys nx → h.IsList l vs.toArray) (hsz : vs.length ≤ sizeLine)
    (hcell : ∀ y ∈ scope.names, y.2 ≠ .cell) (hkind : scope.kind = .function) (F : Fr h₀ L s.heap m) (N : News h₀ L s.heap news) (hj : J 0 [] news)
    (hput : Puts prog w A h₀ L m target scope cl env (fun i v => vs[i]? = some v) Bd (fun nx => ∃ i ys, J i ys nx))
    (hlet : (∃ x px, target = .Name x px) ∨ ((∃ elts k p, target = .Tuple elts k p) ∧ ∀ (i : Nat) (v : Value), vs[i]? = some v → ∃ T, v = Value.ref T))
    (hlen : ∀ i ys nx, J i ys nx → ys.length ≤ i)
    (turn : ∀ i v ys nx h tk I oI C oC D m₂, i < vs.length → vs[i]? = some v → J i ys nx → NsObj oC m₂ → Bd v m₂ → Fr h₀ L h m → News h₀ L h ((C, oC) :: (D, lst ys) :: nx) → News h₀ L h [(I, oI)] → OffC D C [I] nx → (@Ne Nat C D) → (@Ne Nat I C) → (@Ne Nat I D) → ∀ (Y : Value → Shared → Prop) (Z : Shared → Prop), (∀ y s₄, CEnd h₀ L m (J (i + 1) (ys ++ [y])) [I] [(I, oI)] C oC D (lst ys) { s with heap := h, toks := tk } s₄ → Y y s₄) → (∀ s₃, CEnd h₀ L m (J (i + 1) ys) [I] [(I, oI)] C oC D (lst ys) { s with heap := h, toks := tk } s₃ → Z s₃) →
      wpAny (model prog w) A (testsOf ifs (compEnvC scope cl C env)) (fun ok s₃ => if ok = true
        then wpAny (model prog w) A (eval elt (compEnvC scope cl C env)) Y (fun _ _ => False) s₃
        else Z s₃) (fun _ _ => False) { s with heap := h, toks := tk })
    (hL : env.locals = L) (hy : env.kindOf y = some .local) (hp : (env.scope.kind == .class || (env.scope.kind == .module && env.locals != env.globals)) = false)
    (hE : ∀ D h tk ys nx, J vs.length ys nx → News h₀ L h ((D, lst ys) :: nx) → (∀ p ∈ nx, @Ne Nat p.1 D) → Fr h₀ L h (fun z => if z = y then some (.ref D) else m z) → Q .none { s with heap := h, toks := tk }) :
    wpAny (model prog w) A (pyIter (.ref l)) (fun it s₂ => wpAny (model prog w) A (newList []) (fun acc s₃ => wpAny (model prog w) A (newFunctionEnv scope env.globals cl [] env.qual none .none (some env)) (fun cenv s₄ =>
      codeAny (model prog w) A (.compStart (.ListComp elt [⟨target, iter, ifs, 0⟩] scope pos) 0 it acc { cenv with scope := relabel scope env }) (compPost (model prog w) A (fun _ _ => False) (some (assign (.Name y py) env)) Q acc cenv.locals) s₄) (fun _ _ => False) s₃) (fun _ _ => False) s₂) (fun _ _ => False) s :=
  comp_list (RR := fun acc C => compPost (model prog w) A (fun _ _ => False) (some (assign (.Name y py) env)) Q acc C) J hh hl hK hsz hcell hkind F N hj hput hlet hlen turn
    (compPost_some (n := vs.length) (J := J) (G := fun a b => b = a) (s₂ := s) hL hy hp (by rintro D h tk g ys nx rfl hJ N' o1 F'; exact hE D h tk ys nx hJ N' o1 F'))
end
end
section
open Builtin Builtin.Str StrLaws
theorem str_ext {x y : Str} (h : x.cps.toList = y.cps.toList) : x = y := Str.ext' (Array.toList_inj.mp h)
theorem flat_free (c : Nat) (z : List Nat) : ∀ l : List Nat, c ∉ l → l.flatMap (fun d => if d = c then z else [d]) = l
  | [], _ => rfl
  | k :: r, h => by
    have h1 : ¬ k = c := fun e => h (e ▸ List.mem_cons_self ..)
    have h2 : c ∉ r := fun m => h (List.mem_cons_of_mem _ m)
    rw [List.flatMap_cons, if_neg h1, flat_free c z r h2]; rfl
theorem flat_join (c : Nat) (z : Str) : ∀ parts : List Str, (∀ p ∈ parts, c ∉ p.cps.toList) → (Str.join ⟨#[c]⟩ parts).cps.toList.flatMap (fun d => if d = c then z.cps.toList else [d]) = (Str.join z parts).cps.toList
  | [], _ => rfl
  | [p], h => flat_free c _ _ (h p (List.mem_singleton.mpr rfl))
  | p :: q :: r, h => by
    have ih := flat_join c z (q :: r) fun a ha => h a (List.mem_cons_of_mem _ ha)
    show (p ++ ⟨#[c]⟩ ++ Str.join ⟨#[c]⟩ (q :: r)).cps.toList.flatMap _ = (p ++ z ++ Str.join z (q :: r)).cps.toList
    simp only [Str.cps_append, Array.toList_append, List.flatMap_append]
    rw [ih, flat_free c _ _ (h p (List.mem_cons_self ..))]
    simp
theorem replace_flat (x z : Str) (c : Nat) : (Txt.replace x ⟨#[c]⟩ z).cps.toList = x.cps.toList.flatMap (fun d => if d = c then z.cps.toList else [d]) := by
  rw [replace_one, ← flat_join c z _ (split_free x c), join_split]
theorem flat_len (c : Nat) (z : List Nat) (n : Nat) (hz : z.length ≤ n) (h1 : 1 ≤ n) : ∀ l : List Nat, (l.flatMap (fun d => if d = c then z else [d])).length ≤ l.length * n
  | [] => Nat.zero_le _
  | k :: r => by
    rw [List.flatMap_cons, List.length_append, List.length_cons, Nat.add_mul, Nat.one_mul]
    have := flat_len c z n hz h1 r
    split
    · omega
    · rw [List.length_singleton]; omega
theorem replace_len (x z : Str) (c n : Nat) (hz : z.length ≤ n) (h1 : 1 ≤ n) : (Txt.replace x ⟨#[c]⟩ z).length ≤ x.length * n := by
  have e : ∀ y : Str, y.length = y.cps.toList.length := fun y => by simp [Str.length]
  rw [e, replace_flat, e x]
  exact flat_len c _ n (by rwa [← e]) h1 _
theorem splitMax_kv (k v : Str) (hk : 61 ∉ k.cps.toList) : Txt.splitMax (k ++ ⟨#[61]⟩ ++ v) ⟨#[61]⟩ 1 = [k, v] := by
  have hin : (k ++ ⟨#[61]⟩ ++ v).cps.toList = k.cps.toList ++ 61 :: v.cps.toList := by simp [Str.cps_append]
  have hlen : (k ++ ⟨#[61]⟩ ++ v).length = k.length + 1 + v.length := by rw [Str.length_append, Str.length_append]; rfl
  unfold Txt.splitMax
  have hkind : ¬ (decide ((k ++ ⟨#[61]⟩ ++ v).length < (⟨#[61]⟩ : Str).length) || decide (Builtin.Str.strKind (k ++ ⟨#[61]⟩ ++ v) < Builtin.Str.strKind ⟨#[61]⟩)) = true := by
    simp only [Bool.or_eq_true, decide_eq_true_eq, not_or]
    refine ⟨by rw [hlen]; show ¬ _ < 1; omega, ?_⟩
    have : Builtin.Str.strKind ⟨#[61]⟩ = 1 := by decide +kernel
    rw [this]
    unfold Builtin.Str.strKind
    repeat' split
    all_goals omega
  rw [if_neg hkind]
  have hat : ∀ i, At (k ++ ⟨#[61]⟩ ++ v) ⟨#[61]⟩ (k ++ ⟨#[61]⟩ ++ v).length i ↔ (k ++ ⟨#[61]⟩ ++ v).cps.toList[i]? = some 61 := fun i => subAt_one _ 61 i
  have hlim : limitOf (k ++ ⟨#[61]⟩ ++ v) 1 = 1 := rfl
  rw [hlim]
  have hkl : k.cps.toList.length = k.length := by simp [Str.length]
  have hfirst : At (k ++ ⟨#[61]⟩ ++ v) ⟨#[61]⟩ (k ++ ⟨#[61]⟩ ++ v).length k.length := by
    rw [hat, hin, ← hkl]; simp
  rcases occ_head (k ++ ⟨#[61]⟩ ++ v) ⟨#[61]⟩ 1 (Nat.le_refl _) with ⟨h0, hn⟩ | ⟨i, r, h0, hi, hmin⟩
  · exact absurd hfirst (hn _)
  · have hr : r = [] := by
      have := occ_length_le (k ++ ⟨#[61]⟩ ++ v) ⟨#[61]⟩ 0 (k ++ ⟨#[61]⟩ ++ v).length 1
      rw [h0, List.length_cons] at this
      exact List.eq_nil_of_length_eq_zero (by omega)
    have hik : i = k.length := by
      rcases Nat.lt_trichotomy i k.length with h | h | h
      · exfalso
        rw [hat, hin, List.getElem?_append_left (by omega)] at hi
        exact hk (List.mem_of_getElem? hi)
      · exact h
      · exact absurd hfirst (hmin _ h)
    subst hr
    subst hik
    rw [h0, if_neg (by simp)]
    show [strSub _ 0 k.length, strSub _ (k.length + 1) (k ++ ⟨#[61]⟩ ++ v).length] = _
    congr 1
    · apply str_ext
      rw [strSub_toList, hin, ← hkl]; simp
    · congr 1
      apply str_ext
      rw [strSub_toList, hin, hlen, ← hkl]
      have hvl : v.cps.toList.length = v.length := by simp [Str.length]
      rw [show (k.cps.toList ++ 61 :: v.cps.toList) = (k.cps.toList ++ [61]) ++ v.cps.toList by simp, List.drop_append_of_le_length (by simp)]
      rw [show k.cps.toList.length + 1 = (k.cps.toList ++ [61]).length by simp, List.drop_length, List.nil_append]
      exact List.take_of_length_le (by rw [hvl]; simp)
end
set_option pp.maxSteps 4000
set_option pp.deepTerms false
set_option pp.deepTerms.threshold 6
local macro_rules | `(tactic| size_fits) => `(tactic| (simp only [sizeLine_eq, len1, Str.length_append, Array.size_push, List.size_toArray, Array.size_append, List.length_append, List.length_cons, List.length_nil]; first | exact Nat.le_of_ble_eq_true rfl | omega))
local macro_rules | `(tactic| walk_at "execs cons") => `(tactic| (k_here; (fail_if_success (with_reducible refine gen_toks (by assumption) ?_)); (with_reducible refine gen_toks (by first | exact Nat.succ_pos _ | omega) ?_); intro tk0 htk0))
local macro_rules | `(tactic| walk_at "call builtin:str.replace") => `(tactic| (k_here; (with_reducible refine replace_pos ?r1 ?r2 ?r3 ?r4 ?r5 ?r6 ?r7 ?_); (case r1 => (dsimp only; omega)); (case r2 => omega); (case r3 => omega); (case r4 => omega); (case r5 => decide +kernel); (case r6 => omega); (case r7 => decide +kernel); intro tR kR hR))
local macro_rules | `(tactic| ktr_room) => `(tactic| ((try simp only [depth_under_make, depth_under_kw, depth_in1, depth_deeper, depth_caller]); (try dsimp only [ktrTop]); (have hr9 : recursionLimit = 1000 := rfl); omega))
local macro_rules | `(tactic| ktr_units) => `(tactic| ((have hcL9 := cLine_is); (try simp only [units_in1, units_deeper, Around.mark_units, units_caller]); (try dsimp only [ktrTop]); omega))
section
section
variable {prog : Program} {w : World} {A A₀ : Around} {s : Shared} {K : Frag} {L : Addr} {h₀ base : Heap} {m mg mb : Str → Option Value} {p : Program} {loose : List Str} {mean : ExcName → Option Value} {Q : Value → Shared → Prop}
theorem enterHC {env : Env} {outer : List Env} {name qual : Str} {params : Arguments} {body : List Stmt} {scope : Scope} {dV kV doc pm cdv ct oc : Value} {an od : Option Addr} {osl : Array (Option Value)} {f : Addr} {vs : List Value} {binds : List (Str × Value)}
    (B : Below A₀ base outer h₀) (F : Fr h₀ L s.heap m) (X₀ : K.In h₀) (T : Top p loose mean mg mb h₀) (hA : A.frames = some (env :: outer)) (hf : env.frame = some L) (hke : env.scope.kind = .function)
    (ho : K.lookup f = some ⟨oc, od, .func (fnOf name qual params body scope dV kV doc pm an cdv ct), osl⟩) (hcd : codeIn K cdv qual = true) (hroom : A.depth < recursionLimit)
    (hbind : BindsTo s (fnOf name qual params body scope dV kV doc pm an cdv ct) ⟨vs, []⟩ binds) (hkind : (binds.all fun y => scope.names.lookup y.1 == some .local || scope.names.lookup y.1 == some .cell) = true)
    (hnd : ((cellsFrom 0 scope.names []).map (·.1)).Nodup)
    (h : ∀ L' h₁ tk cells, Fr s.heap L' h₁ (bindL (envOfC qual scope L' f cdv).kindOf binds fun _ => none) → News s.heap L' h₁ cells →
      CellsAre (bindC (envOfC qual scope L' f cdv).kindOf binds fun _ => none) (cellsFrom (L' + 1) scope.names []) cells → Below A base (env :: outer) s.heap → K.In s.heap → Top p loose mean mg mb s.heap →
      wpAny (model prog w) (A.deeper (envOfC qual scope L' f cdv)) (execs body (envOfC qual scope L' f cdv))
        (fun fl s' => Fin Q (match fl with | .ret v => v | _ => .none) s') (fun _ _ => False)
        { s with heap := h₁, toks := tk })
    (hco : scope.isCoroutine = false) (hgen : scope.isGenerator = false) (hk : scope.kind = .function) : wpAny (model prog w) A (call (.ref f) vs) Q (fun _ _ => False) s := by
  obtain ⟨FG, BG, st, lv⟩ := groundX (R := fun _ _ => True) B F (News.nil (L := L) (h := s.heap) (h₀ := h₀)) hA hf hke
  refine wpAny_call (codeAny_call_function (fd := fnX name qual params body scope [] dV kV doc pm an cdv ct) hroom ((X₀.keeps F.keep) _ _ ho) rfl hco hgen rfl (codeRec_of (X₀.keeps F.keep) hcd) (hbind _ _ _ _ ?_))
  refine wpAny_newFunctionEnv_cells hk (kindsX hkind _) fun env' he s' x => ?_
  subst he
  refine ⟨(T.nolimit.keeps F.keep).keeps x.toInCall.keep, codeAny_func ?_⟩
  obtain ⟨h₁, tk, rfl, _⟩ := x.done
  have hk₁ := x.toInCall.keep
  obtain ⟨cells, NC, Y⟩ := Cl.news (h₀ := s.heap) (Nat.le_refl _) fun n c hm => ⟨x.cell n c (lookup_of_mem_nodup (cellsFrom_names scope.names 0 (s.heap.objs.size + 1) [] [] rfl ▸ hnd) hm), x.above n c hm⟩
  exact wpAny_mono (h s.heap.objs.size h₁ tk cells ⟨x.toInCall.ns, hk₁, Nat.le_refl _⟩ NC Y BG (X₀.keeps F.keep) (T.keeps F.keep)) (fun fl s' hl => hl) fun _ _ y => y.elim
end
end
section
section
open PySem.Spec PySem.Calls
variable {prog : Program} {w : World} {A : Around} {E : Value → Shared → Prop} {s : Shared} {h₀ : Heap} {L : Addr} {m : Str → Option Value} {news : List (Addr × Obj)}
theorem adjust_to (b n : Nat) (hb : b ≤ n) : Builtin.Slice.sliceAdjust none (some (b : Int)) 1 (n : Int) = (0, (b : Int)) := by
  unfold Builtin.Slice.sliceAdjust
  have h1 : ¬ ((1 : Int) < 0) := by omega
  have h2 : ¬ ((b : Int) < 0) := by omega
  simp only [h1, h2, if_false]
  congr 1
  omega
theorem places_to (b : Nat) : Builtin.Slice.slicePlaces 0 (b : Int) 1 = b := by
  unfold Builtin.Slice.slicePlaces
  have h1 : (1 : Int) > 0 := by omega
  simp only [h1, if_true, Int.ediv_one]
  split <;> omega
theorem sliceApplied_to {sl : Addr} {b n : Nat} {u : Tok} {Q : Int × Int × Nat → Shared → Prop} (hs : s.heap.IsSliceOf sl .none (.int b u) .none) (hb : b ≤ n) (h : Q (0, 1, b) s) :
    wpAny (model prog w) A (Builtin.Slice.sliceApplied (.ref sl) (pure (n : Int))) Q E s := by
  obtain ⟨os, hos, hcs, hds⟩ := id hs
  unfold Builtin.Slice.sliceApplied Builtin.Slice.sliceFields
  refine wpAny_bind (wpAny_bind (wpAny_field hos hds (x := .none) rfl (wpAny_bind (wpAny_field hos hds (x := .int b u) rfl (wpAny_bind (wpAny_field hos hds (x := .none) rfl (wpAny_pure ?_)))))))
  refine wpAny_bind (slicePart_none ?_)
  show wpAny _ _ (if ((1 : Int) == 0) = true then _ else _) _ _ s
  rw [if_neg (by decide)]
  refine wpAny_bind (slicePart_none (wpAny_bind (slicePart_int (wpAny_bind (wpAny_pure ?_)))))
  show wpAny _ _ (match Builtin.Slice.sliceAdjust none (some (b : Int)) 1 (n : Int) with | (lo, hi) => pure (lo, (1 : Int), Builtin.Slice.slicePlaces lo hi 1)) _ _ s
  rw [adjust_to b n hb]
  show wpAny _ _ (pure ((0 : Int), (1 : Int), Builtin.Slice.slicePlaces 0 (b : Int) 1)) _ _ s
  rw [places_to b]
  exact wpAny_pure h
theorem pick_to (xs : Array Value) (b : Nat) (hb : b ≤ xs.size) : ((List.range b).filterMap fun (k : Nat) => xs[((0 : Int) + (k : Int) * 1).toNat]?).toArray = (xs.toList.take b).toArray := by
  have e : (fun (k : Nat) => xs[((0 : Int) + (k : Int) * 1).toNat]?) = fun k => xs[0 + k]? := by
    funext k
    have : ((0 : Int) + (k : Int) * 1).toNat = 0 + k := by omega
    rw [this]
  rw [e]
  have := pick_run xs 0 b
  rw [List.filterMap_map] at this
  have e2 : ((fun x => xs[x]?) ∘ fun x => 0 + x) = fun k => xs[0 + k]? := rfl
  rw [e2] at this
  rw [this, List.drop_zero]
theorem getItem_tuple_to {t sl : Addr} {items : Array Value} {b : Nat} {u : Tok} {Q : Value → Shared → Prop} (ht : IsTup s.heap t items) (hs : s.heap.IsSliceOf sl .none (.int b u) .none) (hb : b < items.size)
    (h : Q (.ref s.heap.objs.size) { s with heap := s.heap.push { cls := .type "tuple", data := .seq (items.toList.take b).toArray } })
    (hsz : items.size ≤ sizeLine := by size_fits) : wpAny (model prog w) A (getItem (.ref t) (.ref sl)) Q E s := by
  have hdrop : sizeOk (.seq (items.toList.take b).toArray) := by
    show (items.toList.take b).toArray.size ≤ sizeLine
    rw [List.size_toArray, List.length_take, Array.length_toList]
    omega
  obtain ⟨os, hos, hcs, hds⟩ := id hs
  have hTs : s.TypeIs (.ref sl) "slice" := ⟨os, hos, hcs⟩
  unfold getItem
  try with_reducible refine wpAny_holding ?_
  first | refine wpAny_bind (wpAny_pure ?_) | skip
  refine wpAny_bind (wpAny_sequenceKey ht.typeIs (by decide) ?_)
  refine wpAny_bind (wpAny_callSpecial?_slot (name := Str.ofString "__getitem__") ht.typeIs PyProof.Rows.slot_tuple_getitem
    (wpAny_call_entry PyProof.Rows.slot_tuple_getitem ht.typeIs PyProof.Rows.entry_tuple_getitem ?_ (PyProof.Rows.args_tuple_getitem _ _)))
  show wpAny _ _ (Builtin.Tuple.tupleItemsOf (.ref t) >>= _) _ _ s
  refine wpAny_bind (tupleItemsOf_ ht ?_)
  refine wpAny_bind (wpAny_typeOf hTs ?_)
  rw [if_pos (by decide)]
  refine wpAny_bind (sliceApplied_to hs (Nat.le_of_lt hb) ?_)
  have hno : ¬ (((0 : Int) == 0 && (1 : Int) == 1 && b == items.size) = true) := by
    have : (b == items.size) = false := by rw [beq_eq_false_iff_ne]; omega
    rw [this]; simp
  show wpAny _ _ (if ((0 : Int) == 0 && (1 : Int) == 1 && b == items.size) = true then _ else _) _ _ s
  rw [if_neg hno, pick_to items b (Nat.le_of_lt hb)]
  first
    | exact wpAny_bind (m := Builtin.Tuple.tupleExact _) (wpAny_newObj_type (wpAny_pure ⟨_, rfl, wpAny_pure h⟩) hdrop)
    | exact wpAny_bind (m := Builtin.Tuple.tupleExact _) (wpAny_newObj_type (wpAny_bind (wpAny_pure (wpAny_pure ⟨_, rfl, wpAny_pure h⟩))) hdrop)
    | exact wpAny_bind (wpAny_bind (m := Builtin.Tuple.tupleExact _) (wpAny_newObj_type (wpAny_pure (wpAny_pure ⟨_, rfl, wpAny_pure h⟩)) hdrop))
    | exact wpAny_bind (wpAny_bind (m := Builtin.Tuple.tupleExact _) (wpAny_newObj_type (wpAny_pure ⟨_, rfl, wpAny_pure h⟩) hdrop))
theorem slice_tuple_to {value slice : PySem.Expr} {t : Addr} {items : Array Value} {b : Nat} {u : Tok} {Q : Value → Shared → Prop}
    (F : Fr h₀ L s.heap m) (N : News h₀ L s.heap news) (ht : IsTup s.heap t items) (hb : b < items.size)
    (h : ∀ h' d, (∀ p ∈ news, p.1 < d) → Fr h₀ L h' m → News h₀ L h' ((d, { cls := .type "tuple", data := .seq (items.toList.take b).toArray }) :: news) → Q (.ref d) { s with heap := h' })
    (hs : subscripted slice false (.ref t) (.ref s.heap.objs.size) = operate [.ref s.heap.objs.size, .ref t] (getItem (.ref t) (.ref s.heap.objs.size)) := by with_unfolding_all rfl)
    (hg : ∀ r, letTemporaryGo value (.ref t) r = pure () := by intro _; with_unfolding_all rfl)
    (hsz : items.size ≤ sizeLine := by size_fits) :
    wpAny (model prog w) A (subscriptTail value slice (.ref t) (.ref s.heap.objs.size)) Q E { s with heap := s.heap.push { cls := .type "slice", data := .fields #[.none, .int b u, .none] } } := by
  have ht' : IsTup (s.heap.push { cls := .type "slice", data := .fields #[.none, .int b u, .none] }) t items := ht.keeps fun _ _ e => Heap.get?_push_of_some _ e
  refine subscriptTail_ops (s := { s with heap := s.heap.push { cls := .type "slice", data := .fields #[.none, .int b u, .none] } }) ht'.typeIs PyProof.Rows.slot_tuple_getitem.lookup
    (getItem_tuple_to ht' (Heap.IsSliceOf.new ..) hb ?_ hsz) hs hg
  have N1 := News.push (F.push { cls := .type "slice", data := .fields #[.none, .int b u, .none] }) (N.grown fun _ _ e => Heap.get?_push_of_some _ e) { cls := .type "tuple", data := .seq (items.toList.take b).toArray }
  rw [Heap.size_push] at N1
  show Q (.ref (s.heap.push _).objs.size) _
  rw [Heap.size_push]
  exact h _ _ (fun p hp => Nat.lt_succ_of_lt (Heap.lt_size (N p hp).1)) ((F.push _).push _) N1
end
end
section
noncomputable abbrev Tell := Int × Int × Str
noncomputable def ToldAt (h : Heap) (v : Value) (t : Tell) : Prop := ∃ a n1 n2 n3, v = .ref a ∧ IsTup h a #[.int t.1 n1, .int t.2.1 n2, .str t.2.2 n3]
noncomputable def ToldAll (h : Heap) (vs : List Value) (ts : List Tell) : Prop := vs.length = ts.length ∧ ∀ (i : Nat) v, vs[i]? = some v → ∃ t, ts[i]? = some t ∧ ToldAt h v t
noncomputable def AllIn {α : Type} (R : Led → Value → α → Prop) (led : Led) (vs : List Value) (xs : List α) : Prop := vs.length = xs.length ∧ ∀ (i : Nat) v, vs[i]? = some v → ∃ t, xs[i]? = some t ∧ R led v t
theorem AllIn.nil {α : Type} {R : Led → Value → α → Prop} {led : Led} : AllIn R led [] [] := ⟨rfl, fun i v h => by simp at h⟩
theorem AllIn.snoc {α : Type} {R : Led → Value → α → Prop} {led led' : Led} {vs : List Value} {ts : List α} {v : Value} {x : α} (mono : ∀ v t, R led v t → R led' v t) (h : AllIn R led vs ts) (hv : R led' v x) : AllIn R led' (vs ++ [v]) (ts ++ [x]) := by
  refine ⟨by rw [List.length_append, List.length_append, h.1]; rfl, fun i w hw => ?_⟩
  rcases get_snoc hw with hw | ⟨rfl, rfl⟩
  · exact (h.2 i w hw).elim fun t e => ⟨t, get_old e.1, mono _ _ e.2⟩
  · exact ⟨x, by rw [h.1]; exact get_new, hv⟩
theorem AllIn.mono {α : Type} {R : Led → Value → α → Prop} {led led' : Led} {vs : List Value} {ts : List α} (mono : ∀ v t, R led v t → R led' v t) (h : AllIn R led vs ts) : AllIn R led' vs ts :=
  ⟨h.1, fun i v hv => (h.2 i v hv).elim fun t ht => ⟨t, ht.1, mono _ _ ht.2⟩⟩
noncomputable def ToldIn (led : Led) (v : Value) (t : Tell) : Prop := ∃ a n1 n2 n3 n, v = .ref a ∧ (a, ({ cls := .type "tuple", data := .seq #[.int t.1 n1, .int t.2.1 n2, .str t.2.2 n3] n } : Obj)) ∈ led
noncomputable def PairIn (led : Led) (v : Value) (t : Int × Int) : Prop := ∃ a n1 n2 n, v = .ref a ∧ (a, ({ cls := .type "tuple", data := .seq #[.int t.1 n1, .int t.2 n2] n } : Obj)) ∈ led
theorem ToldIn.mono {led led' : Led} (h : ∀ p ∈ led, p ∈ led') (v : Value) (t : Tell) (x : ToldIn led v t) : ToldIn led' v t := by
  obtain ⟨a, n1, n2, n3, n, e, hm⟩ := x
  exact ⟨a, n1, n2, n3, n, e, h _ hm⟩
theorem PairIn.mono {led led' : Led} (h : ∀ p ∈ led, p ∈ led') (v : Value) (t : Int × Int) (x : PairIn led v t) : PairIn led' v t := by
  obtain ⟨a, n1, n2, n, e, hm⟩ := x
  exact ⟨a, n1, n2, n, e, h _ hm⟩
theorem news_pick {h₀ h : Heap} {L : Addr} {l tl : Led} {p : Addr × Obj} (N : News h₀ L h l) (hp : p ∈ tl) (hs : ∀ q ∈ tl, q ∈ l) : News h₀ L h (p :: l) := fun q hq => (List.mem_cons.mp hq).elim (fun e => e ▸ N p (hs p hp)) (N q)
theorem news_in2 {h₀ h : Heap} {L : Addr} {l : Led} {a b q : Addr × Obj} (N : News h₀ L h (a :: b :: l)) (M : News h₀ L h [q]) : News h₀ L h (a :: b :: q :: l) := all_put (N _ (.head _)) (all_put (N _ (.tail _ (.head _))) (all_put (M _ (.head _)) (fun p hp => N p (.tail _ (.tail _ (hp))))))
theorem tup3_inj {h : Heap} {T : Addr} {a b c a' b' c' : Value} (x : IsTup h T #[a, b, c]) (y : IsTup h T #[a', b', c']) : a = a' ∧ b = b' ∧ c = c' := by
  obtain ⟨o, ho, _, n, hd⟩ := x
  obtain ⟨o', ho', _, n', hd'⟩ := y
  rw [ho] at ho'; cases ho'
  rw [hd] at hd'; cases hd'
  exact ⟨rfl, rfl, rfl⟩
theorem filter_take_succ {α : Type} (p : α → Bool) (l : List α) (i : Nat) (c : α) (h : l[i]? = some c) : (l.take (i + 1)).filter p = (l.take i).filter p ++ (if p c = true then [c] else []) := by
  rw [List.take_add_one, h, Option.toList_some, List.filter_append]
  by_cases hc : p c = true
  · rw [if_pos hc, List.filter_cons_of_pos hc, List.filter_nil]
  · rw [if_neg hc, List.filter_cons_of_neg hc, List.filter_nil]
theorem one_leaf {h₀ h : Heap} {L : Addr} {c d q : Addr × Obj} {l : Led} (N : News h₀ L h (c :: d :: q :: l)) : News h₀ L h (c :: d :: l) ∧ News h₀ L h [q] := ⟨all_put (N _ (.head _)) (all_put (N _ (.tail _ (.head _))) (fun p hp => N p (.tail _ (.tail _ (.tail _ (hp)))))), all_put (N _ (.tail _ (.tail _ (.head _)))) all_nil⟩
theorem two_leaf {h₀ h : Heap} {L : Addr} {p p' c d q : Addr × Obj} {l : Led} (N : News h₀ L h (p :: p' :: c :: d :: q :: l)) : News h₀ L h (c :: d :: l) ∧ News h₀ L h [q] := ⟨all_put (N _ (.tail _ (.tail _ (.head _)))) (all_put (N _ (.tail _ (.tail _ (.tail _ (.head _))))) (fun p hp => N p (.tail _ (.tail _ (.tail _ (.tail _ (.tail _ (hp)))))))), all_put (N _ (.tail _ (.tail _ (.tail _ (.tail _ (.head _)))))) all_nil⟩
theorem strsAre_append {a b : List Value} {x y : List Str} (h : StrsAre a x) (k : StrsAre b y) : StrsAre (a ++ b) (x ++ y) := by
  induction h with
  | nil => exact k
  | cons z u _ ih => exact .cons z u ih
section
open PySem.SeqAt
variable {prog : Program} {w : World} {A : Around} {E : Value → Shared → Prop} {s : Shared} {h₀ : Heap} {L : Addr} {m : Str → Option Value} {news : Led}
noncomputable def pd (p : Int × Int) : PyData := .tuple [.int p.1, .int p.2]
theorem pd_lay (p : Int × Int) : (pd p).canLay0 = true := rfl
theorem pd_lays : ∀ ps : List (Int × Int), PyData.canLayAll0 (ps.map pd) = true
  | [] => rfl
  | p :: ps => by
    have := pd_lays ps
    rw [List.map_cons]
    unfold PyData.canLayAll0
    rw [pd_lay, this]; rfl
theorem pd_depth (p : Int × Int) : (pd p).depth ≤ 4 := by
  show PyData.depth (.tuple [.int p.1, .int p.2]) ≤ 4
  exact Nat.le_of_ble_eq_true rfl
theorem pd_eqv (p q : Int × Int) : PyData.eqv (pd p) (pd q) = (p.1 == q.1 && p.2 == q.2) := by
  show PyData.eqv (.tuple [.int p.1, .int p.2]) (.tuple [.int q.1, .int q.2]) = _
  simp only [PyData.eqv, PyData.eqvAll, Bool.and_true]
theorem PairIn.reads {v : Value} {p : Int × Int} (N : News h₀ L s.heap news) (h : PairIn news v p) : Reads s.heap v (pd p) [] := by
  obtain ⟨a, n1, n2, n, rfl, hm⟩ := h
  exact Reads.tuple (N _ hm).1 rfl rfl (ReadsAll.cons (as := []) (bs := []) (Reads.int _ _) (ReadsAll.cons (as := []) (bs := []) (Reads.int _ _) ReadsAll.nil))
theorem pairs_readsAll (N : News h₀ L s.heap news) : ∀ (vs : List Value) (ps : List (Int × Int)), AllIn PairIn news vs ps → ReadsAll s.heap vs (ps.map pd) []
  | [], [], _ => ReadsAll.nil
  | [], _ :: _, h => by simp [AllIn] at h
  | _ :: _, [], h => by simp [AllIn] at h
  | v :: vs, p :: ps, h => by
    obtain ⟨h1, h2⟩ := h
    obtain ⟨t, e1, e2⟩ := h2 0 v rfl
    have e1' : p = t := by simpa using e1
    subst e1'
    exact ReadsAll.cons (as := []) (bs := []) (e2.reads N) (pairs_readsAll N vs ps ⟨by simpa using h1, fun i v hv => h2 (i + 1) v hv⟩)
theorem notin_pairs {l : Addr} {x : Value} {vs : List Value} {ps : List (Int × Int)} {p : Int × Int} {Q : Value → Shared → Prop} (N : News h₀ L s.heap news) (hl : (l, lst vs) ∈ news) (hP : AllIn PairIn news vs ps) (hx : PairIn news x p)
    (hu : A.units + 8 < cLine) (h : Q (.bool (!ps.any fun y => y.1 == p.1 && y.2 == p.2)) s) : wpAny (model prog w) A (compareOp .NotIn x (.ref l)) Q E s := by
  have hr := pairs_readsAll N vs ps hP
  refine notIn_list_reads (Reads.list (N _ hl).1 rfl rfl (by simpa [lst] using hr)) (hx.reads N) (pd_lays ps) (pd_lay p) ?_ ?_
  · have := pd_depth p
    omega
  · rw [List.any_map]
    have e : ((fun y => PyData.eqv y (pd p)) ∘ pd) = fun y : Int × Int => y.1 == p.1 && y.2 == p.2 := by
      funext y; exact pd_eqv y p
    rw [e]; exact h
theorem eq_pairs {x y : Value} {p q : Int × Int} {Q : Value → Shared → Prop} (N : News h₀ L s.heap news) (hx : PairIn news x p) (hy : PairIn news y q) (hu : A.units + 8 < cLine) (h : Q (.bool (p.1 == q.1 && p.2 == q.2)) s) :
    wpAny (model prog w) A (compareOp .Eq x y) Q E s := by
  refine compareEq_reads (hx.reads N) (hy.reads N) (pd_lay p) (pd_lay q) ?_ (by rw [pd_eqv]; exact h)
  have := pd_depth p
  omega
theorem sub_last {value slice : PySem.Expr} {l : Addr} {vs : List Value} {ws : List Str} {u : Tok} {Q : Value → Shared → Prop} (N : News h₀ L s.heap news) (hm : (l, lst vs) ∈ news) (hs : StrsAre vs ws) (h0 : 0 < ws.length) (hb : ws.length ≤ 1000)
    (h : ∀ t, Q (.str (ws.getLastD Str.empty) t) s)
    (hsub : subscripted slice false (.ref l) (.int (-1) u) = operate [.ref l, .int (-1) u] (getItem (.ref l) (.int (-1) u)) := by with_unfolding_all rfl) :
    wpAny (model prog w) A (subscriptTail value slice (.ref l) (.int (-1) u)) Q E s := by
  have hl : s.heap.IsList l vs.toArray := ⟨_, (N _ hm).1, rfl, _, rfl⟩
  have hlv := strsAre_length hs
  have hlt : ws.length - 1 < vs.length := by omega
  obtain ⟨y, t, e1, e2⟩ := strsAre_get hs (List.getElem?_eq_getElem hlt)
  have hx : vs.toArray[((-1 : Int) + (vs.toArray.size : Int)).toNat]? = some (.str y t) := by
    have : ((-1 : Int) + (vs.toArray.size : Int)).toNat = ws.length - 1 := by rw [List.size_toArray]; omega
    rw [this, List.getElem?_toArray, List.getElem?_eq_getElem hlt, e1]
  refine tail_any hl.typeIs slot_list_getitem.lookup (wpAny_getItem_list_neg hl (by decide) (by rw [List.size_toArray]; omega) (by decide) hx ?_) hsub
  have := h t
  have e3 : ws.getLastD Str.empty = y := by rw [List.getLastD_eq_getLast?, List.getLast?_eq_getElem?, e2]; rfl
  rw [e3] at this
  exact this
end
theorem eq_pairs' {prog : Program} {w : World} {A : Around} {E : Value → Shared → Prop} {s : Shared} {h₀ : Heap} {L : Addr} {news : Led} {a b : Addr} {x1 x2 y1 y2 : Int} {n1 n2 m1 m2 : Tok} {n k : Nat} {Q : Value → Shared → Prop} (N : News h₀ L s.heap news)
    (hx : (a, ({ cls := .type "tuple", data := .seq #[.int x1 n1, .int x2 n2] n } : Obj)) ∈ news) (hy : (b, ({ cls := .type "tuple", data := .seq #[.int y1 m1, .int y2 m2] k } : Obj)) ∈ news) (hu : A.units + 8 < cLine) (h : Q (.bool (x1 == y1 && x2 == y2)) s) :
    wpAny (model prog w) A (compareOp .Eq (.ref a) (.ref b)) Q E s := eq_pairs (p := (x1, x2)) (q := (y1, y2)) N ⟨_, _, _, _, rfl, hx⟩ ⟨_, _, _, _, rfl, hy⟩ hu h
theorem told_bind {h : Heap} {vs : List Value} {ts : List Tell} {m' : Str → Option Value} {x1 x2 x3 : Str} {i : Nat} {v : Value} (hT : ToldAll h vs ts) (hv : vs[i]? = some v)
    (hb : ∃ a b c, m' x1 = some a ∧ m' x2 = some b ∧ m' x3 = some c ∧ ∃ T, v = .ref T ∧ IsTup h T #[a, b, c]) {G : Prop}
    (k : ∀ o1 o2 o3 k1 k2 k3, ts[i]? = some (o1, o2, o3) → m' x1 = some (.int o1 k1) → m' x2 = some (.int o2 k2) → m' x3 = some (.str o3 k3) → G) : G := by
  obtain ⟨a1, a2, a3, hm1, hm2, hm3, T, rfl, hT3⟩ := hb
  obtain ⟨⟨o1, o2, o3⟩, htt, T', k1, k2, k3, e9, ht3⟩ := hT.2 i _ hv
  cases e9
  obtain ⟨rfl, rfl, rfl⟩ := tup3_inj hT3 ht3
  exact k o1 o2 o3 k1 k2 k3 htt hm1 hm2 hm3
end
section
noncomputable def CEnd2 (h₀ : Heap) (L : Addr) (m : Str → Option Value) (Jn : List Value → Led → Prop) (adr : List Addr) (o : Led) (C D : Addr) (s s₄ : Shared) : Prop :=
  ∃ h' tk nx oC' m' ys', s₄ = { s with heap := h', toks := tk } ∧ NsObj oC' m' ∧ Fr h₀ L h' m ∧ News h₀ L h' ((C, oC') :: (D, lst ys') :: nx) ∧ News h₀ L h' o ∧ OffC D C adr nx ∧ Jn ys' nx
theorem compTurn_list2 (elt target iter target1 iter1 : PySem.Expr) (ifs ifs1 : List PySem.Expr) (scope : Scope) (pos : Pos) (it acc : Value) (env : Env) :
    compTurn (.ListComp elt [⟨target, iter, ifs, 0⟩, ⟨target1, iter1, ifs1, 0⟩] scope pos) 0 it acc env = (do
      standAt iter.pos
      match ← pyNext it with
      | none => pure (.done .next)
      | some v =>
        letOwnedTupleGo target it v
        assign target env v
        let mut ok := true
        for c in ifs do
          if ok then ok ← isTrue c env (eval c env)
        if ok then
          let x ← eval iter1 env
          standAt iter1.pos
          let x ← foldedSetIterable iter1 env x
          let it1 ← holding [x] (pyIter x)
          let _ ← runOwn (.compStart (.ListComp elt [⟨target, iter, ifs, 0⟩, ⟨target1, iter1, ifs1, 0⟩] scope pos) 1 it1 acc env) env
        again (.compLoop (.ListComp elt [⟨target, iter, ifs, 0⟩, ⟨target1, iter1, ifs1, 0⟩] scope pos) 0 it acc env)) := by rfl
theorem compTurn_list3 (elt target iter target1 iter1 : PySem.Expr) (ifs ifs1 : List PySem.Expr) (scope : Scope) (pos : Pos) (it acc : Value) (env : Env) :
    compTurn (.ListComp elt [⟨target1, iter1, ifs1, 0⟩, ⟨target, iter, ifs, 0⟩] scope pos) 1 it acc env = (do
      standAt iter.pos
      match ← pyNext it with
      | none => pure (.done .next)
      | some v =>
        letOwnedTupleGo target it v
        assign target env v
        let mut ok := true
        for c in ifs do
          if ok then ok ← isTrue c env (eval c env)
        if ok then
          (do let _ ← call (.builtin "list.append") [acc, ← eval elt env])
        again (.compLoop (.ListComp elt [⟨target1, iter1, ifs1, 0⟩, ⟨target, iter, ifs, 0⟩] scope pos) 1 it acc env)) := by rfl
section
variable {prog : Program} {w : World} {A : Around} {s : Shared} {h₀ : Heap} {L : Addr} {m : Str → Option Value} {env : Env}
theorem blockE {elt iter target iter1 target1 : PySem.Expr} {ifs ifs1 : List PySem.Expr} {scope : Scope} {cl : List (Str × Addr)} {pos : Pos} {s₂ : Shared} {I : Addr} {n : Nat} {P : Nat → Value → Prop} {adr : List Addr} {G : Array GenState → Array GenState → Prop} {own : Nat → Shared → Led → Prop}
    {news : Led} {o₀ : Led} {Bd : Value → (Str → Option Value) → Prop} {RR : Value → Addr → Result → Shared → Prop} {Kp : Heap → Prop} (J : Kt)
    (W : Itr prog w A Kp I n P adr G own) (hK : ∀ h nx i ys, Fr h₀ L h m → News h₀ L h nx → J i ys nx → Kp h) 
    (hcell : ∀ y ∈ scope.names, y.2 ≠ .cell) (hkind : scope.kind = .function)
    (hst : own 0 s₂ o₀) (F : Fr h₀ L s₂.heap m) (N : News h₀ L s₂.heap news) (hadr : ∀ a ∈ adr, a ≠ L ∧ h₀.get? a = none) (off : ∀ p ∈ news, p.1 ∉ adr) (hj : J 0 [] news) (hs1 : ∀ x env, foldedSetIterable iter1 env x = pure x)
    (hput : Puts prog w A h₀ L m target scope cl env P Bd (fun nx => ∃ i ys, J i ys nx))
    (hlet : ∀ i v (s' : Shared) o (Q' : Unit → Shared → Prop), P i v → own (i + 1) s' o → Q' () s' → wpAny (model prog w) A (letOwnedTupleGo target (.ref I) v) Q' (fun _ _ => False) s')
    (turn : ∀ i v ys nx h tk g o C oC D m₂, G s₂.gens g → i < n → P i v → J i ys nx → own (i + 1) { s₂ with heap := h, toks := tk, gens := g } o → NsObj oC m₂ → Bd v m₂ → Fr h₀ L h m → News h₀ L h ((C, oC) :: (D, lst ys) :: nx) → News h₀ L h o → OffC D C adr nx → (@Ne Nat C D) → (∀ a ∈ adr, (@Ne Nat a C) ∧ (@Ne Nat a D)) →
      wpAny (model prog w) A (testsOf ifs (compEnvC scope cl C env)) (fun ok s₃ => if ok = true
        then wpAny (model prog w) A (eval iter1 (compEnvC scope cl C env)) (fun x s₄ => wpAny (model prog w) A (pyIter x) (fun it s₅ => codeAny (model prog w) A (.compStart (.ListComp elt [⟨target, iter, ifs, 0⟩, ⟨target1, iter1, ifs1, 0⟩] scope pos) 1 it (.ref D) (compEnvC scope cl C env))
          (fun r s₆ => match r with | .ok _ => CEnd2 h₀ L m (J (i + 1)) adr o C D { s₂ with heap := h, toks := tk, gens := g } s₆ | .error _ => False) s₅) (fun _ _ => False) s₄) (fun _ _ => False) s₃
        else CEnd2 h₀ L m (J (i + 1)) adr o C D { s₂ with heap := h, toks := tk, gens := g } s₃) (fun _ _ => False) { s₂ with heap := h, toks := tk, gens := g })
    (hRR : ∀ D C h tk g m' ys news', G s₂.gens g → Fr h₀ L h m → News h₀ L h ((D, lst ys) :: news') → (∀ p ∈ news', @Ne Nat p.1 D) → h.Ns C m' → h₀.get? C = none → h₀.get? D = none → C ≠ L → D ≠ L → C ≠ D → (∀ p ∈ news', p.1 ≠ C) → J n ys news' → RR (.ref D) C (.ok .next) { s₂ with heap := h, toks := tk, gens := g }) :
    wpAny (model prog w) A (newList []) (fun acc s₃ => wpAny (model prog w) A (newFunctionEnv scope env.globals cl [] env.qual none .none (some env)) (fun cenv s₄ =>
      codeAny (model prog w) A (.compStart (.ListComp elt [⟨target, iter, ifs, 0⟩, ⟨target1, iter1, ifs1, 0⟩] scope pos) 0 (.ref I) acc { cenv with scope := relabel scope env }) (RR acc cenv.locals) s₄) (fun _ _ => False) s₃) (fun _ _ => False) s₂ := by
  refine wpAny_newObj_type (wpAny_newFunctionEnv hcell (by intro y hy; simp at hy) (fun h₁ hns₁ hsb₁ => ?_) hkind)
  dsimp only at hns₁ hsb₁ ⊢
  generalize hH2 : s₂.heap.push { cls := .type "list", dict := none, data := .seq ([] : List Value).toArray } = H2 at hns₁ hsb₁ ⊢
  have hC : H2.objs.size = s₂.heap.objs.size + 1 := by rw [← hH2, Heap.size_push]
  have hDC : s₂.heap.objs.size ≠ H2.objs.size := by rw [hC]; exact Nat.ne_of_lt (Nat.lt_succ_self _)
  have below : ∀ b, b < s₂.heap.objs.size → b ≠ H2.objs.size ∧ b ≠ s₂.heap.objs.size := fun b hb => ⟨by rw [hC]; exact Nat.ne_of_lt (Nat.lt_succ_of_lt hb), Nat.ne_of_lt hb⟩
  have hal : ∀ a ∈ adr, a < s₂.heap.objs.size := fun a ha => by
    rw [← W.adrs _ _ _ hst] at ha
    obtain ⟨p, hp, rfl⟩ := List.mem_map.mp ha
    exact Heap.lt_size (W.here _ _ _ hst p hp)
  have hDf : s₂.heap.objs.size ∉ adr := fun hm => Nat.lt_irrefl _ (hal _ hm)
  have hCf : H2.objs.size ∉ adr := fun hm => by have := hal _ hm; rw [hC] at this; exact Nat.lt_irrefl _ (Nat.lt_of_succ_lt this)
  have old : ∀ b o, s₂.heap.get? b = some o → h₁.get? b = some o := fun b o e => hsb₁.extBut b o (below b (Heap.lt_size e)).1 (Heap.get?_push_of_some _ (hH2 ▸ Heap.get?_push_of_some _ e))
  have hacc : h₁.get? s₂.heap.objs.size = some (lst []) := hsb₁.extBut _ _ hDC (Heap.get?_push_of_some _ (hH2 ▸ Heap.get?_push_size _ rfl))
  have fresh : ∀ a, s₂.heap.objs.size ≤ a → s₂.heap.get? a = none := fun a ha => by
    cases e : s₂.heap.get? a with
    | none => rfl
    | some o' => exact absurd (Heap.lt_size e) (Nat.not_lt.mpr ha)
  have fresh₀ : ∀ a, s₂.heap.objs.size ≤ a → h₀.get? a = none := fun a ha => by
    cases e : h₀.get? a with
    | none => rfl
    | some o' => have := F.keep a o' e; rw [fresh a ha] at this; cases this
  have hD₀ : h₀.get? s₂.heap.objs.size = none := fresh₀ _ (Nat.le_refl _)
  have hC₀ : h₀.get? H2.objs.size = none := fresh₀ _ (by rw [hC]; exact Nat.le_succ _)
  have hLlt : L < s₂.heap.objs.size := F.ns.lt
  have hDL : s₂.heap.objs.size ≠ L := Ne.symm (below L hLlt).2
  have hCL : H2.objs.size ≠ L := Ne.symm (below L hLlt).1
  have hadr' : ∀ a ∈ adr, (@Ne Nat a H2.objs.size) ∧ (@Ne Nat a s₂.heap.objs.size) := fun a ha => below a (hal a ha)
  have off₀ : OffC s₂.heap.objs.size H2.objs.size adr news := fun p hp => ⟨(below _ (Heap.lt_size (N p hp).1)).2, (below _ (Heap.lt_size (N p hp).1)).1, off p hp⟩
  have oldb : ∀ b o, h₀.get? b = some o → b ∉ adr := fun b o e q => by rw [(hadr b q).2] at e; cases e
  have F₁ : Fr h₀ L h₁ m := F.keeps old
  have hst₁ : own 0 { s₂ with heap := h₁, toks := s₂.toks + ([] : List (Str × Value)).length } o₀ := W.frame 0 s₂ _ o₀ hst (fun p hp => old _ _ (W.here _ _ _ hst p hp)) (hK h₁ news 0 [] F₁ (fun p hp => ⟨old _ _ (N p hp).1, (N p hp).2⟩) hj) rfl
  have loop : ∀ s₃ : Shared, s₃ = { s₂ with heap := h₁, toks := s₂.toks + ([] : List (Str × Value)).length } →
      codeAny (model prog w) A (.compLoop (.ListComp elt [⟨target, iter, ifs, 0⟩, ⟨target1, iter1, ifs1, 0⟩] scope pos) 0 (.ref I) (.ref s₂.heap.objs.size) (compEnvC scope cl H2.objs.size env))
        (RR (.ref s₂.heap.objs.size) H2.objs.size) s₃ := by
    rintro s₃ rfl
    refine ex1 (p := fun Inv : Nat → Shared → Prop => ∀ k s', Inv k s' ↔ ∃ h' tk g i ys m' news' o, s' = { s₂ with heap := h', toks := tk, gens := g } ∧ G s₂.gens g ∧ i ≤ n ∧ k = n + 1 - i ∧ own i s' o ∧ Fr h₀ L h' m ∧ h'.Ns H2.objs.size m' ∧ News h₀ L h' ((s₂.heap.objs.size, lst ys) :: news') ∧
        OffC s₂.heap.objs.size H2.objs.size adr news' ∧ J i ys news') ⟨_, fun _ _ => Iff.rfl⟩ ?_
    intro Inv hInv
    refine codeAny_loop rfl Inv (fun k s' hI => ?_) (n + 1) ((hInv _ _).mpr
      ⟨h₁, _, s₂.gens, 0, [], _, news, o₀, rfl, W.grefl _, Nat.zero_le _, rfl, hst₁, F₁, hns₁, fun p hp => ?_, off₀, hj⟩)
    · show wpAny _ A ((compTurn (.ListComp elt [⟨target, iter, ifs, 0⟩, ⟨target1, iter1, ifs1, 0⟩] scope pos) 0 (.ref I) (.ref s₂.heap.objs.size) (compEnvC scope cl H2.objs.size env)).onRaise (fun x => do noteFrame x (compEnvC scope cl H2.objs.size env); theTreesLotGoes x)) _ _ s'
      refine wpAny_noted ?_
      rw [compTurn_list2]
      replace hI := (hInv _ _).mp hI
      refine ex8 hI ?_
      clear hI
      intro h' tk g i ys m' news' o hx9
      have qe1 := hx9.1
      have hG := hx9.2.1
      have hi := hx9.2.2.1
      have qe2 := hx9.2.2.2.1
      have hst' := hx9.2.2.2.2.1
      have F' := hx9.2.2.2.2.2.1
      have hn' := hx9.2.2.2.2.2.2.1
      have N' := hx9.2.2.2.2.2.2.2.1
      have off' := hx9.2.2.2.2.2.2.2.2.1
      have hJ' := hx9.2.2.2.2.2.2.2.2.2
      clear hx9
      subst qe1
      subst qe2
      have up : ∀ h₂ : Heap, (∀ b ob, b ∉ adr → h'.get? b = some ob → h₂.get? b = some ob) → Fr h₀ L h₂ m ∧ News h₀ L h₂ ((s₂.heap.objs.size, lst ys) :: news') ∧ h₂.Ns H2.objs.size m' := fun h₂ hk₂ =>
        ⟨⟨F'.ns.at' fun o e => hk₂ _ o (fun q => (hadr _ q).1 rfl) e, fun b o e => hk₂ b o (oldb b o e) (F'.keep b o e), F'.above⟩, fun p hp => ⟨hk₂ _ _ (by
          rcases List.mem_cons.mp hp with rfl | hp
          · exact hDf
          · exact (off' p hp).2.2) (N' p hp).1, (N' p hp).2⟩, hn'.at' fun o e => hk₂ _ o hCf e⟩
      by_cases hlt : i < n
      · refine wpAny_bind (wpAny_standAt (wpAny_bind (wpAny_mono (W.item i _ o _ hst' hlt fun v h₂ tk₂ g₂ o₂ hPv hst₂ hG₂ hk₂ => ?_) (fun r s₁ h₁ => h₁) fun _ _ x => x.elim)))
        refine wpAny_bind (wpAny_mono (hlet i v _ o₂ (fun _ s₁ => s₁ = { s₂ with heap := h₂, toks := tk₂, gens := g₂ }) hPv hst₂ rfl) (fun _ s₁ e₁ => ?_) fun _ _ x => x.elim)
        subst e₁
        have hx9 := up h₂ hk₂
        have F₂ := hx9.1
        have N₂ := hx9.2.1
        have hn₂ := hx9.2.2
        clear hx9
        refine wpAny_bind (wpAny_mono (hput i v _ H2.objs.size m' news' _ hPv hn₂ F₂ (fun p hp => N₂ p (.tail _ hp)) ⟨i, ys, hJ'⟩ hCL hC₀ fun h₃ m₃ tk₃ hn₃ hb₃ hk₃ => ?_) (fun _ _ q => q) fun _ _ x => x.elim)
        have F₃ : Fr h₀ L h₃ m := ⟨F₂.ns.at' fun o e => hk₃ _ o (Ne.symm hCL) e, fun b o e => hk₃ b o (fun q => by rw [q, hC₀] at e; cases e) (F₂.keep b o e), F₂.above⟩
        refine ex1 (ns_obj hn₃) ?_
        intro oC hx9
        have heC := hx9.1
        have hoC := hx9.2
        clear hx9
        have N₃ : News h₀ L h₃ ((H2.objs.size, oC) :: (s₂.heap.objs.size, lst ys) :: news') := fun p hp => by
          rcases List.mem_cons.mp hp with rfl | hp
          · exact ⟨heC, hCL, hC₀⟩
          · refine ⟨hk₃ _ _ ?_ (N₂ p hp).1, (N₂ p hp).2⟩
            rcases List.mem_cons.mp hp with rfl | hp
            · exact hDC
            · exact (off' p hp).2.1
        have No₂ : ∀ p ∈ o₂, p.1 ∈ adr := fun p hp => by rw [← W.adrs _ _ _ hst₂]; exact List.mem_map.mpr ⟨p, hp, rfl⟩
        have No₃ : News h₀ L h₃ o₂ := fun p hp => ⟨hk₃ _ _ (fun q => hCf (q ▸ No₂ p hp)) (W.here _ _ _ hst₂ p hp), (hadr _ (No₂ p hp)).1, (hadr _ (No₂ p hp)).2⟩
        have hst₃ : own (i + 1) { s₂ with heap := h₃, toks := tk₃, gens := g₂ } o₂ := W.frame _ _ _ _ hst₂ (fun p hp => (No₃ p hp).1) (hK h₃ news' i ys F₃ (fun p hp => N₃ p (.tail _ (.tail _ hp))) hJ') rfl
        have go : ∀ (s₅ : Shared), CEnd2 h₀ L m (J (i + 1)) adr o₂ H2.objs.size s₂.heap.objs.size { s₂ with heap := h₃, toks := tk₃, gens := g₂ } s₅ →
            ∃ q, q < n + 1 - i ∧ Inv q s₅ := by
          rintro s₅ ⟨h₄, tk₄, nx, oC₄, m₄, ys', rfl, hoC₄, F₄, N₄, No₄, off₄, hJ₄⟩
          refine ⟨n + 1 - (i + 1), by omega, (hInv _ _).mpr ⟨h₄, tk₄, g₂, i + 1, ys', m₄, nx, o₂, rfl, W.gtrans _ _ _ hG hG₂, hlt, rfl, ?_, F₄, hoC₄.ns (N₄ _ (.head _)).1, fun p hp => N₄ p (.tail _ hp), off₄, hJ₄⟩⟩
          exact W.frame _ _ _ _ hst₃ (fun p hp => (No₄ p hp).1) (hK h₄ nx (i + 1) ys' F₄ (fun p hp => N₄ p (.tail _ (.tail _ hp))) hJ₄) rfl
        refine wpAny_bind (wpAny_mono (turn i v ys news' h₃ tk₃ g₂ o₂ H2.objs.size oC s₂.heap.objs.size m₃ (W.gtrans _ _ _ hG hG₂) hlt hPv hJ' hst₃ hoC hb₃ F₃ N₃ No₃ off' (Ne.symm hDC) hadr') (fun ok s₄ h₄ => ?_) fun _ _ x => x.elim)
        cases ok with
        | false =>
          rw [if_neg Bool.false_ne_true] at h₄
          exact wpAny_pure ⟨rfl, go _ h₄⟩
        | true =>
          rw [if_pos rfl] at h₄
          refine wpAny_bind (wpAny_mono h₄ (fun x s₅ h₅ => wpAny_bind (wpAny_standAt (wpAny_bind (wpAny_of_eq (hs1 x _) (wpAny_bind (wpAny_holding (wpAny_mono h₅ (fun it s₆ h₆ => wpAny_bind (wpAny_mono (wpAny_runOwn (h := none) (Q := fun _ s₇ => CEnd2 h₀ L m (J (i + 1)) adr o₂ H2.objs.size s₂.heap.objs.size { s₂ with heap := h₃, toks := tk₃, gens := g₂ } s₇) (E := fun _ _ => False) ?_) (fun _ s₇ h₇ => wpAny_pure ⟨rfl, go _ h₇⟩) fun _ _ x => x.elim)) fun _ _ x => x.elim))))))) fun _ _ x => x.elim)
          rw [Around.mark_none]
          refine codeAny_mono h₆ fun r s₇ h₇ => ?_
          cases r with
          | ok f => exact h₇
          | error e => exact h₇.elim
      · obtain rfl : i = n := Nat.le_antisymm hi (Nat.not_lt.mp hlt)
        refine wpAny_bind (wpAny_standAt (wpAny_bind (wpAny_mono (W.done _ o _ hst' fun h₂ tk₂ g₂ hb₂ hk₂ => ?_) (fun r s₁ h₁ => h₁) fun _ _ x => x.elim)))
        have hx9 := up h₂ hk₂
        have F₂ := hx9.1
        have N₂ := hx9.2.1
        have hn₂ := hx9.2.2
        clear hx9
        exact wpAny_pure (hRR _ _ h₂ tk₂ g₂ _ ys news' (W.gtrans _ _ _ hG hb₂) F₂ N₂ (fun p hp => (off' p hp).1) hn₂ hC₀ hD₀ hCL hDL (Ne.symm hDC) (fun p hp => (off' p hp).2.1) hJ')
    · rcases List.mem_cons.mp hp with rfl | hp
      · exact ⟨hacc, hDL, hD₀⟩
      · exact ⟨old _ _ (N p hp).1, (N p hp).2⟩
  exact codeAny_compStart_list (loop _ rfl) (wpAny_mono (W.self 0 _ _ _ hst₁ (loop _ rfl)) (fun _ _ q => q) fun _ _ x => x.elim)
end
section
variable {prog : Program} {w : World} {A : Around} {s : Shared} {h₀ : Heap} {L : Addr} {m : Str → Option Value} {env : Env} {R : Result → Shared → Prop}
theorem compStart_1 {elt target iter target1 iter1 : PySem.Expr} {ifs ifs1 : List PySem.Expr} {scope : Scope} {pos : Pos} {it acc : Value}
    (h0 : codeAny (model prog w) A (.compLoop (.ListComp elt [⟨target1, iter1, ifs1, 0⟩, ⟨target, iter, ifs, 0⟩] scope pos) 1 it acc env) R s)
    (h : wpAny (model prog w) A (pyIter it) (fun it' s' => codeAny (model prog w) A (.compLoop (.ListComp elt [⟨target1, iter1, ifs1, 0⟩, ⟨target, iter, ifs, 0⟩] scope pos) 1 it' acc env) R s')
      (notedBy (model prog w) A env fun x s' => R (.error x) s') s) :
    codeAny (model prog w) A (.compStart (.ListComp elt [⟨target1, iter1, ifs1, 0⟩, ⟨target, iter, ifs, 0⟩] scope pos) 1 it acc env) R s := by
  refine codeAny_of_tree ?_
  show wpAny _ _ ((compStart (.ListComp elt [⟨target1, iter1, ifs1, 0⟩, ⟨target, iter, ifs, 0⟩] scope pos) 1 it acc env).onRaise (fun x => do noteFrame x env; standAt theWindowsPlace)) _ _ s
  refine wpAny_notedAt ?_
  unfold compStart
  show wpAny _ _ (ask >>= _) _ _ s
  refine wpAny_bind (wpAny_askSetting (wpAny_ite ?_))
  split
  · first
      | exact wpAny_bind (wpAny_pure (wpAny_pure (And.intro rfl h0)))
      | exact wpAny_pure (And.intro rfl h0)
  · first
      | exact wpAny_bind (wpAny_rule (wpAny_bind (wpAny_standAt (wpAny_bind (wpAny_mono h (fun it' s' h' => wpAny_pure (And.intro rfl h')) fun _ _ x => x)))))
/-- what the inner target's assignment does: the names of the block that Bo tells of stay -/
noncomputable def Puts2 (prog : Program) (w : World) (A : Around) (h₀ : Heap) (L : Addr) (m : Str → Option Value) (target : PySem.Expr) (scope : Scope) (cl : List (Str × Addr)) (env : Env) (P : Nat → Value → Prop) (Bo : (Str → Option Value) → Prop) (Bd : Value → (Str → Option Value) → Prop) (news : Led → Prop) : Prop :=
  ∀ i v (s : Shared) C (m' : Str → Option Value) (nx : Led) (Q : Unit → Shared → Prop), P i v → s.heap.Ns C m' → Bo m' → Fr h₀ L s.heap m → News h₀ L s.heap nx → news nx → C ≠ L → h₀.get? C = none →
    (∀ h'' m'' tk, h''.Ns C m'' → Bd v m'' → Bo m'' → (∀ b ob, b ≠ C → s.heap.get? b = some ob → h''.get? b = some ob) → Q () { s with heap := h'', toks := tk }) →
    wpAny (model prog w) A (assign target (compEnvC scope cl C env) v) Q (fun _ _ => False) s
theorem innerW {elt target iter target1 iter1 : PySem.Expr} {ifs ifs1 : List PySem.Expr} {scope : Scope} {cl : List (Str × Addr)} {pos : Pos} {s₂ : Shared} {I : Addr} {n : Nat} {P : Nat → Value → Prop} {adr : List Addr} {own : Nat → Shared → Led → Prop}
    {news o₀ : Led} {Bo : (Str → Option Value) → Prop} {Bd : Value → (Str → Option Value) → Prop} {Kp : Heap → Prop} {C D : Addr} {oC0 : Obj} {m0 : Str → Option Value} {ys0 : List Value} (J : Kt)
    (W : Itr prog w A Kp I n P adr (fun a b => b = a) own) (hK : ∀ h nx i ys, Fr h₀ L h m → News h₀ L h nx → J i ys nx → Kp h) (hsz : ys0.length + n ≤ sizeLine)
    (hst : own 0 s₂ o₀) (F : Fr h₀ L s₂.heap m) (N : News h₀ L s₂.heap ((C, oC0) :: (D, lst ys0) :: news)) (hC : NsObj oC0 m0) (hB : Bo m0) (hadr : ∀ a ∈ adr, a ≠ L ∧ h₀.get? a = none ∧ a ≠ C ∧ a ≠ D) (off : OffC D C adr news) (hCD : C ≠ D) (hj : J 0 [] news)
    (hput : Puts2 prog w A h₀ L m target scope cl env P Bo Bd (fun nx => ∃ i ys, J i ys nx))
    (hlet : ∀ i v (s' : Shared) o (Q' : Unit → Shared → Prop), P i v → own (i + 1) s' o → Q' () s' → wpAny (model prog w) A (letOwnedTupleGo target (.ref I) v) Q' (fun _ _ => False) s')
    (hlen : ∀ i ys nx, J i ys nx → ys.length ≤ i)
    (turn : ∀ i v ys nx h tk o oC m₂, i < n → P i v → J i ys nx → own (i + 1) { s₂ with heap := h, toks := tk } o → NsObj oC m₂ → Bd v m₂ → Bo m₂ → Fr h₀ L h m → News h₀ L h ((C, oC) :: (D, lst (ys0 ++ ys)) :: nx) → News h₀ L h o → OffC D C adr nx →
      wpAny (model prog w) A (testsOf ifs (compEnvC scope cl C env)) (fun ok s₃ => if ok = true
        then wpAny (model prog w) A (eval elt (compEnvC scope cl C env)) (fun y s₄ => CEnd h₀ L m (J (i + 1) (ys ++ [y])) adr o C oC D (lst (ys0 ++ ys)) { s₂ with heap := h, toks := tk } s₄) (fun _ _ => False) s₃
        else CEnd h₀ L m (J (i + 1) ys) adr o C oC D (lst (ys0 ++ ys)) { s₂ with heap := h, toks := tk } s₃) (fun _ _ => False) { s₂ with heap := h, toks := tk })
    (done : ∀ h tk oC m₂ ys nx, NsObj oC m₂ → Bo m₂ → Fr h₀ L h m → News h₀ L h ((C, oC) :: (D, lst (ys0 ++ ys)) :: nx) → OffC D C adr nx → J n ys nx → R (.ok .next) { s₂ with heap := h, toks := tk }) :
    codeAny (model prog w) A (.compStart (.ListComp elt [⟨target1, iter1, ifs1, 0⟩, ⟨target, iter, ifs, 0⟩] scope pos) 1 (.ref I) (.ref D) (compEnvC scope cl C env)) R s₂ := by
  have hCL : C ≠ L := (N _ (.head _)).2.1
  have hC₀ : h₀.get? C = none := (N _ (.head _)).2.2
  have hDL : D ≠ L := (N _ (.tail _ (.head _))).2.1
  have hD₀ : h₀.get? D = none := (N _ (.tail _ (.head _))).2.2
  have hDf : D ∉ adr := fun hm => (hadr D hm).2.2.2 rfl
  have hCf : C ∉ adr := fun hm => (hadr C hm).2.2.1 rfl
  have oldb : ∀ b o, h₀.get? b = some o → b ∉ adr := fun b o e q => by rw [(hadr b q).2.1] at e; cases e
  have loop : codeAny (model prog w) A (.compLoop (.ListComp elt [⟨target1, iter1, ifs1, 0⟩, ⟨target, iter, ifs, 0⟩] scope pos) 1 (.ref I) (.ref D) (compEnvC scope cl C env)) R s₂ := by
    refine ex1 (p := fun Inv : Nat → Shared → Prop => ∀ k s', Inv k s' ↔ ∃ h' tk i ys oC m' news' o, s' = { s₂ with heap := h', toks := tk } ∧ i ≤ n ∧ k = n + 1 - i ∧ own i s' o ∧ Fr h₀ L h' m ∧ NsObj oC m' ∧ Bo m' ∧ News h₀ L h' ((C, oC) :: (D, lst (ys0 ++ ys)) :: news') ∧
        OffC D C adr news' ∧ J i ys news') ⟨_, fun _ _ => Iff.rfl⟩ ?_
    intro Inv hInv
    refine codeAny_loop rfl Inv (fun k s' hI => ?_) (n + 1) ((hInv _ _).mpr
      ⟨s₂.heap, s₂.toks, 0, [], oC0, m0, news, o₀, rfl, Nat.zero_le _, rfl, hst, F, hC, hB, by rw [List.append_nil]; exact N, off, hj⟩)
    show wpAny _ A ((compTurn (.ListComp elt [⟨target1, iter1, ifs1, 0⟩, ⟨target, iter, ifs, 0⟩] scope pos) 1 (.ref I) (.ref D) (compEnvC scope cl C env)).onRaise (fun x => do noteFrame x (compEnvC scope cl C env); theTreesLotGoes x)) _ _ s'
    refine wpAny_noted ?_
    rw [compTurn_list3]
    replace hI := (hInv _ _).mp hI
    refine ex8 hI ?_
    clear hI
    intro h' tk i ys oC m' news' o hx9
    have qe1 := hx9.1
    have hi := hx9.2.1
    have qe2 := hx9.2.2.1
    have hst' := hx9.2.2.2.1
    have F' := hx9.2.2.2.2.1
    have hoC := hx9.2.2.2.2.2.1
    have hBo := hx9.2.2.2.2.2.2.1
    have N' := hx9.2.2.2.2.2.2.2.1
    have off' := hx9.2.2.2.2.2.2.2.2.1
    have hJ' := hx9.2.2.2.2.2.2.2.2.2
    clear hx9
    subst qe1
    subst qe2
    have up : ∀ h₂ : Heap, (∀ b ob, b ∉ adr → h'.get? b = some ob → h₂.get? b = some ob) → Fr h₀ L h₂ m ∧ News h₀ L h₂ ((C, oC) :: (D, lst (ys0 ++ ys)) :: news') := fun h₂ hk₂ =>
      ⟨⟨F'.ns.at' fun o e => hk₂ _ o (fun q => (hadr _ q).1 rfl) e, fun b o e => hk₂ b o (oldb b o e) (F'.keep b o e), F'.above⟩, fun p hp => ⟨hk₂ _ _ (by
        rcases List.mem_cons.mp hp with rfl | hp
        · exact hCf
        · rcases List.mem_cons.mp hp with rfl | hp
          · exact hDf
          · exact (off' p hp).2.2) (N' p hp).1, (N' p hp).2⟩⟩
    by_cases hlt : i < n
    · refine wpAny_bind (wpAny_standAt (wpAny_bind (wpAny_mono (W.item i _ o _ hst' hlt fun v h₂ tk₂ g₂ o₂ hPv hst₂ hG₂ hk₂ => ?_) (fun r s₁ h₁ => h₁) fun _ _ x => x.elim)))
      have hg2 : g₂ = s₂.gens := hG₂
      subst hg2
      refine wpAny_bind (wpAny_mono (hlet i v _ o₂ (fun _ s₁ => s₁ = { s₂ with heap := h₂, toks := tk₂ }) hPv hst₂ rfl) (fun _ s₁ e₁ => ?_) fun _ _ x => x.elim)
      subst e₁
      have F₂ := (up h₂ hk₂).1
      have N₂ := (up h₂ hk₂).2
      refine wpAny_bind (wpAny_mono (hput i v _ C m' news' _ hPv (hoC.ns (N₂ _ (.head _)).1) hBo F₂ (fun p hp => N₂ p (.tail _ (.tail _ hp))) ⟨i, ys, hJ'⟩ hCL hC₀ fun h₃ m₃ tk₃ hn₃ hb₃ hbo₃ hk₃ => ?_) (fun _ _ q => q) fun _ _ x => x.elim)
      have F₃ : Fr h₀ L h₃ m := ⟨F₂.ns.at' fun o e => hk₃ _ o (Ne.symm hCL) e, fun b o e => hk₃ b o (fun q => by rw [q, hC₀] at e; cases e) (F₂.keep b o e), F₂.above⟩
      refine ex1 (ns_obj hn₃) ?_
      intro oC₃ hx9
      have heC := hx9.1
      have hoC₃ := hx9.2
      clear hx9
      have N₃ : News h₀ L h₃ ((C, oC₃) :: (D, lst (ys0 ++ ys)) :: news') := fun p hp => by
        rcases List.mem_cons.mp hp with rfl | hp
        · exact ⟨heC, hCL, hC₀⟩
        · refine ⟨hk₃ _ _ ?_ (N₂ p (.tail _ hp)).1, (N₂ p (.tail _ hp)).2⟩
          rcases List.mem_cons.mp hp with rfl | hp
          · exact Ne.symm hCD
          · exact (off' p hp).2.1
      have No₂ : ∀ p ∈ o₂, p.1 ∈ adr := fun p hp => by rw [← W.adrs _ _ _ hst₂]; exact List.mem_map.mpr ⟨p, hp, rfl⟩
      have No₃ : News h₀ L h₃ o₂ := fun p hp => ⟨hk₃ _ _ (fun q => hCf (q ▸ No₂ p hp)) (W.here _ _ _ hst₂ p hp), (hadr _ (No₂ p hp)).1, (hadr _ (No₂ p hp)).2.1⟩
      have hst₃ : own (i + 1) { s₂ with heap := h₃, toks := tk₃ } o₂ := W.frame _ _ _ _ hst₂ (fun p hp => (No₃ p hp).1) (hK h₃ news' i ys F₃ (fun p hp => N₃ p (.tail _ (.tail _ hp))) hJ') rfl
      have go : ∀ (ys' : List Value) (s₅ : Shared), CEnd h₀ L m (J (i + 1) ys') adr o₂ C oC₃ D (lst (ys0 ++ ys')) { s₂ with heap := h₃, toks := tk₃ } s₅ →
          ∃ q, q < n + 1 - i ∧ Inv q s₅ := by
        rintro ys' s₅ ⟨h₄, tk₄, nx, rfl, F₄, N₄, No₄, off₄, hJ₄⟩
        refine ⟨n + 1 - (i + 1), by omega, (hInv _ _).mpr ⟨h₄, tk₄, i + 1, ys', oC₃, m₃, nx, o₂, rfl, hlt, rfl, ?_, F₄, hoC₃, hbo₃, N₄, off₄, hJ₄⟩⟩
        exact W.frame _ _ _ _ hst₃ (fun p hp => (No₄ p hp).1) (hK h₄ nx (i + 1) ys' F₄ (fun p hp => N₄ p (.tail _ (.tail _ hp))) hJ₄) rfl
      refine wpAny_bind (wpAny_mono (turn i v ys news' h₃ tk₃ o₂ oC₃ m₃ hlt hPv hJ' hst₃ hoC₃ hb₃ hbo₃ F₃ N₃ No₃ off') (fun ok s₄ h₄ => ?_) fun _ _ x => x.elim)
      cases ok with
      | false =>
        rw [if_neg Bool.false_ne_true] at h₄
        exact wpAny_pure ⟨rfl, go _ _ h₄⟩
      | true =>
        rw [if_pos rfl] at h₄
        refine wpAny_bind (wpAny_bind (wpAny_mono h₄ (fun y s₅ h₅ => ?_) fun _ _ x => x.elim))
        refine ex3 h₅ ?_
        clear h₅
        intro h₅' tk₅ nx hx9
        have qe1 := hx9.1
        have F₅ := hx9.2.1
        have N₅ := hx9.2.2.1
        have No₅ := hx9.2.2.2.1
        have off₅ := hx9.2.2.2.2.1
        have hJ₅ := hx9.2.2.2.2.2
        clear hx9
        subst qe1
        have zD := (N₅ (D, lst (ys0 ++ ys)) (.tail _ (.head _))).1
        refine wpAny_bind (append_at (hsz := by show (ys0 ++ ys).toArray.size ≤ sizeLine; rw [List.size_toArray, List.length_append]; have := hlen _ _ _ hJ'; omega) zD fun h₆ hs₆ hD₆ => ?_)
        refine wpAny_pure (wpAny_pure ⟨rfl, go (ys ++ [y]) _ ⟨h₆, tk₅, nx, rfl, F₅.change hs₆ hDL hD₀, fun p hp => ?_, fun p hp => ?_, off₅, hJ₅⟩⟩)
        · rcases List.mem_cons.mp hp with rfl | hp
          · exact ⟨hs₆.extBut _ _ hCD (N₅ _ (.head _)).1, hCL, hC₀⟩
          · rcases List.mem_cons.mp hp with rfl | hp
            · refine ⟨hD₆.trans ?_, hDL, hD₀⟩
              rw [← List.append_assoc]
              exact congrArg some (lst_snoc (ys0 ++ ys) y)
            · exact ⟨hs₆.extBut _ _ (off₅ p hp).1 (N₅ p (.tail _ (.tail _ hp))).1, (N₅ p (.tail _ (.tail _ hp))).2⟩
        · exact ⟨hs₆.extBut _ _ (fun q => hDf (q ▸ No₂ p hp)) (No₅ p hp).1, (No₅ p hp).2⟩
    · obtain rfl : i = n := Nat.le_antisymm hi (Nat.not_lt.mp hlt)
      refine wpAny_bind (wpAny_standAt (wpAny_bind (wpAny_mono (W.done _ o _ hst' fun h₂ tk₂ g₂ hb₂ hk₂ => ?_) (fun r s₁ h₁ => h₁) fun _ _ x => x.elim)))
      have hg2 : g₂ = s₂.gens := hb₂
      subst hg2
      have F₂ := (up h₂ hk₂).1
      have N₂ := (up h₂ hk₂).2
      exact wpAny_pure (done h₂ tk₂ oC m' ys news' hoC hBo F₂ N₂ off' hJ')
  exact compStart_1 loop (wpAny_mono (W.self 0 _ _ _ hst loop) (fun _ _ q => q) fun _ _ x => x.elim)
end
section
variable {prog : Program} {w : World} {A : Around} {s : Shared} {h₀ : Heap} {L : Addr} {m : Str → Option Value} {env : Env} {R : Result → Shared → Prop}
theorem ListComp_open2 {elt iter target iter1 target1 : PySem.Expr} {ifs ifs1 : List PySem.Expr} {scope : Scope} {cl : List (Str × Addr)} {pos : Pos} {Q : Value → Shared → Prop}
    (hclos : closureFor scope env = pure cl) (hkind : scope.kind = .function) (hnames : ∀ y ∈ scope.names, y.2 = .local → scope.names.lookup y.1 = some .local)
    (h : wpAny (model prog w) A (eval iter env) (fun xv s₁ => wpAny (model prog w) A (pyIter xv) (fun it s₂ => wpAny (model prog w) A (newList []) (fun acc s₃ => wpAny (model prog w) A (newFunctionEnv scope env.globals cl [] env.qual none .none (some env)) (fun cenv s₄ =>
      codeAny (model prog w) A (.compStart (.ListComp elt [⟨target, iter, ifs, 0⟩, ⟨target1, iter1, ifs1, 0⟩] scope pos) 0 it acc { cenv with scope := relabel scope env }) (compPost (model prog w) A (fun _ _ => False) none Q acc cenv.locals) s₄) (fun _ _ => False) s₃) (fun _ _ => False) s₂) (fun _ _ => False) s₁) (fun _ _ => False) s)
    (hs : ∀ x, foldedSetIterable iter env x = pure x := by intro _; rfl) :
    wpAny (model prog w) A (eval (.ListComp elt [⟨target, iter, ifs, 0⟩, ⟨target1, iter1, ifs1, 0⟩] scope pos) env) Q (fun _ _ => False) s := by
  rw [eval_ListComp]
  exact wpAny_comprehension_free (use := none) rfl hs hclos hkind hnames h
theorem comp_list2N {elt iter target iter1 target1 : PySem.Expr} {ifs ifs1 : List PySem.Expr} {scope : Scope} {cl : List (Str × Addr)} {pos : Pos} {l : Addr} {vs : List Value} {news : Led} {Bd : Value → (Str → Option Value) → Prop} {Q : Value → Shared → Prop} (J : Kt)
    (hh : A.handled = none) (hl : s.heap.IsList l vs.toArray) (hK : ∀ h nx i ys, Fr h₀ L h m → News h₀ L h nx → J i ys nx → h.IsList l vs.toArray)
    (hcell : ∀ y ∈ scope.names, y.2 ≠ .cell) (hkind : scope.kind = .function) (F : Fr h₀ L s.heap m) (N : News h₀ L s.heap news) (hj : J 0 [] news) (hs1 : ∀ x env, foldedSetIterable iter1 env x = pure x)
    (hput : Puts prog w A h₀ L m target scope cl env (fun i v => vs[i]? = some v) Bd (fun nx => ∃ i ys, J i ys nx))
    (hlet : ∃ x px, target = .Name x px)
    (turn : ∀ i v ys nx h tk I oI C oC D m₂, i < vs.length → vs[i]? = some v → J i ys nx → NsObj oC m₂ → Bd v m₂ → Fr h₀ L h m → News h₀ L h ((C, oC) :: (D, lst ys) :: nx) → News h₀ L h [(I, oI)] → OffC D C [I] nx → (@Ne Nat C D) → (@Ne Nat I C) → (@Ne Nat I D) → ∀ (Y : Result → Shared → Prop) (Z : Shared → Prop), (∀ x s₆, CEnd2 h₀ L m (J (i + 1)) [I] [(I, oI)] C D { s with heap := h, toks := tk } s₆ → Y (.ok x) s₆) → (∀ s₃, CEnd2 h₀ L m (J (i + 1)) [I] [(I, oI)] C D { s with heap := h, toks := tk } s₃ → Z s₃) →
      wpAny (model prog w) A (testsOf ifs (compEnvC scope cl C env)) (fun ok s₃ => if ok = true
        then wpAny (model prog w) A (eval iter1 (compEnvC scope cl C env)) (fun x s₄ => wpAny (model prog w) A (pyIter x) (fun it s₅ => codeAny (model prog w) A (.compStart (.ListComp elt [⟨target, iter, ifs, 0⟩, ⟨target1, iter1, ifs1, 0⟩] scope pos) 1 it (.ref D) (compEnvC scope cl C env))
          Y s₅) (fun _ _ => False) s₄) (fun _ _ => False) s₃
        else Z s₃) (fun _ _ => False) { s with heap := h, toks := tk })
    (hE : ∀ D h tk ys nx, J vs.length ys nx → News h₀ L h ((D, lst ys) :: nx) → (∀ p ∈ nx, @Ne Nat p.1 D) → Fr h₀ L h m → Q (.ref D) { s with heap := h, toks := tk }) :
    wpAny (model prog w) A (pyIter (.ref l)) (fun it s₂ => wpAny (model prog w) A (newList []) (fun acc s₃ => wpAny (model prog w) A (newFunctionEnv scope env.globals cl [] env.qual none .none (some env)) (fun cenv s₄ =>
      codeAny (model prog w) A (.compStart (.ListComp elt [⟨target, iter, ifs, 0⟩, ⟨target1, iter1, ifs1, 0⟩] scope pos) 0 it acc { cenv with scope := relabel scope env }) (compPost (model prog w) A (fun _ _ => False) none Q acc cenv.locals) s₄) (fun _ _ => False) s₃) (fun _ _ => False) s₂) (fun _ _ => False) s := by
  have hol := hl
  obtain ⟨ol, hol, _⟩ := hol
  have hlt : l < s.heap.objs.size := Heap.lt_size hol
  have hne : l ≠ s.heap.objs.size := Nat.ne_of_lt hlt
  refine wpAny_pyIter_list hl ?_
  refine blockE (s₂ := { s with heap := s.heap.push _ }) (own := fun i s' o => ∃ oI, o = [(s.heap.objs.size, oI)] ∧ s'.heap.get? s.heap.objs.size = some oI ∧ s'.heap.IsListIter s.heap.objs.size l i ∧ s'.heap.IsList l vs.toArray) (adr := [s.heap.objs.size]) (n := vs.length) (P := fun i v => vs[i]? = some v) (G := fun a b => b = a) (Bd := Bd) (news := news) (RR := fun acc C => compPost (model prog w) A (fun _ _ => False) none Q acc C) J
    (Itr.list hh _ l hne vs) hK hcell hkind ⟨_, rfl, Heap.get?_push_size _ rfl, ⟨_, Heap.get?_push_size _ rfl, rfl, rfl⟩, hl.push _⟩ (F.push _) (fun p hp => ⟨Heap.get?_push_of_some _ (N p hp).1, (N p hp).2⟩) ?_ ?_ hj hs1 hput ?_ ?_ ?_
  · intro a ha
    rw [List.mem_singleton.mp ha]
    exact ⟨Nat.ne_of_gt F.ns.lt, next_is_new F⟩
  · intro p hp q
    exact Nat.ne_of_lt (Heap.lt_size (N p hp).1) (List.mem_singleton.mp q)
  · rintro i v s' o Q' hP ⟨oI, rfl, _, hit, _⟩ hQ
    obtain ⟨x, px, rfl⟩ := hlet
    exact wpAny_pure hQ
  · rintro i v ys nx h tk g o C oC D m₂ rfl hi hP hJ ⟨oI, rfl, _, _, _⟩ hoC hB F' N' No off hCD hI
    have hI' := hI _ (.head _)
    exact turn i v ys nx h tk _ oI C oC D m₂ hi hP hJ hoC hB F' N' No off hCD hI'.1 hI'.2 _ _ (fun _ _ h => h) (fun _ h => h)
  · exact compPost_none (n := vs.length) (J := J) (G := fun a b => b = a) (s₂ := { s with heap := s.heap.push _ }) (by rintro D h tk g ys nx rfl hJ N' o1 F'; exact hE D h tk ys nx hJ N' o1 F')
theorem inner_list {elt target iter target1 iter1 : PySem.Expr} {ifs ifs1 : List PySem.Expr} {scope : Scope} {cl : List (Str × Addr)} {pos : Pos} {l : Addr} {vs : List Value}
    {news : Led} {Bo : (Str → Option Value) → Prop} {Bd : Value → (Str → Option Value) → Prop} {C D : Addr} {oC0 : Obj} {m0 : Str → Option Value} {ys0 : List Value} (J : Kt)
    (hh : A.handled = none) (hl : s.heap.IsList l vs.toArray) (hK : ∀ h nx i ys, Fr h₀ L h m → News h₀ L h nx → J i ys nx → h.IsList l vs.toArray) (hsz : ys0.length + vs.length ≤ sizeLine)
    (F : Fr h₀ L s.heap m) (N : News h₀ L s.heap ((C, oC0) :: (D, lst ys0) :: news)) (hC : NsObj oC0 m0) (hB : Bo m0) (off : ∀ p ∈ news, (@Ne Nat p.1 D) ∧ (@Ne Nat p.1 C)) (hCD : C ≠ D) (hj : J 0 [] news)
    (hput : Puts2 prog w A h₀ L m target scope cl env (fun i v => vs[i]? = some v) Bo Bd (fun nx => ∃ i ys, J i ys nx))
    (hlet : (∃ x px, target = .Name x px) ∨ ((∃ elts k p, target = .Tuple elts k p) ∧ ∀ (i : Nat) (v : Value), vs[i]? = some v → ∃ T, v = Value.ref T))
    (hlen : ∀ i ys nx, J i ys nx → ys.length ≤ i)
    (turn : ∀ i v ys nx h tk I oI oC m₂, i < vs.length → vs[i]? = some v → J i ys nx → NsObj oC m₂ → Bd v m₂ → Bo m₂ → Fr h₀ L h m → News h₀ L h ((C, oC) :: (D, lst (ys0 ++ ys)) :: nx) → News h₀ L h [(I, oI)] → OffC D C [I] nx → (@Ne Nat I C) → (@Ne Nat I D) → ∀ (Y : Value → Shared → Prop) (Z : Shared → Prop), (∀ y s₄, CEnd h₀ L m (J (i + 1) (ys ++ [y])) [I] [(I, oI)] C oC D (lst (ys0 ++ ys)) { s with heap := h, toks := tk } s₄ → Y y s₄) → (∀ s₃, CEnd h₀ L m (J (i + 1) ys) [I] [(I, oI)] C oC D (lst (ys0 ++ ys)) { s with heap := h, toks := tk } s₃ → Z s₃) →
      wpAny (model prog w) A (testsOf ifs (compEnvC scope cl C env)) (fun ok s₃ => if ok = true
        then wpAny (model prog w) A (eval elt (compEnvC scope cl C env)) Y (fun _ _ => False) s₃
        else Z s₃) (fun _ _ => False) { s with heap := h, toks := tk })
    (done : ∀ h tk oC m₂ ys nx, NsObj oC m₂ → Bo m₂ → Fr h₀ L h m → News h₀ L h ((C, oC) :: (D, lst (ys0 ++ ys)) :: nx) → (∀ p ∈ nx, (@Ne Nat p.1 D) ∧ (@Ne Nat p.1 C)) → J vs.length ys nx → R (.ok .next) { s with heap := h, toks := tk }) :
    wpAny (model prog w) A (pyIter (.ref l)) (fun it s₅ => codeAny (model prog w) A (.compStart (.ListComp elt [⟨target1, iter1, ifs1, 0⟩, ⟨target, iter, ifs, 0⟩] scope pos) 1 it (.ref D) (compEnvC scope cl C env)) R s₅) (fun _ _ => False) s := by
  have hol := hl
  obtain ⟨ol, hol, _⟩ := hol
  have hlt : l < s.heap.objs.size := Heap.lt_size hol
  have hne : l ≠ s.heap.objs.size := Nat.ne_of_lt hlt
  have hCs : C < s.heap.objs.size := Heap.lt_size (N _ (.head _)).1
  have hDs : D < s.heap.objs.size := Heap.lt_size (N _ (.tail _ (.head _))).1
  refine wpAny_pyIter_list hl ?_
  refine innerW (s₂ := { s with heap := s.heap.push _ }) (own := fun i s' o => ∃ oI, o = [(s.heap.objs.size, oI)] ∧ s'.heap.get? s.heap.objs.size = some oI ∧ s'.heap.IsListIter s.heap.objs.size l i ∧ s'.heap.IsList l vs.toArray) (adr := [s.heap.objs.size]) (n := vs.length) (P := fun i v => vs[i]? = some v) (Bo := Bo) (Bd := Bd) (news := news) (oC0 := oC0) J
    (Itr.list hh _ l hne vs) hK hsz ⟨_, rfl, Heap.get?_push_size _ rfl, ⟨_, Heap.get?_push_size _ rfl, rfl, rfl⟩, hl.push _⟩ (F.push _) (fun p hp => ⟨Heap.get?_push_of_some _ (N p hp).1, (N p hp).2⟩) hC hB ?_ ?_ hCD hj hput ?_ hlen ?_ ?_
  · intro a ha
    rw [List.mem_singleton.mp ha]
    exact ⟨Nat.ne_of_gt F.ns.lt, next_is_new F, Nat.ne_of_gt hCs, Nat.ne_of_gt hDs⟩
  · intro p hp
    refine ⟨(off p hp).1, (off p hp).2, fun q => ?_⟩
    exact Nat.ne_of_lt (Heap.lt_size (N p (.tail _ (.tail _ hp))).1) (List.mem_singleton.mp q)
  · rintro i v s' o Q' hP ⟨oI, rfl, _, hit, _⟩ hQ
    rcases hlet with ⟨x, px, rfl⟩ | ⟨⟨elts, k, p, rfl⟩, hT⟩
    · exact wpAny_pure hQ
    · obtain ⟨T, rfl⟩ := hT i v hP
      exact wpAny_letOwnedTupleGo_listiter hit hQ
  · rintro i v ys nx h tk o oC m₂ hi hP hJ ⟨oI, rfl, _, _, _⟩ hoC hB hBo F' N' No off
    exact turn i v ys nx h tk _ oI oC m₂ hi hP hJ hoC hB hBo F' N' No off (Nat.ne_of_gt hCs) (Nat.ne_of_gt hDs) _ _ (fun _ _ h => h) (fun _ h => h)
  · rintro h tk oC m₂ ys nx hoC hBo F' N' off hJ
    exact done h tk oC m₂ ys nx hoC hBo F' N' (fun p hp => ⟨(off p hp).1, (off p hp).2.1⟩) hJ
end
end
section
section
variable {prog : Program} {w : World} {A : Around} {s : Shared} {env : Env} {h₀ : Heap} {Q : Flow → Shared → Prop}
noncomputable def WEnd (h₀ : Heap) (L : Addr) (J : Nat → (Str → Option Value) → Led → Prop) (n : Nat) (s s₃ : Shared) : Prop :=
  ∃ h' tk m' nx n', n' < n ∧ s₃ = { s with heap := h', toks := tk } ∧ Fr h₀ L h' m' ∧ News h₀ L h' nx ∧ J n' m' nx
noncomputable def WPost (h₀ : Heap) (L : Addr) (J : Nat → (Str → Option Value) → Led → Prop) (n : Nat) (s : Shared) (Q : Flow → Shared → Prop) (f : Flow) (s₃ : Shared) : Prop :=
  match f with
  | .ret v => Q (.ret v) s₃
  | .brk => Q .next s₃
  | _ => WEnd h₀ L J n s s₃
theorem WEnd.intro {L : Addr} {J : Nat → (Str → Option Value) → Led → Prop} {n n' : Nat} {h' : Heap} {tk : Nat} {m' : Str → Option Value} {nx : Led} (hn : n' < n) (F : Fr h₀ L h' m') (N : News h₀ L h' nx) (hj : J n' m' nx) :
    WEnd h₀ L J n s { s with heap := h', toks := tk } := ⟨h', tk, m', nx, n', hn, rfl, F, N, hj⟩
theorem whileW {test : PySem.Expr} {body : List Stmt} {pos : Pos} {m₀ : Str → Option Value} {news : Led} (J : Nat → (Str → Option Value) → Led → Prop) (n : Nat) (F : Fr h₀ env.locals s.heap m₀) (N : News h₀ env.locals s.heap news) (hj : J n m₀ news)
    (turn : ∀ n m nx h tk, J n m nx → Fr h₀ env.locals h m → News h₀ env.locals h nx → ∀ Post : Flow → Shared → Prop, (∀ f s₃, WPost h₀ env.locals J n s Q f s₃ → Post f s₃) →
      wpAny (model prog w) A (isTrue test env (eval test env)) (fun b s₂ => if b = true then wpAny (model prog w) A (execs body env) Post (fun _ _ => False) s₂ else Q .next s₂) (fun _ _ => False) { s with heap := h, toks := tk }) :
    wpAny (model prog w) A (exec (.While test body [] pos) env) Q (fun _ _ => False) s := by
  refine wpAny_While (codeAny_whileLoop (fun n s' => ∃ h tk m nx, s' = { s with heap := h, toks := tk } ∧ Fr h₀ env.locals h m ∧ News h₀ env.locals h nx ∧ J n m nx) ?_ n ⟨_, _, m₀, news, rfl, F, N, hj⟩)
  rintro n s' ⟨h, tk, m, nx, rfl, F', N', hj'⟩
  refine wpAny_mono (turn n m nx h tk hj' F' N' _ (fun _ _ h => h)) (fun b s₂ hb => ?_) fun _ _ x => x.elim
  cases b with
  | true =>
    rw [if_pos rfl] at hb
    rw [if_pos rfl]
    refine wpAny_mono hb (fun f s₃ hf => ?_) fun _ _ x => x.elim
    have fin : WEnd h₀ env.locals J n s s₃ → ∃ m, m < n ∧ ∃ h tk m_1 nx, s₃ = { s with heap := h, toks := tk } ∧ Fr h₀ env.locals h m_1 ∧ News h₀ env.locals h nx ∧ J m m_1 nx := by
      rintro ⟨h', tk', m', nx', n', hn, rfl, F₃, N₃, hj₃⟩
      exact ⟨n', hn, h', tk', m', nx', rfl, F₃, N₃, hj₃⟩
    cases f with
    | ret v => exact hf
    | brk => exact hf
    | next => exact fin hf
    | cont => exact fin hf
  | false =>
    rw [if_neg Bool.false_ne_true] at hb
    rw [if_neg Bool.false_ne_true]
    exact wpAny_execs_nil hb
/-- an item of a list of ints, by a whole number within -/
theorem sub_intB {E : Value → Shared → Prop} {value slice : PySem.Expr} {l : Addr} {ar : Array Value} {xs : List Int} {k : Int} {u : Tok} {Q : Value → Shared → Prop} (hl : s.heap.IsList l ar) (hs : IntsAre ar.toList xs) (h0 : 0 ≤ k) (hk : k < (xs.length : Int)) (hb : xs.length ≤ 1000)
    (h : ∀ t, Q (.int (xs.getD k.toNat 0) t) s)
    (hsub : subscripted slice false (.ref l) (.int k u) = operate [.ref l, .int k u] (getItem (.ref l) (.int k u)) := by with_unfolding_all rfl) :
    wpAny (model prog w) A (subscriptTail value slice (.ref l) (.int k u)) Q E s := by
  have hlt : k.toNat < ar.toList.length := by rw [intsAre_length hs]; omega
  obtain ⟨y, t, e1, e2⟩ := intsAre_get hs (List.getElem?_eq_getElem hlt)
  have hx : ar[k.toNat]? = some (.int y t) := by rw [← Array.getElem?_toList, List.getElem?_eq_getElem hlt, e1]
  refine tail_any hl.typeIs slot_list_getitem.lookup (wpAny_getItem_list hl h0 (by omega) hx ?_) hsub
  have := h t
  rw [List.getD_eq_getElem?_getD, e2] at this
  exact this
theorem Puts2.three {L : Addr} {m : Str → Option Value} {x₁ x₂ x₃ : Str} {p₁ p₂ p₃ tp : Pos} {tk : Nat} {scope : Scope} {cl : List (Str × Addr)} {P : Nat → Value → Prop} {Bo : (Str → Option Value) → Prop} {news : Led → Prop} (hh : A.handled = none) (hkind : scope.kind = .function)
    (hx₁ : scope.names.lookup x₁ = some .local) (hx₂ : scope.names.lookup x₂ = some .local) (hx₃ : scope.names.lookup x₃ = some .local) (h12 : x₁ ≠ x₂) (h13 : x₁ ≠ x₃) (h23 : x₂ ≠ x₃)
    (B : Value → Value → Value → Value → Prop) (hBo : ∀ m' a b c, Bo m' → Bo (fun y => if y = x₃ then some c else if y = x₂ then some b else if y = x₁ then some a else m' y))
    (hP : ∀ i v, P i v → ∀ h nx, Fr h₀ L h m → News h₀ L h nx → news nx → ∃ T a b c, v = .ref T ∧ IsTup h T #[a, b, c] ∧ B v a b c) :
    Puts2 prog w A h₀ L m (.Tuple [.Name x₁ p₁, .Name x₂ p₂, .Name x₃ p₃] tk tp) scope cl env P Bo (fun v m' => ∃ a b c, m' x₁ = some a ∧ m' x₂ = some b ∧ m' x₃ = some c ∧ B v a b c) news := by
  intro i v s C m' nx Q hp hn hbo F N hnw hCL hC0 k
  obtain ⟨T, a, b, c, rfl, ht, hB⟩ := hP i v hp _ _ F N hnw
  refine assign_Tuple_tuple hh ht rfl rfl fun h₅ he => ?_
  have hnlt : C < s.heap.objs.size := hn.lt
  show wpAny (model prog w) A (assignInOrder [assign (.Name x₁ p₁) (compEnvC scope cl C env), assign (.Name x₂ p₂) (compEnvC scope cl C env), assign (.Name x₃ p₃) (compEnvC scope cl C env)] [a, b, c]) _ _ _
  have hloc : ((compEnvC scope cl C env).scope.kind == .class || ((compEnvC scope cl C env).scope.kind == .module && (compEnvC scope cl C env).locals != (compEnvC scope cl C env).globals)) = false := by simp [compEnvC, relabel, hkind]
  have hn₅ : h₅.Ns C m' := hn.at' fun o e => he C o (Nat.ne_of_lt hnlt) e
  refine assignInOrder_cons (wpAny_assign_Name (wpAny_storeName_local (lookup_relabel_local hx₁) hn₅ (fun h₆ hn₆ hs₆ => ?_) hloc))
  refine assignInOrder_cons (wpAny_assign_Name (wpAny_storeName_local (lookup_relabel_local hx₂) hn₆ (fun h₇ hn₇ hs₇ => ?_) hloc))
  refine assignInOrder_cons (wpAny_assign_Name (wpAny_storeName_local (lookup_relabel_local hx₃) hn₇ (fun h₈ hn₈ hs₈ => ?_) hloc))
  refine assignInOrder_nil (k h₈ _ _ hn₈ ⟨a, b, c, ?_, ?_, ?_, hB⟩ (hBo m' a b c hbo) fun b ob hb e => ?_)
  · simp [h12, h13]
  · simp [h23]
  · simp
  · exact hs₈.extBut b ob hb (hs₇.extBut b ob hb (hs₆.extBut b ob hb (he b ob (Nat.ne_of_lt (Heap.lt_size e)) e)))
end
end
section
structure HSt where
  res : List Str
  part : Str
  esc : Bool
  quo : Bool
noncomputable def hStep (st : HSt) (c : Nat) : HSt :=
  if st.esc then { st with part := st.part ++ ⟨#[c]⟩, esc := false }
  else if st.quo then
    if c = 92 then { st with esc := true }
    else { st with part := st.part ++ ⟨#[c]⟩, quo := if c = 34 then false else st.quo }
  else if c = 44 then { st with res := st.res ++ [st.part], part := Str.empty }
  else { st with part := st.part ++ ⟨#[c]⟩, quo := if c = 34 then true else st.quo }
noncomputable def hInit : HSt := ⟨[], Str.empty, false, false⟩
noncomputable def hEnd (st : HSt) : List Str := (if st.part.length = 0 then st.res else st.res ++ [st.part]).map Txt.strip
noncomputable def httpList (x : Str) : List Str := hEnd (x.cps.toList.foldl hStep hInit)
noncomputable def hOk (n : Nat) (st : HSt) : Prop := st.part.length ≤ n ∧ st.res.length ≤ n ∧ ∀ y ∈ st.res, y.length ≤ n
theorem hOk_step {n : Nat} {st : HSt} (c : Nat) (h : hOk n st) : hOk (n + 1) (hStep st c) := by
  obtain ⟨res, part, esc, quo⟩ := st
  obtain ⟨h1, h2, h3⟩ := h
  dsimp only at h1 h2 h3
  have h3' : ∀ y ∈ res, y.length ≤ n + 1 := fun y hy => Nat.le_succ_of_le (h3 y hy)
  have h4 : part.length ≤ n + 1 := Nat.le_succ_of_le h1
  have h5 : res.length ≤ n + 1 := Nat.le_succ_of_le h2
  unfold hStep hOk
  repeat' split
  all_goals (simp only [Str.length_append, len1])
  all_goals first
    | exact ⟨Nat.succ_le_succ h1, h5, h3'⟩
    | exact ⟨h4, h5, h3'⟩
    | exact ⟨Nat.zero_le _, by rw [List.length_append]; exact Nat.succ_le_succ h2, fun y hy => (List.mem_append.mp hy).elim (h3' y) fun e => by rw [List.mem_singleton.mp e]; exact h4⟩
theorem hOk_fold (l : List Nat) : hOk l.length (l.foldl hStep hInit) := by
  suffices h : ∀ (l : List Nat) n st, hOk n st → hOk (n + l.length) (l.foldl hStep st) by
    have := h l 0 hInit ⟨Nat.le_refl _, Nat.le_refl _, fun y hy => nomatch hy⟩
    rwa [Nat.zero_add] at this
  intro l
  induction l with
  | nil => intro n st h; exact h
  | cons c r ih =>
    intro n st h
    have := ih (n + 1) _ (hOk_step c h)
    rw [List.length_cons, List.foldl_cons]
    rwa [show n + (r.length + 1) = n + 1 + r.length by omega]
noncomputable abbrev httpJ (gs : Array GenState) (R : Addr) (st : HSt) (m : Str → Option Value) (nx : Led) (g : Array GenState) : Prop := ∃ (ar : Array Value) (nn : Nat) (tp : Tok), nx = [(R, W.listOf ar nn)] ∧ StrsAre ar.toList st.res ∧ g = gs
     ∧ m (Str.ofString "part") = some (.str st.part tp) ∧ m (Str.ofString "escape") = some (.bool st.esc) ∧ m (Str.ofString "quote") = some (.bool st.quo) ∧ m (Str.ofString "res") = some (.ref R)
theorem httpJ.opened {gs : Array GenState} {R : Addr} {st : HSt} {m : Str → Option Value} {nx : Led} {g : Array GenState} {G : Prop} (h : httpJ gs R st m nx g)
    (k : ∀ res part esc quo ar nn tp, st = ⟨res, part, esc, quo⟩ → nx = [(R, W.listOf ar nn)] → StrsAre ar.toList res → g = gs → m (Str.ofString "part") = some (.str part tp) → m (Str.ofString "escape") = some (.bool esc) → m (Str.ofString "quote") = some (.bool quo) → m (Str.ofString "res") = some (.ref R) → G) : G := by
  obtain ⟨ar, nn, tp, h1, h2, h3, h4, h5, h6, h7⟩ := h
  exact k st.res st.part st.esc st.quo ar nn tp rfl h1 h2 h3 h4 h5 h6 h7
section
variable {res : List Str} {part : Str} {esc quo : Bool} {c : Nat}
theorem hS_a (h1 : esc = true) : hStep ⟨res, part, esc, quo⟩ c = ⟨res, part ++ ⟨#[c]⟩, false, quo⟩ := by subst h1; rfl
theorem hS_b (h1 : esc = false) (h2 : quo = true) (h3 : ((⟨#[c]⟩ : Str) == Str.ofString "\\") = true) : hStep ⟨res, part, esc, quo⟩ c = ⟨res, part, true, quo⟩ := by
  subst h1; subst h2
  rw [lit_bs, beq1, decide_eq_true_eq] at h3
  subst h3; rfl
theorem hS_c (h1 : esc = false) (h2 : quo = true) (h3 : ((⟨#[c]⟩ : Str) == Str.ofString "\\") = false) (h4 : ((⟨#[c]⟩ : Str) == Str.ofString "\"") = true) : hStep ⟨res, part, esc, quo⟩ c = ⟨res, part ++ ⟨#[c]⟩, esc, false⟩ := by
  subst h1; subst h2
  rw [lit_q, beq1, decide_eq_true_eq] at h4
  subst h4; rfl
theorem hS_d (h1 : esc = false) (h2 : quo = true) (h3 : ((⟨#[c]⟩ : Str) == Str.ofString "\\") = false) (h4 : ((⟨#[c]⟩ : Str) == Str.ofString "\"") = false) : hStep ⟨res, part, esc, quo⟩ c = ⟨res, part ++ ⟨#[c]⟩, esc, quo⟩ := by
  subst h1; subst h2
  rw [lit_bs, beq1, decide_eq_false_iff_not] at h3
  rw [lit_q, beq1, decide_eq_false_iff_not] at h4
  simp [hStep, h3, h4]
theorem hS_e (h1 : esc = false) (h2 : quo = false) (h3 : ((⟨#[c]⟩ : Str) == Str.ofString ",") = true) : hStep ⟨res, part, esc, quo⟩ c = ⟨res ++ [part], Str.empty, esc, quo⟩ := by
  subst h1; subst h2
  rw [lit_comma, beq1, decide_eq_true_eq] at h3
  subst h3; rfl
theorem hS_f (h1 : esc = false) (h2 : quo = false) (h3 : ((⟨#[c]⟩ : Str) == Str.ofString ",") = false) (h4 : ((⟨#[c]⟩ : Str) == Str.ofString "\"") = true) : hStep ⟨res, part, esc, quo⟩ c = ⟨res, part ++ ⟨#[c]⟩, esc, true⟩ := by
  subst h1; subst h2
  rw [lit_q, beq1, decide_eq_true_eq] at h4
  subst h4; rfl
theorem hS_g (h1 : esc = false) (h2 : quo = false) (h3 : ((⟨#[c]⟩ : Str) == Str.ofString ",") = false) (h4 : ((⟨#[c]⟩ : Str) == Str.ofString "\"") = false) : hStep ⟨res, part, esc, quo⟩ c = ⟨res, part ++ ⟨#[c]⟩, esc, quo⟩ := by
  subst h1; subst h2
  rw [lit_comma, beq1, decide_eq_false_iff_not] at h3
  rw [lit_q, beq1, decide_eq_false_iff_not] at h4
  simp [hStep, h3, h4]
end
set_option maxRecDepth 100000 in
set_option maxHeartbeats 1000000 in
theorem http_call (w : World) (x : Str) (t : Tok) (hpre : x.cps.size ≤ 100000) : Spec w 83 [.str x t] 3 16 (fun _ => True) (fun h h' r => ∃ a ys nn, r = .ref a ∧ h'.get? a = some (W.listOf ys nn) ∧ h.get? a = none ∧ StrsAre ys.toList (httpList x)) := by
  unfold Spec
  k_fill
  intro mean mg mb dp un gd cn cs a ccd cl outer A₀ base h₀ L m s Q B F X T hk hdp hun _ hret
  (refine' enterH ?k1 ?k2 ?k3 ?k5 ?kA ?kF ?kK ?k6 ?k7 ?k8 ?k9 ?kB ?_ ?c2 ?c3 ?c4 ?c5; (case kA => exact rfl); (case kF => exact rfl); (case kK => assumption); (case k1 => k_asm); (case k2 => k_asm); (case k3 => k_asm); (case k5 => k_asm); (case k6 => k_is); (case k7 => k_is); (case k8 => ktr_room); (case k9 => exact BindsTo.of_eq rfl); (case c5 => decide); (case kB => exact locs rfl); (case c2 => exact rfl); (case c3 => exact rfl); (case c4 => exact rfl); k_whole; intro _ _ _ _ _ _ _; (try dsimp only); (try k_fold))
  (repeat' ((fail_if_success (with_reducible show wpAny _ _ (exec (Stmt.For _ _ _ _ _) _) _ _ _)); (fail_if_success (with_reducible show wpAny _ _ (exec (Stmt.While _ _ _ _) _) _ _ _)); (fail_if_success (with_reducible show wpAny _ _ (eval (Expr.ListComp _ _ _ _) _) _ _ _)); (fail_if_success (with_reducible show wpAny _ _ (pyIter _) _ _ _)); (fail_if_success (with_reducible show wpAny _ _ (exec (Stmt.Assign _ (Expr.ListComp _ _ _ _) _) _) _ _ _)); (fail_if_success (with_reducible show TurnPost _ _ _ _ _ _ _ _ _)); first | (k_unfold; (try dsimp only)) | walk1 | (dsimp only; walk1)))
  refine wpAny_For ?_
  (repeat' ((fail_if_success (with_reducible show wpAny _ _ (exec (Stmt.For _ _ _ _ _) _) _ _ _)); (fail_if_success (with_reducible show wpAny _ _ (exec (Stmt.While _ _ _ _) _) _ _ _)); (fail_if_success (with_reducible show wpAny _ _ (eval (Expr.ListComp _ _ _ _) _) _ _ _)); (fail_if_success (with_reducible show wpAny _ _ (pyIter _) _ _ _)); (fail_if_success (with_reducible show wpAny _ _ (exec (Stmt.Assign _ (Expr.ListComp _ _ _ _) _) _) _ _ _)); (fail_if_success (with_reducible show TurnPost _ _ _ _ _ _ _ _ _)); first | (k_unfold; (try dsimp only)) | walk1 | (dsimp only; walk1)))
  refine iter_str (fun i => httpJ s.gens _ ((x.cps.toList.take i).foldl hStep hInit)) ?_ (by k_asm) (by k_asm) ⟨#[], 0, _, rfl, StrsAre.nil, rfl, rfl, rfl, rfl, rfl⟩ rfl ?_ ?_
  · rfl
  · rintro i c u I oI m₁ nx h tk g hge hc hJ hn F₁ N₁ Post hPost
    refine httpJ.opened hJ ?_
    clear hJ
    intro res part esc quo ar nn tp hst qe1 hvs qe2 hp he hq hr
    subst qe1
    subst qe2
    have hi : i < x.cps.size := by
      rcases Nat.lt_or_ge i x.cps.size with h | h
      · exact h
      · rw [Array.getElem?_eq_none h] at hc; cases hc
    have hs := foldl_take_succ hStep hInit x.cps.toList i c (by simpa using hc)
    rw [hs, hst] at hPost
    clear hs
    replace F₁ := Fr.see4 F₁ hp he hq hr
    clear hp he hq hr
    have hok := hOk_fold (x.cps.toList.take i)
    have hlt : (x.cps.toList.take i).length ≤ i := by rw [List.length_take]; exact Nat.min_le_left _ _
    rw [hst] at hok
    have ok1 : part.length ≤ (x.cps.toList.take i).length := hok.1
    have ok2 : res.length ≤ (x.cps.toList.take i).length := hok.2.1
    have ok3 : ∀ y ∈ res, y.length ≤ (x.cps.toList.take i).length := hok.2.2
    clear hok hst
    have hal := strsAre_length hvs
    rw [Array.length_toList] at hal
    have hnI := hn_hd hn
    (repeat' ((fail_if_success (with_reducible show wpAny _ _ (exec (Stmt.For _ _ _ _ _) _) _ _ _)); (fail_if_success (with_reducible show wpAny _ _ (exec (Stmt.While _ _ _ _) _) _ _ _)); (fail_if_success (with_reducible show wpAny _ _ (eval (Expr.ListComp _ _ _ _) _) _ _ _)); (fail_if_success (with_reducible show wpAny _ _ (pyIter _) _ _ _)); (fail_if_success (with_reducible show wpAny _ _ (exec (Stmt.Assign _ (Expr.ListComp _ _ _ _) _) _) _ _ _)); (fail_if_success (with_reducible show TurnPost _ _ _ _ _ _ _ _ _)); first | (k_unfold; (try dsimp only)) | walk1 | (dsimp only; walk1)))
    all_goals (refine hPost _ _ ?_; simp only [TurnPost]; refine TurnEnd.intro _ (by assumption) (by assumption) (one_ne hnI) ?_)
    all_goals first
      | rw [hS_a (by assumption)]
      | rw [hS_b (by assumption) (by assumption) (by assumption)]
      | rw [hS_c (by assumption) (by assumption) (by assumption) (by assumption)]
      | rw [hS_d (by assumption) (by assumption) (by assumption) (by assumption)]
      | rw [hS_e (by assumption) (by assumption) (by assumption)]
      | rw [hS_f (by assumption) (by assumption) (by assumption) (by assumption)]
      | rw [hS_g (by assumption) (by assumption) (by assumption) (by assumption)]
    all_goals first
      | exact ⟨_, _, _, rfl, hvs, rfl, rfl, rfl, rfl, rfl⟩
      | exact ⟨_, _, _, rfl, strsAre_snoc hvs, rfl, rfl, rfl, rfl, rfl⟩
  · rintro m₁ nx h tk g hge ⟨ar, nn, tp, rfl, hvs, rfl, hp, he, hq, hr⟩ F₁ N₁
    have e : x.cps.toList.take x.cps.size = x.cps.toList := List.take_of_length_le (by simp)
    rw [e] at hvs hp he hq
    replace F₁ := Fr.see4 F₁ hp he hq hr
    clear hp he hq hr e
    have hok := hOk_fold x.cps.toList
    have hx : httpList x = hEnd (x.cps.toList.foldl hStep hInit) := rfl
    generalize x.cps.toList.foldl hStep hInit = st at *
    rw [Array.length_toList] at hok
    obtain ⟨res, part, esc, quo⟩ := st
    have ok1 := hok.1
    have ok2 := hok.2.1
    have ok3 := hok.2.2
    clear hok
    dsimp only at *
    have hal := strsAre_length hvs
    rw [Array.length_toList] at hal
    (repeat' ((fail_if_success (with_reducible show wpAny _ _ (exec (Stmt.For _ _ _ _ _) _) _ _ _)); (fail_if_success (with_reducible show wpAny _ _ (exec (Stmt.While _ _ _ _) _) _ _ _)); (fail_if_success (with_reducible show wpAny _ _ (eval (Expr.ListComp _ _ _ _) _) _ _ _)); (fail_if_success (with_reducible show wpAny _ _ (pyIter _) _ _ _)); (fail_if_success (with_reducible show wpAny _ _ (exec (Stmt.Assign _ (Expr.ListComp _ _ _ _) _) _) _ _ _)); (fail_if_success (with_reducible show TurnPost _ _ _ _ _ _ _ _ _)); first | (k_unfold; (try dsimp only)) | walk1 | (dsimp only; walk1)))
    all_goals refine ListComp_open (by rfl) rfl (by decide) ?_
    all_goals (repeat' ((fail_if_success (with_reducible show wpAny _ _ (exec (Stmt.For _ _ _ _ _) _) _ _ _)); (fail_if_success (with_reducible show wpAny _ _ (exec (Stmt.While _ _ _ _) _) _ _ _)); (fail_if_success (with_reducible show wpAny _ _ (eval (Expr.ListComp _ _ _ _) _) _ _ _)); (fail_if_success (with_reducible show wpAny _ _ (pyIter _) _ _ _)); (fail_if_success (with_reducible show wpAny _ _ (exec (Stmt.Assign _ (Expr.ListComp _ _ _ _) _) _) _ _ _)); (fail_if_success (with_reducible show TurnPost _ _ _ _ _ _ _ _ _)); first | (k_unfold; (try dsimp only)) | walk1 | (dsimp only; walk1)))
    · have hb9 : ∀ y ∈ (res ++ [part]), y.length ≤ x.cps.size := fun y hy => (List.mem_append.mp hy).elim (ok3 y) fun e => by rw [List.mem_singleton.mp e]; exact ok1
      have hx9 : httpList x = ((res ++ [part])).map Txt.strip := by rw [hx]; unfold hEnd; rw [if_neg (by dsimp only; omega)]
      refine comp_listN (news := [(_, W.listOf (ar.push (Value.str part tp)) _)]) (vs := (ar.push (Value.str part tp)).toList) (Bd := fun v m' => m' (Str.ofString "part") = some v) (fun i ys nx => nx = [(_, W.listOf (ar.push (Value.str part tp)) _)] ∧ ys.length = i ∧ StrsAre ys ((((res ++ [part])).take i).map Txt.strip)) rfl ?_ ?_ ?_ (by decide) rfl (by k_asm) (by k_asm) ⟨rfl, rfl, by simpa using StrsAre.nil⟩ (Puts.name rfl rfl) (.inl ⟨_, _, rfl⟩) ?_ ?_ ?_
      · exact isList_of (News.get (by assumption) (.head _))
      · rintro h nx i ys F2 N2 ⟨rfl, _⟩
        exact isList_of (News.get N2 (.head _))
      · simp only [sizeLine_eq, Array.length_toList, Array.size_push]; omega
      · rintro i ys nx ⟨_, e, _⟩; exact Nat.le_of_eq e
      · rintro i v ys nx h tk I oI C oC D m₂ hi hv hJ hoC hb F2 N2 No hoff hCD hIC hID Y Z hY hZ
        have qe1 := hJ.1
        have hyl := hJ.2.1
        have hys := hJ.2.2
        clear hJ
        subst qe1
        refine ex2 (strsAre_get (by first | exact hvs | exact strsAre_snoc hvs) hv) ?_
        intro y u hx9
        have qe1 := hx9.1
        have hy := hx9.2
        clear hx9
        subst qe1
        have hyl9 := hb9 y (List.mem_of_getElem? hy)
        have hta := take_succ_map Txt.strip _ _ _ hy
        have N3 := news_cat N2 No
        simp only [List.cons_append, List.nil_append] at N3
        clear N2 No
        refine wpAny_tests_nil ?_
        rw [if_pos rfl]
        (repeat' ((fail_if_success (with_reducible show wpAny _ _ (exec (Stmt.For _ _ _ _ _) _) _ _ _)); (fail_if_success (with_reducible show wpAny _ _ (exec (Stmt.While _ _ _ _) _) _ _ _)); (fail_if_success (with_reducible show wpAny _ _ (eval (Expr.ListComp _ _ _ _) _) _ _ _)); (fail_if_success (with_reducible show wpAny _ _ (pyIter _) _ _ _)); (fail_if_success (with_reducible show wpAny _ _ (exec (Stmt.Assign _ (Expr.ListComp _ _ _ _) _) _) _ _ _)); (fail_if_success (with_reducible show TurnPost _ _ _ _ _ _ _ _ _)); first | (k_unfold; (try dsimp only)) | walk1 | (dsimp only; walk1)))
        refine hY _ _ (CEnd.intro [(_, W.listOf (ar.push (Value.str part tp)) _)] (by assumption) (all_put (N3 _ (.head _)) (all_put (N3 _ (.tail _ (.head _))) (all_put (N3 _ (.tail _ (.tail _ (.head _)))) all_nil))) (all_put (N3 _ (.tail _ (.tail _ (.tail _ (.head _))))) all_nil) hoff ⟨rfl, ?_, ?_⟩)
        · rw [List.length_append, hyl]; rfl
        · rw [hta]; exact strsAre_snocL hys
      · rintro D h tk ys nx ⟨rfl, hyl, hys⟩ N2 hD F2
        rw [List.take_of_length_le (by simp [hal])] at hys
        (repeat' ((fail_if_success (with_reducible show wpAny _ _ (exec (Stmt.For _ _ _ _ _) _) _ _ _)); (fail_if_success (with_reducible show wpAny _ _ (exec (Stmt.While _ _ _ _) _) _ _ _)); (fail_if_success (with_reducible show wpAny _ _ (eval (Expr.ListComp _ _ _ _) _) _ _ _)); (fail_if_success (with_reducible show wpAny _ _ (pyIter _) _ _ _)); (fail_if_success (with_reducible show wpAny _ _ (exec (Stmt.Assign _ (Expr.ListComp _ _ _ _) _) _) _ _ _)); (fail_if_success (with_reducible show TurnPost _ _ _ _ _ _ _ _ _)); first | (k_unfold; (try dsimp only)) | walk1 | (dsimp only; walk1)))
        refine Fin.intro (hret _ _ _ (by first | exact F2.keep | exact Fr.keep (by assumption)) ⟨_, ys.toArray, _, rfl, News.get N2 (.head _), News.fresh N2 (.head _), ?_⟩)
        rw [hx9]; simpa using hys
    · have hb9 : ∀ y ∈ res, y.length ≤ x.cps.size := ok3
      have hx9 : httpList x = (res).map Txt.strip := by rw [hx]; unfold hEnd; rw [if_pos (by dsimp only; omega)]
      refine comp_listN (news := [(_, W.listOf (ar) _)]) (vs := (ar).toList) (Bd := fun v m' => m' (Str.ofString "part") = some v) (fun i ys nx => nx = [(_, W.listOf (ar) _)] ∧ ys.length = i ∧ StrsAre ys (((res).take i).map Txt.strip)) rfl ?_ ?_ ?_ (by decide) rfl (by k_asm) (by k_asm) ⟨rfl, rfl, by simpa using StrsAre.nil⟩ (Puts.name rfl rfl) (.inl ⟨_, _, rfl⟩) ?_ ?_ ?_
      · exact isList_of (News.get (by assumption) (.head _))
      · rintro h nx i ys F2 N2 ⟨rfl, _⟩
        exact isList_of (News.get N2 (.head _))
      · simp only [sizeLine_eq, Array.length_toList, Array.size_push]; omega
      · rintro i ys nx ⟨_, e, _⟩; exact Nat.le_of_eq e
      · rintro i v ys nx h tk I oI C oC D m₂ hi hv hJ hoC hb F2 N2 No hoff hCD hIC hID Y Z hY hZ
        have qe1 := hJ.1
        have hyl := hJ.2.1
        have hys := hJ.2.2
        clear hJ
        subst qe1
        refine ex2 (strsAre_get (by first | exact hvs | exact strsAre_snoc hvs) hv) ?_
        intro y u hx9
        have qe1 := hx9.1
        have hy := hx9.2
        clear hx9
        subst qe1
        have hyl9 := hb9 y (List.mem_of_getElem? hy)
        have hta := take_succ_map Txt.strip _ _ _ hy
        have N3 := news_cat N2 No
        simp only [List.cons_append, List.nil_append] at N3
        clear N2 No
        refine wpAny_tests_nil ?_
        rw [if_pos rfl]
        (repeat' ((fail_if_success (with_reducible show wpAny _ _ (exec (Stmt.For _ _ _ _ _) _) _ _ _)); (fail_if_success (with_reducible show wpAny _ _ (exec (Stmt.While _ _ _ _) _) _ _ _)); (fail_if_success (with_reducible show wpAny _ _ (eval (Expr.ListComp _ _ _ _) _) _ _ _)); (fail_if_success (with_reducible show wpAny _ _ (pyIter _) _ _ _)); (fail_if_success (with_reducible show wpAny _ _ (exec (Stmt.Assign _ (Expr.ListComp _ _ _ _) _) _) _ _ _)); (fail_if_success (with_reducible show TurnPost _ _ _ _ _ _ _ _ _)); first | (k_unfold; (try dsimp only)) | walk1 | (dsimp only; walk1)))
        refine hY _ _ (CEnd.intro [(_, W.listOf (ar) _)] (by assumption) (all_put (N3 _ (.head _)) (all_put (N3 _ (.tail _ (.head _))) (all_put (N3 _ (.tail _ (.tail _ (.head _)))) all_nil))) (all_put (N3 _ (.tail _ (.tail _ (.tail _ (.head _))))) all_nil) hoff ⟨rfl, ?_, ?_⟩)
        · rw [List.length_append, hyl]; rfl
        · rw [hta]; exact strsAre_snocL hys
      · rintro D h tk ys nx ⟨rfl, hyl, hys⟩ N2 hD F2
        rw [List.take_of_length_le (by simp [hal])] at hys
        (repeat' ((fail_if_success (with_reducible show wpAny _ _ (exec (Stmt.For _ _ _ _ _) _) _ _ _)); (fail_if_success (with_reducible show wpAny _ _ (exec (Stmt.While _ _ _ _) _) _ _ _)); (fail_if_success (with_reducible show wpAny _ _ (eval (Expr.ListComp _ _ _ _) _) _ _ _)); (fail_if_success (with_reducible show wpAny _ _ (pyIter _) _ _ _)); (fail_if_success (with_reducible show wpAny _ _ (exec (Stmt.Assign _ (Expr.ListComp _ _ _ _) _) _) _ _ _)); (fail_if_success (with_reducible show TurnPost _ _ _ _ _ _ _ _ _)); first | (k_unfold; (try dsimp only)) | walk1 | (dsimp only; walk1)))
        refine Fin.intro (hret _ _ _ (by first | exact F2.keep | exact Fr.keep (by assumption)) ⟨_, ys.toArray, _, rfl, News.get N2 (.head _), News.fresh N2 (.head _), ?_⟩)
        rw [hx9]; simpa using hys
end
section
noncomputable def tabD (c : List (Str × Str)) : List (PyData × PyData) := c.map fun p => (PyData.str p.1, PyData.str p.2)
noncomputable def tabPut (c : List (Str × Str)) (k v : Str) : List (Str × Str) :=
  if c.any (fun p => decide (p.1 = k)) then c.map (fun p => if p.1 = k then (p.1, v) else p) else c ++ [(k, v)]
theorem tabD_put (c : List (Str × Str)) (k v : Str) : PyProof.V.putD (PyData.str k) (PyData.str v) (tabD c) = tabD (tabPut c k v) := by
  have hany : ((tabD c).any fun p => PySem.Spec.same p.1 (PyData.str k)) = c.any fun p => decide (p.1 = k) := by
    unfold tabD
    rw [List.any_map]
    have : ((fun p : PyData × PyData => PySem.Spec.same p.1 (PyData.str k)) ∘ fun p : Str × Str => (PyData.str p.1, PyData.str p.2)) = fun p => decide (p.1 = k) := by
      funext p
      exact PyProof.V.same_str _ _
    rw [this]
  unfold PyProof.V.putD tabPut
  rw [hany]
  split
  · unfold tabD
    rw [List.map_map, List.map_map]
    refine List.map_congr_left fun p _ => ?_
    show (if PySem.Spec.same (PyData.str p.1) (PyData.str k) = true then (PyData.str p.1, PyData.str v) else (PyData.str p.1, PyData.str p.2)) = (fun p : Str × Str => (PyData.str p.1, PyData.str p.2)) (if p.1 = k then (p.1, v) else p)
    rw [PyProof.V.same_str]
    by_cases h : p.1 = k
    · rw [if_pos (decide_eq_true h), if_pos h]
    · rw [if_neg (by simp [h]), if_neg h]
  · unfold tabD
    rw [List.map_append]
    first | done | rfl
theorem tabPut_len (c : List (Str × Str)) (k v : Str) : (tabPut c k v).length ≤ c.length + 1 := by
  unfold tabPut
  split
  · rw [List.length_map]; omega
  · rw [List.length_append]; simp
noncomputable def joinKV (p : Str × Str) : Str := p.1 ++ ⟨#[61]⟩ ++ p.2
theorem two_of_map {l : List (Str × Tok)} {a b : Str} (h : List.map (fun x => x.fst) l = [a, b]) : ∃ t u, l = [(a, t), (b, u)] := by
  match l, h with
  | [(x, t), (y, u)], h => simp at h; exact ⟨t, u, by rw [h.1, h.2]⟩
noncomputable def unq (v : Str) : Str := if Txt.item v 0 = ⟨#[34]⟩ ∧ Txt.item v (-1) = ⟨#[34]⟩ then Txt.slice v (some 1) (some (-1)) else v
noncomputable def tStep (c : List (Str × Str)) (p : Str × Str) : List (Str × Str) := tabPut c p.1 (unq p.2)
noncomputable def tabOf (ps : List (Str × Str)) : List (Str × Str) := ps.foldl tStep []
theorem tabOf_len (ps : List (Str × Str)) : (tabOf ps).length ≤ ps.length := by
  suffices h : ∀ (ps c : List (Str × Str)), (ps.foldl tStep c).length ≤ c.length + ps.length by have := h ps []; rwa [List.length_nil, Nat.zero_add] at this
  intro ps
  induction ps with
  | nil => intro c; simp
  | cons p r ih =>
    intro c
    rw [List.foldl_cons, List.length_cons]
    have := ih (tStep c p)
    have h2 := tabPut_len c p.1 (unq p.2)
    unfold tStep at *
    omega
theorem unq_two {v : Str} (h1 : (Txt.item v 0 == Str.ofString "\"") = true) (h2 : (Txt.item v (-1) == Str.ofString "\"") = true) : unq v = Txt.slice v (some 1) (some (-1)) := by
  rw [lit_q, beq_iff_eq] at h1 h2
  exact if_pos ⟨h1, h2⟩
theorem unq_one {v : Str} (h2 : (Txt.item v (-1) == Str.ofString "\"") = false) : unq v = v := by
  rw [lit_q, beq_eq_false_iff_ne] at h2
  exact if_neg fun q => h2 q.2
theorem unq_none {v : Str} (h1 : (Txt.item v 0 == Str.ofString "\"") = false) : unq v = v := by
  rw [lit_q, beq_eq_false_iff_ne] at h1
  exact if_neg fun q => h1 q.1
set_option maxRecDepth 100000 in
set_option maxHeartbeats 1000000 in
theorem keqv_call (w : World) (l : Addr) (vs : List Value) (ps : List (Str × Str)) (hxs : StrsAre vs (ps.map joinKV)) (hlen : ps.length ≤ 1000) (hsz : ∀ p ∈ ps, (joinKV p).length ≤ 100000 ∧ 61 ∉ p.1.cps.toList ∧ 1 ≤ p.2.length) :
    Spec w 78 [.ref l] 3 16 (fun h => h.IsList l vs.toArray) (fun h h' r => ∃ d o, r = .ref d ∧ h'.get? d = some o ∧ h.get? d = none ∧ StrTab PySem.Challenge.rw_il0007_01.row.prog w h' d (tabD (tabOf ps))) := by
  unfold Spec
  k_fill
  intro mean mg mb dp un gd cn cs a ccd cl outer A₀ base h₀ L m s Q B F X T hk hdp hun hl hret
  (refine' enterH ?k1 ?k2 ?k3 ?k5 ?kA ?kF ?kK ?k6 ?k7 ?k8 ?k9 ?kB ?_ ?c2 ?c3 ?c4 ?c5; (case kA => exact rfl); (case kF => exact rfl); (case kK => assumption); (case k1 => k_asm); (case k2 => k_asm); (case k3 => k_asm); (case k5 => k_asm); (case k6 => k_is); (case k7 => k_is); (case k8 => ktr_room); (case k9 => exact BindsTo.of_eq rfl); (case c5 => decide); (case kB => exact locs rfl); (case c2 => exact rfl); (case c3 => exact rfl); (case c4 => exact rfl); k_whole; intro _ _ _ _ _ _ _; (try dsimp only); (try k_fold))
  (repeat' ((fail_if_success (with_reducible show wpAny _ _ (exec (Stmt.For _ _ _ _ _) _) _ _ _)); (fail_if_success (with_reducible show wpAny _ _ (exec (Stmt.While _ _ _ _) _) _ _ _)); (fail_if_success (with_reducible show wpAny _ _ (eval (Expr.ListComp _ _ _ _) _) _ _ _)); (fail_if_success (with_reducible show wpAny _ _ (pyIter _) _ _ _)); (fail_if_success (with_reducible show wpAny _ _ (exec (Stmt.Assign _ (Expr.ListComp _ _ _ _) _) _) _ _ _)); (fail_if_success (with_reducible show TurnPost _ _ _ _ _ _ _ _ _)); first | (k_unfold; (try dsimp only)) | walk1 | (dsimp only; walk1)))
  refine wpAny_For ?_
  (repeat' ((fail_if_success (with_reducible show wpAny _ _ (exec (Stmt.For _ _ _ _ _) _) _ _ _)); (fail_if_success (with_reducible show wpAny _ _ (exec (Stmt.While _ _ _ _) _) _ _ _)); (fail_if_success (with_reducible show wpAny _ _ (eval (Expr.ListComp _ _ _ _) _) _ _ _)); (fail_if_success (with_reducible show wpAny _ _ (pyIter _) _ _ _)); (fail_if_success (with_reducible show wpAny _ _ (exec (Stmt.Assign _ (Expr.ListComp _ _ _ _) _) _) _ _ _)); (fail_if_success (with_reducible show TurnPost _ _ _ _ _ _ _ _ _)); first | (k_unfold; (try dsimp only)) | walk1 | (dsimp only; walk1)))
  refine iter_list (fun i m nx g => ∃ (o : Obj) (kvs : List (Str × Value)), nx = [(_, o)] ∧ o.IsDictOf (PySem.strKind PySem.Challenge.rw_il0007_01.row.prog w) kvs ∧ PyProof.V.FlatPairs PyData.str kvs (tabD (tabOf (ps.take i))) ∧ g = s.gens ∧ m (Str.ofString "parsed") = some (.ref _)) ?_ (lift_list (by k_asm) hl) (.inl (list_some hl)) (by k_asm) (by k_asm) ⟨_, _, rfl, by assumption, .nil, rfl, rfl⟩ (fun I => Lets.name) ?_ ?_
  · rfl
  · rintro i v I oI m₁ nx h tk g hge hv hJ hn F₁ N₁ Post hPost
    refine ex2 hJ ?_
    clear hJ
    intro o kvs hx9
    have qe1 := hx9.1
    have hd := hx9.2.1
    have hf := hx9.2.2.1
    have qe2 := hx9.2.2.2.1
    have hp := hx9.2.2.2.2
    clear hx9
    subst qe1
    subst qe2
    refine ex2 (strsAre_get hxs hv) ?_
    intro y u hx9
    have qe1 := hx9.1
    have hy := hx9.2
    clear hx9
    subst qe1
    rw [List.getElem?_map, Option.map_eq_some_iff] at hy
    obtain ⟨⟨k, v⟩, hkv, rfl⟩ := hy
    have hx9 := hsz _ (List.mem_of_getElem? hkv)
    have hyl := hx9.1
    have hk61 := hx9.2.1
    have hv1 := hx9.2.2
    clear hx9
    have hts : tabOf (ps.take (i + 1)) = tabPut (tabOf (ps.take i)) k (unq v) := foldl_take_succ tStep [] ps i (k, v) hkv
    have htl : (tabOf (ps.take i)).length ≤ 1000 := Nat.le_trans (tabOf_len _) (by rw [List.length_take]; omega)
    have hvl : v.length ≤ 100000 := by rw [joinKV, Str.length_append] at hyl; dsimp only at hyl; omega
    have hkl : k.length ≤ 100000 := by rw [joinKV, Str.length_append, Str.length_append] at hyl; dsimp only at hyl; omega
    dsimp only at hk61 hv1
    have hnI := hn_hd hn
    replace F₁ := Fr.see1 F₁ hp
    (repeat' ((fail_if_success (with_reducible show wpAny _ _ (exec (Stmt.For _ _ _ _ _) _) _ _ _)); (fail_if_success (with_reducible show wpAny _ _ (exec (Stmt.While _ _ _ _) _) _ _ _)); (fail_if_success (with_reducible show wpAny _ _ (eval (Expr.ListComp _ _ _ _) _) _ _ _)); (fail_if_success (with_reducible show wpAny _ _ (pyIter _) _ _ _)); (fail_if_success (with_reducible show wpAny _ _ (exec (Stmt.Assign _ (Expr.ListComp _ _ _ _) _) _) _ _ _)); (fail_if_success (with_reducible show TurnPost _ _ _ _ _ _ _ _ _)); first | (k_unfold; (try dsimp only)) | walk1 | (dsimp only; walk1)))
    rename_i e9 _ _ _ _ _
    rw [lit_eq, joinKV, splitMax_kv _ _ hk61] at e9
    obtain ⟨t8, t9, rfl⟩ := two_of_map e9
    simp only [strValues, List.map_cons, List.map_nil]
    (repeat' ((fail_if_success (with_reducible show wpAny _ _ (exec (Stmt.For _ _ _ _ _) _) _ _ _)); (fail_if_success (with_reducible show wpAny _ _ (exec (Stmt.While _ _ _ _) _) _ _ _)); (fail_if_success (with_reducible show wpAny _ _ (eval (Expr.ListComp _ _ _ _) _) _ _ _)); (fail_if_success (with_reducible show wpAny _ _ (pyIter _) _ _ _)); (fail_if_success (with_reducible show wpAny _ _ (exec (Stmt.Assign _ (Expr.ListComp _ _ _ _) _) _) _ _ _)); (fail_if_success (with_reducible show TurnPost _ _ _ _ _ _ _ _ _)); first | (k_unfold; (try dsimp only)) | walk1 | (dsimp only; walk1)))
    all_goals (
      with_reducible rename Fr _ _ _ _ => F9
      with_reducible rename News _ _ _ _ => N9
      have N8 : News s.heap _ _ [(I, oI), (_, o)] := fun p hp => N9 p (List.mem_cons_of_mem _ hp)
      refine setItem_K PyProof.V.same_str (strKind_is _ _ _ _) (PyProof.V.Flat.str _ _) F9 N8 (.tail (Ne.symm hnI) (.head (fun _ hp => nomatch hp))) hd hf (fun h' o' F7 N7 hd' hf' => ?_) ?_
      · rw [tabD_put] at hf'
        (repeat' ((fail_if_success (with_reducible show wpAny _ _ (exec (Stmt.For _ _ _ _ _) _) _ _ _)); (fail_if_success (with_reducible show wpAny _ _ (exec (Stmt.While _ _ _ _) _) _ _ _)); (fail_if_success (with_reducible show wpAny _ _ (eval (Expr.ListComp _ _ _ _) _) _ _ _)); (fail_if_success (with_reducible show wpAny _ _ (pyIter _) _ _ _)); (fail_if_success (with_reducible show wpAny _ _ (exec (Stmt.Assign _ (Expr.ListComp _ _ _ _) _) _) _ _ _)); (fail_if_success (with_reducible show TurnPost _ _ _ _ _ _ _ _ _)); first | (k_unfold; (try dsimp only)) | walk1 | (dsimp only; walk1)))
        all_goals (refine hPost _ _ ?_; simp only [TurnPost])
        all_goals (refine TurnEnd.intro _ (by assumption) N7 (one_ne hnI) ⟨_, _, rfl, hd', ?_, rfl, rfl⟩)
        all_goals rw [hts]
        all_goals first
          | (rw [unq_two (by assumption) (by assumption)]; exact hf')
          | (rw [unq_one (by assumption)]; exact hf')
          | (rw [unq_none (by assumption)]; exact hf')
      · unfold tabD; rw [List.length_map, sizeLine_eq]; omega)
  · intro m₁ nx h tk g hge hJ F₁ N₁
    refine ex2 hJ ?_
    clear hJ
    intro o kvs hx9
    have qe1 := hx9.1
    have hd := hx9.2.1
    have hf := hx9.2.2.1
    have qe2 := hx9.2.2.2.1
    have hp := hx9.2.2.2.2
    clear hx9
    subst qe1
    subst qe2
    replace F₁ := Fr.see1 F₁ hp
    rw [List.take_of_length_le (by rw [strsAre_length hxs, List.length_map]; exact Nat.le_refl _)] at hf
    (repeat' ((fail_if_success (with_reducible show wpAny _ _ (exec (Stmt.For _ _ _ _ _) _) _ _ _)); (fail_if_success (with_reducible show wpAny _ _ (exec (Stmt.While _ _ _ _) _) _ _ _)); (fail_if_success (with_reducible show wpAny _ _ (eval (Expr.ListComp _ _ _ _) _) _ _ _)); (fail_if_success (with_reducible show wpAny _ _ (pyIter _) _ _ _)); (fail_if_success (with_reducible show wpAny _ _ (exec (Stmt.Assign _ (Expr.ListComp _ _ _ _) _) _) _ _ _)); (fail_if_success (with_reducible show TurnPost _ _ _ _ _ _ _ _ _)); first | (k_unfold; (try dsimp only)) | walk1 | (dsimp only; walk1)))
    refine Fin.intro (hret _ _ _ F₁.keep ⟨_, o, rfl, News.get N₁ (.head _), News.fresh N₁ (.head _), by assumption, _, Heap.dictOf_iff.mpr ⟨o, News.get N₁ (.head _), hd⟩, hf⟩)
end
section
theorem lit_bsbs : Str.ofString "\\\\" = ⟨#[92, 92]⟩ := by decide +kernel
theorem lit_bsq : Str.ofString "\\\"" = ⟨#[92, 34]⟩ := by decide +kernel
noncomputable def held (w : Str) : Str := Txt.replace (Txt.replace w (Str.ofString "\\") (Str.ofString "\\\\")) (Str.ofString "\"") (Str.ofString "\\\"")
theorem held_len1 (w : Str) (h : w.length ≤ 1) : (Txt.replace w (Str.ofString "\\") (Str.ofString "\\\\")).length ≤ 2 := by
  rw [lit_bs, lit_bsbs]
  have := replace_len w ⟨#[92, 92]⟩ 92 2 (Nat.le_refl _) (by decide)
  omega
theorem held_len (w : Str) (h : w.length ≤ 1) : (held w).length ≤ 4 := by
  have h1 := held_len1 w h
  unfold held
  generalize Txt.replace w (Str.ofString "\\") (Str.ofString "\\\\") = x at *
  rw [lit_q, lit_bsq]
  have := replace_len x ⟨#[92, 34]⟩ 34 2 (Nat.le_refl _) (by decide)
  omega
noncomputable def valOf (w : Str) : Str := if w = Str.ofString "\\" then w else Str.ofString "\"" ++ held w ++ Str.ofString "\""
noncomputable def itemOf (places : List Str) (t : Tell) : Str := places.getD t.1.toNat Str.empty ++ Txt.mul (Str.ofString "/") t.2.1 ++ Str.ofString "=" ++ valOf t.2.2
noncomputable def headerOf (places : List Str) (told : List Tell) : Str := Txt.join (Str.ofString ", ") (told.map (itemOf places))
theorem mul_len (n : Int) (h0 : 0 ≤ n) (h1 : n ≤ 1) : (Txt.mul (Str.ofString "/") n).length ≤ 1 := by
  have : n = 0 ∨ n = 1 := by omega
  rcases this with rfl | rfl <;> decide +kernel
theorem itemOf_len (places : List Str) (hpsz : ∀ x ∈ places, x.length ≤ 1000) (t : Tell) (hs : 0 ≤ t.2.1 ∧ t.2.1 ≤ 1) (hw : t.2.2.length ≤ 1) : (itemOf places t).length ≤ 1010 := by
  have hpd : (places.getD t.1.toNat Str.empty).length ≤ 1000 := by
    rw [List.getD_eq_getElem?_getD]
    rcases h9 : places[t.1.toNat]? with _ | x
    · exact Nat.zero_le _
    · exact hpsz x (List.mem_of_getElem? h9)
  have hle : (Str.ofString "=").length = 1 := by decide +kernel
  have hlq : (Str.ofString "\"").length = 1 := by decide +kernel
  have hm := mul_len t.2.1 hs.1 hs.2
  have hh := held_len t.2.2 hw
  unfold itemOf valOf
  split
  · simp only [Str.length_append]; omega
  · simp only [Str.length_append]; omega
theorem item_bs {places : List Str} {node slash : Int} {word : Str} (h : (word == Str.ofString "\\") = true) : itemOf places (node, slash, word) = places.getD node.toNat Str.empty ++ Txt.mul (Str.ofString "/") slash ++ Str.ofString "=" ++ word := by
  unfold itemOf valOf; rw [if_pos (beq_iff_eq.mp h)]
theorem item_q {places : List Str} {node slash : Int} {word : Str} (h : (word == Str.ofString "\\") = false) : itemOf places (node, slash, word) = places.getD node.toNat Str.empty ++ Txt.mul (Str.ofString "/") slash ++ Str.ofString "=" ++ (Str.ofString "\"" ++ held word ++ Str.ofString "\"") := by
  unfold itemOf valOf; rw [if_neg (beq_eq_false_iff_ne.mp h)]
set_option maxRecDepth 100000 in
set_option maxHeartbeats 1000000 in
theorem header_call (w : World) (pl tl : Addr) (pvs tvs : List Value) (places : List Str) (told : List Tell) (hp : StrsAre pvs places) (hpl : places.length ≤ 100) (htl : told.length ≤ 100) (hpsz : ∀ x ∈ places, x.length ≤ 1000)
    (hok : ∀ t ∈ told, (0 ≤ t.1 ∧ t.1 < (places.length : Int)) ∧ (0 ≤ t.2.1 ∧ t.2.1 ≤ 1) ∧ t.2.2.length ≤ 1) :
    Spec w 125 [.ref pl, .ref tl] 3 16 (fun h => h.IsList pl pvs.toArray ∧ h.IsList tl tvs.toArray ∧ ToldAll h tvs told) (fun h h' r => ∃ t, r = .str (headerOf places told) t) := by
  unfold Spec
  k_fill
  intro mean mg mb dp un gd cn cs a ccd cl outer A₀ base h₀ L m s Q B F X T hk hdp hun hpre9 hret
  have hPl := hpre9.1
  have hTl := hpre9.2.1
  have hT := hpre9.2.2
  clear hpre9
  (refine' enterH ?k1 ?k2 ?k3 ?k5 ?kA ?kF ?kK ?k6 ?k7 ?k8 ?k9 ?kB ?_ ?c2 ?c3 ?c4 ?c5; (case kA => exact rfl); (case kF => exact rfl); (case kK => assumption); (case k1 => k_asm); (case k2 => k_asm); (case k3 => k_asm); (case k5 => k_asm); (case k6 => k_is); (case k7 => k_is); (case k8 => ktr_room); (case k9 => exact BindsTo.of_eq rfl); (case c5 => decide); (case kB => exact locs rfl); (case c2 => exact rfl); (case c3 => exact rfl); (case c4 => exact rfl); k_whole; intro _ _ _ _ _ _ _; (try dsimp only); (try k_fold))
  (repeat' ((fail_if_success (with_reducible show wpAny _ _ (exec (Stmt.For _ _ _ _ _) _) _ _ _)); (fail_if_success (with_reducible show wpAny _ _ (exec (Stmt.While _ _ _ _) _) _ _ _)); (fail_if_success (with_reducible show wpAny _ _ (eval (Expr.ListComp _ _ _ _) _) _ _ _)); (fail_if_success (with_reducible show wpAny _ _ (pyIter _) _ _ _)); (fail_if_success (with_reducible show wpAny _ _ (exec (Stmt.Assign _ (Expr.ListComp _ _ _ _) _) _) _ _ _)); (fail_if_success (with_reducible show TurnPost _ _ _ _ _ _ _ _ _)); first | (k_unfold; (try dsimp only)) | walk1 | (dsimp only; walk1)))
  refine wpAny_For ?_
  (repeat' ((fail_if_success (with_reducible show wpAny _ _ (exec (Stmt.For _ _ _ _ _) _) _ _ _)); (fail_if_success (with_reducible show wpAny _ _ (exec (Stmt.While _ _ _ _) _) _ _ _)); (fail_if_success (with_reducible show wpAny _ _ (eval (Expr.ListComp _ _ _ _) _) _ _ _)); (fail_if_success (with_reducible show wpAny _ _ (pyIter _) _ _ _)); (fail_if_success (with_reducible show wpAny _ _ (exec (Stmt.Assign _ (Expr.ListComp _ _ _ _) _) _) _ _ _)); (fail_if_success (with_reducible show TurnPost _ _ _ _ _ _ _ _ _)); first | (k_unfold; (try dsimp only)) | walk1 | (dsimp only; walk1)))
  refine iter_list (fun i m nx g => ∃ (ar : Array Value) (nn : Nat), nx = [(_, W.listOf ar nn)] ∧ StrsAre ar.toList ((told.take i).map (itemOf places)) ∧ g = s.gens ∧ m (Str.ofString "items") = some (.ref _) ∧ m (Str.ofString "places") = some (.ref pl)) ?_ (lift_list (by k_asm) hTl) (.inl (list_some hTl)) (by k_asm) (by k_asm) ⟨#[], 0, rfl, StrsAre.nil, rfl, rfl, rfl⟩ (fun I => Lets.tuple fun i v hv => by obtain ⟨t, _, a, _, _, _, e, _⟩ := hT.2 i v hv; exact ⟨a, e⟩) ?_ ?_
  · rfl
  · rintro i v I oI m₁ nx h tk g hge hv hJ hn F₁ N₁ Post hPost
    refine ex2 hJ ?_
    clear hJ
    intro ar nn hx9
    have qe1 := hx9.1
    have hvs := hx9.2.1
    have qe2 := hx9.2.2.1
    have hi := hx9.2.2.2.1
    have hq := hx9.2.2.2.2
    clear hx9
    subst qe1
    subst qe2
    refine ex1 (hT.2 i v hv) ?_
    intro t9 hx9
    obtain ⟨node, slash, word⟩ := t9
    have htold := hx9.1
    refine ex4 hx9.2 ?_
    clear hx9
    intro a n1 n2 n3 hx9
    have qe1 := hx9.1
    have hTup := hx9.2
    clear hx9
    subst qe1
    have hx9 := hok _ (List.mem_of_getElem? htold)
    have hn0 := hx9.1.1
    have hn1 := hx9.1.2
    have hs0 := hx9.2.1.1
    have hs1 := hx9.2.1.2
    have hwl := hx9.2.2
    clear hx9
    dsimp only at hn0 hn1 hs0 hs1 hwl hTup
    have hnI := hn_hd hn
    replace F₁ := Fr.see2 F₁ hi hq
    have htk0 : 0 < tk := by dsimp only at hge; omega
    have hh1 := held_len1 word hwl
    have hh2 : (held word).length ≤ 4 := held_len word hwl
    unfold held at hh2
    have hpd : (places.getD node.toNat Str.empty).length ≤ 1000 := by
      rw [List.getD_eq_getElem?_getD]
      rcases h9 : places[node.toNat]? with _ | x
      · exact Nat.zero_le _
      · exact hpsz x (List.mem_of_getElem? h9)
    have hle : (Str.ofString "=").length = 1 := by decide +kernel
    have hlq : (Str.ofString "\"").length = 1 := by decide +kernel
    have hal := strsAre_length hvs
    rw [Array.length_toList, List.length_map, List.length_take] at hal
    have hta := take_succ_map (itemOf places) told i _ htold
    (repeat' ((fail_if_success (with_reducible show wpAny _ _ (exec (Stmt.For _ _ _ _ _) _) _ _ _)); (fail_if_success (with_reducible show wpAny _ _ (exec (Stmt.While _ _ _ _) _) _ _ _)); (fail_if_success (with_reducible show wpAny _ _ (eval (Expr.ListComp _ _ _ _) _) _ _ _)); (fail_if_success (with_reducible show wpAny _ _ (pyIter _) _ _ _)); (fail_if_success (with_reducible show wpAny _ _ (exec (Stmt.Assign _ (Expr.ListComp _ _ _ _) _) _) _ _ _)); (fail_if_success (with_reducible show TurnPost _ _ _ _ _ _ _ _ _)); first | (k_unfold; (try dsimp only)) | walk1 | (dsimp only; walk1)))
    all_goals (refine hPost _ _ ?_; simp only [TurnPost])
    all_goals (refine TurnEnd.intro _ (by assumption) (by assumption) (one_ne hnI) ⟨_, _, rfl, ?_, rfl, rfl, rfl⟩)
    all_goals rw [hta]
    · rw [item_bs (by assumption)]
      exact strsAre_snoc (by assumption)
    · rw [item_q (by assumption)]
      exact strsAre_snoc (by assumption)
  · intro m₁ nx h tk g hge hJ F₁ N₁
    refine ex2 hJ ?_
    clear hJ
    intro ar nn hx9
    have qe1 := hx9.1
    have hvs := hx9.2.1
    have qe2 := hx9.2.2.1
    have hi := hx9.2.2.2.1
    have hq := hx9.2.2.2.2
    clear hx9
    subst qe1
    subst qe2
    replace F₁ := Fr.see2 F₁ hi hq
    rw [List.take_of_length_le (by rw [hT.1]; exact Nat.le_refl _)] at hvs
    (repeat' ((fail_if_success (with_reducible show wpAny _ _ (exec (Stmt.For _ _ _ _ _) _) _ _ _)); (fail_if_success (with_reducible show wpAny _ _ (exec (Stmt.While _ _ _ _) _) _ _ _)); (fail_if_success (with_reducible show wpAny _ _ (eval (Expr.ListComp _ _ _ _) _) _ _ _)); (fail_if_success (with_reducible show wpAny _ _ (pyIter _) _ _ _)); (fail_if_success (with_reducible show wpAny _ _ (exec (Stmt.Assign _ (Expr.ListComp _ _ _ _) _) _) _ _ _)); (fail_if_success (with_reducible show TurnPost _ _ _ _ _ _ _ _ _)); first | (k_unfold; (try dsimp only)) | walk1 | (dsimp only; walk1)))
    have hitems : ∀ y ∈ told.map (itemOf places), y.length ≤ 1010 := fun y hy => by
      obtain ⟨t, ht, rfl⟩ := List.mem_map.mp hy
      exact itemOf_len places hpsz t (hok t ht).2.1 (hok t ht).2.2
    refine join_list (isListA (News.get N₁ (.head _))) hvs ?_ (fun t' k => ?_)
    · have h1 := StrLaws.sumLen_le (B := 1010) _ hitems
      have h2 : (Str.ofString ", ").length = 2 := by decide +kernel
      rw [h2]
      rw [List.length_map] at *
      have h3 : told.length * 1010 ≤ 100 * 1010 := Nat.mul_le_mul_right _ htl
      omega
    · (repeat' ((fail_if_success (with_reducible show wpAny _ _ (exec (Stmt.For _ _ _ _ _) _) _ _ _)); (fail_if_success (with_reducible show wpAny _ _ (exec (Stmt.While _ _ _ _) _) _ _ _)); (fail_if_success (with_reducible show wpAny _ _ (eval (Expr.ListComp _ _ _ _) _) _ _ _)); (fail_if_success (with_reducible show wpAny _ _ (pyIter _) _ _ _)); (fail_if_success (with_reducible show wpAny _ _ (exec (Stmt.Assign _ (Expr.ListComp _ _ _ _) _) _) _ _ _)); (fail_if_success (with_reducible show TurnPost _ _ _ _ _ _ _ _ _)); first | (k_unfold; (try dsimp only)) | walk1 | (dsimp only; walk1)))
      exact Fin.intro (hret _ _ _ F₁.keep ⟨_, rfl⟩)
end
section
noncomputable def ToldInAll (led : Led) (vs : List Value) (ts : List Tell) : Prop := vs.length = ts.length ∧ ∀ (i : Nat) v, vs[i]? = some v → ∃ t, ts[i]? = some t ∧ ToldIn led v t
theorem ToldInAll.snoc {led : Led} {vs : Array Value} {ts : List Tell} {a : Addr} {x : Int} {y : Int} {z : Str} {n1 n2 n3 n : Nat} (h : ToldInAll led vs.toList ts) :
    ToldInAll ((a, ({ cls := .type "tuple", data := .seq #[.int x n1, .int y n2, .str z n3] n } : Obj)) :: led) (vs.push (.ref a)).toList (ts ++ [(x, y, z)]) := by
  rw [Array.toList_push]
  exact AllIn.snoc (R := ToldIn) (fun v t ⟨a', m1, m2, m3, m, e, hm⟩ => ⟨a', m1, m2, m3, m, e, .tail _ hm⟩) h ⟨a, n1, n2, n3, n, rfl, .head _⟩
structure GSt where
  above : List Int
  places : List Str
  told : List Tell
noncomputable def gNode (g : GSt) (x : Int) : Int := (x.fdiv 3).fmod (g.places.length : Int)
noncomputable def gRest (g : GSt) (x : Int) : Int := (x.fdiv 3).fdiv (g.places.length : Int)
noncomputable def gSign (r : Int) : Str := ⟨#[((r.fdiv 8).fmod 55296).toNat]⟩
noncomputable def gWord1 (r : Int) : Str := [Str.ofString "", Str.ofString "\\", Str.ofString "\"", gSign r].getD ((r.fdiv 2).fmod 4).toNat Str.empty
noncomputable def gGood (c : Str) : Bool := (Builtin.Str.occurrences (Str.ofString "/=,\"") c 0 (Str.ofString "/=,\"").length 1).isEmpty
noncomputable def gWord2 (r : Int) : Str := (if gGood (gSign r) = true then [Str.ofString "a", Str.ofString "ab", Str.ofString "b", gSign r] else [Str.ofString "a", Str.ofString "ab", Str.ofString "b", Str.ofString "."]).getD ((r.fdiv 2).fmod 4).toNat Str.empty
noncomputable def gPlace (g : GSt) (x : Int) : Str := g.places.getD (gNode g x).toNat Str.empty ++ Txt.mul (Str.ofString "/") (1 + (gRest g x).fmod 2) ++ gWord2 (gRest g x)
noncomputable def gStep (g : GSt) (x : Int) : GSt :=
  if x.fmod 3 = 2 then { g with told := g.told ++ [(gNode g x, (gRest g x).fmod 2, gWord1 (gRest g x))] }
  else if (g.places.any fun y => y == gPlace g x) = true then g
  else { g with above := g.above ++ [gNode g x], places := g.places ++ [gPlace g x] }
noncomputable def gInit : GSt := ⟨[0, 1], [Str.ofString "h", Str.ofString "g"], []⟩
noncomputable def grown (xs : List Int) : GSt := xs.foldl gStep gInit
theorem menu_two {a b c d : Str} (ha : a.length ≤ 2) (hb : b.length ≤ 2) (hc : c.length ≤ 2) (hd : d.length ≤ 2) : ∀ y ∈ [a, b, c, d], y.length ≤ 2 := by
  intro y hy
  simp only [List.mem_cons, List.not_mem_nil, or_false] at hy
  rcases hy with rfl | rfl | rfl | rfl <;> assumption
theorem getD_le {ws : List Str} {n : Nat} (h : ∀ y ∈ ws, y.length ≤ n) (k : Nat) : (ws.getD k Str.empty).length ≤ n := by
  rw [List.getD_eq_getElem?_getD]
  rcases h9 : ws[k]? with _ | x
  · exact Nat.zero_le _
  · exact h x (List.mem_of_getElem? h9)
theorem gWord2_len (r : Int) : (gWord2 r).length ≤ 2 := by
  unfold gWord2
  split
  · exact getD_le (menu_two (by decide +kernel) (by decide +kernel) (by decide +kernel) (Nat.le_of_ble_eq_true rfl)) _
  · exact getD_le (menu_two (by decide +kernel) (by decide +kernel) (by decide +kernel) (by decide +kernel)) _
theorem mul_len2 (n : Int) : (Txt.mul (Str.ofString "/") (1 + n.fmod 2)).length ≤ 2 := by
  have h0 : 0 ≤ n.fmod 2 := fmod_lo _ (by decide)
  have h1 : n.fmod 2 < 2 := fmod_hi _ (by decide)
  generalize n.fmod 2 = k at *
  have : k = 0 ∨ k = 1 := by omega
  rcases this with rfl | rfl <;> decide +kernel
noncomputable def gOk (n : Nat) (g : GSt) : Prop := g.told.length ≤ n ∧ g.above.length = g.places.length ∧ g.places.length ≤ 2 + n ∧ 2 ≤ g.places.length ∧ ∀ x ∈ g.places, x.length ≤ 1 + 4 * n
theorem gOk_step {n : Nat} {g : GSt} (x : Int) (h : gOk n g) : gOk (n + 1) (gStep g x) := by
  obtain ⟨h1, h2, h3, h4, h5⟩ := h
  have h6 := gWord2_len (gRest g x)
  have h7 := mul_len2 (gRest g x)
  have h8 := getD_le h5 (gNode g x).toNat
  have hw : ∀ x ∈ g.places, x.length ≤ 1 + 4 * (n + 1) := fun x hx => Nat.le_trans (h5 x hx) (Nat.add_le_add_left (Nat.mul_le_mul_left 4 (Nat.le_succ n)) 1)
  have h9 : (gPlace g x).length ≤ 1 + 4 * (n + 1) := by
    unfold gPlace
    simp only [Str.length_append]
    omega
  unfold gStep
  split
  · refine ⟨?_, h2, Nat.le_succ_of_le h3, h4, hw⟩
    show (g.told ++ [_]).length ≤ n + 1
    rw [List.length_append, List.length_singleton]; exact Nat.succ_le_succ h1
  · split
    · exact ⟨Nat.le_succ_of_le h1, h2, Nat.le_succ_of_le h3, h4, hw⟩
    · refine ⟨?_, ?_, ?_, ?_, fun y hy => ?_⟩
      · exact Nat.le_succ_of_le h1
      · show (g.above ++ [_]).length = (g.places ++ [_]).length
        rw [List.length_append, List.length_append, h2, List.length_singleton, List.length_singleton]
      · show (g.places ++ [_]).length ≤ 2 + (n + 1)
        rw [List.length_append, List.length_singleton]; exact Nat.succ_le_succ h3
      · show 2 ≤ (g.places ++ [_]).length
        rw [List.length_append]; exact Nat.le_trans h4 (Nat.le_add_right _ _)
      · rcases List.mem_append.mp hy with hy | hy
        · exact hw y hy
        · rw [List.mem_singleton.mp hy]; exact h9
theorem gOk_fold (l : List Int) : gOk l.length (grown l) := by
  suffices h : ∀ (l : List Int) n g, gOk n g → gOk (n + l.length) (l.foldl gStep g) by
    have := h l 0 gInit ⟨by decide, by decide, by decide, by decide, by decide +kernel⟩
    rwa [Nat.zero_add] at this
  intro l
  induction l with
  | nil => intro n g h; exact h
  | cons c r ih =>
    intro n g h
    have := ih (n + 1) _ (gOk_step c h)
    rw [List.length_cons, List.foldl_cons]
    rwa [show n + (r.length + 1) = n + 1 + r.length by omega]
section
variable {prog : Program} {w : World} {A : Around} {E : Value → Shared → Prop} {s : Shared} {h₀ : Heap} {L : Addr} {news : Led}
theorem told_end {h : Heap} {D l' I T8 P8 A8 : Addr} {o oI oT oP oA ol : Obj} {tups : Led} (N : News h₀ L h ((D, o) :: (l', ol) :: (I, oI) :: (T8, oT) :: (P8, oP) :: (A8, oA) :: tups)) : News h₀ L h ((I, oI) :: (T8, oT) :: (P8, oP) :: (A8, oA) :: (D, o) :: tups) := all_put (N _ (.tail _ (.tail _ (.head _)))) (all_put (N _ (.tail _ (.tail _ (.tail _ (.head _))))) (all_put (N _ (.tail _ (.tail _ (.tail _ (.tail _ (.head _)))))) (all_put (N _ (.tail _ (.tail _ (.tail _ (.tail _ (.tail _ (.head _))))))) (all_put (N _ (.head _)) (fun p hp => N p (.tail _ (.tail _ (.tail _ (.tail _ (.tail _ (.tail _ (hp))))))))))))
theorem news_tl {h : Heap} {p : Addr × Obj} {l : Led} (N : News h₀ L h (p :: l)) : News h₀ L h l := fun q hq => N q (.tail _ hq)
theorem fin_made {h : Heap} {D T8 P8 A8 : Addr} {o oT oP oA : Obj} {tups : Led} (N : News h₀ L h ((D, o) :: (T8, oT) :: (P8, oP) :: (A8, oA) :: tups)) : Made h₀ h ((D, o) :: (A8, oA) :: (P8, oP) :: (T8, oT) :: tups) := fun p hp =>
  have q := (all_put (N _ (.head _)) (all_put (N _ (.tail _ (.tail _ (.tail _ (.head _))))) (all_put (N _ (.tail _ (.tail _ (.head _)))) (all_put (N _ (.tail _ (.head _))) (fun p hp => N p (.tail _ (.tail _ (.tail _ (.tail _ (hp))))))))) : News h₀ L h _) p hp
  ⟨q.1, q.2.2⟩
theorem sub_strs {value slice : PySem.Expr} {l : Addr} {ar : Array Value} {n : Nat} {ws : List Str} {k : Int} {u : Tok} {Q : Value → Shared → Prop} (N : News h₀ L s.heap news) (hm : (l, W.listOf ar n) ∈ news) (hs : StrsAre ar.toList ws) (h0 : 0 ≤ k) (hk : k < (ws.length : Int)) (hb : ws.length ≤ 1000) (hB : ∀ y ∈ ws, y.length ≤ 2)
    (h : ∀ t, (ws.getD k.toNat Str.empty).length ≤ 2 → Q (.str (ws.getD k.toNat Str.empty) t) s)
    (hsub : subscripted slice false (.ref l) (.int k u) = operate [.ref l, .int k u] (getItem (.ref l) (.int k u)) := by with_unfolding_all rfl) :
    wpAny (model prog w) A (subscriptTail value slice (.ref l) (.int k u)) Q E s := by
  have hl := isListA (News.get N hm)
  have hlt : k.toNat < ar.toList.length := by rw [strsAre_length hs]; omega
  obtain ⟨y, t, e1, e2⟩ := strsAre_get hs (List.getElem?_eq_getElem hlt)
  have hx : ar[k.toNat]? = some (.str y t) := by rw [← Array.getElem?_toList, List.getElem?_eq_getElem hlt, e1]
  refine tail_any hl.typeIs slot_list_getitem.lookup (wpAny_getItem_list hl h0 (by omega) hx ?_) hsub
  have := h t
  rw [List.getD_eq_getElem?_getD, e2] at this
  exact this (hB y (List.mem_of_getElem? e2))
end
local macro_rules | `(tactic| walk_at "subscriptTail") => `(tactic| (k_here; k_dflt (refine sub_strs (by k_asm) (by k_mem) (.cons _ _ (.cons _ _ (.cons _ _ (.cons _ _ .nil)))) (fmod_lo _ (by decide)) (fmod_hi _ (by decide)) (Nat.le_of_ble_eq_true rfl) (menu_two (Nat.le_of_ble_eq_true rfl) (Nat.le_of_ble_eq_true rfl) (Nat.le_of_ble_eq_true rfl) (Nat.le_of_ble_eq_true rfl)) ?_); intro tS hS))
local macro_rules | `(tactic| walk_at "compareOp NotIn str ref") => `(tactic| (k_here; k_dflt (refine notin_list_strs (isList_of (News.get (by k_asm) (by k_mem))) (by assumption) ?_)))
noncomputable def gPut (g : GSt) (x : Int) (w : Str) : Str := g.places.getD (gNode g x).toNat Str.empty ++ Txt.mul (Str.ofString "/") (1 + (gRest g x).fmod 2) ++ w
noncomputable def gMenu (r : Int) (z : Str) : Str := [Str.ofString "a", Str.ofString "ab", Str.ofString "b", z].getD ((r.fdiv 2).fmod 4).toNat Str.empty
theorem gP_good {g : GSt} {x : Int} (ho : gGood (gSign (gRest g x)) = true) : gPlace g x = gPut g x (gMenu (gRest g x) (gSign (gRest g x))) := by
  unfold gPlace gPut gWord2 gMenu; rw [if_pos ho]
theorem gP_bad {g : GSt} {x : Int} (ho : gGood (gSign (gRest g x)) = false) : gPlace g x = gPut g x (gMenu (gRest g x) (Str.ofString ".")) := by
  unfold gPlace gPut gWord2 gMenu; rw [if_neg (by rw [ho]; exact Bool.false_ne_true)]
theorem gS_told {above : List Int} {places : List Str} {told : List Tell} {x : Int} (hc : x.fmod 3 = 2) : gStep ⟨above, places, told⟩ x = ⟨above, places, told ++ [(gNode ⟨above, places, told⟩ x, (gRest ⟨above, places, told⟩ x).fmod 2, gWord1 (gRest ⟨above, places, told⟩ x))]⟩ := if_pos hc
theorem gS_dup {g : GSt} {x : Int} {z : Str} (hc : x.fmod 3 ≠ 2) (hz : gPlace g x = z) (ha : (g.places.any fun y => y == z) = true) : gStep g x = g := by
  unfold gStep; rw [if_neg hc, hz, if_pos ha]
theorem gS_new {above : List Int} {places : List Str} {told : List Tell} {x : Int} {z : Str} (hc : x.fmod 3 ≠ 2) (hz : gPlace ⟨above, places, told⟩ x = z) (ha : (places.any fun y => y == z) = false) : gStep ⟨above, places, told⟩ x = ⟨above ++ [gNode ⟨above, places, told⟩ x], places ++ [z], told⟩ := by
  unfold gStep; rw [if_neg hc, hz, if_neg (by rw [ha]; exact Bool.false_ne_true)]
noncomputable abbrev grownJ (gs : Array GenState) (A8 P8 T8 : Addr) (st : GSt) (m : Str → Option Value) (nx : Led) (g : Array GenState) : Prop := ∃ (aar par tar : Array Value) (an pn tn : Nat) (tups : Led), nx = (T8, W.listOf tar tn) :: (P8, W.listOf par pn) :: (A8, W.listOf aar an) :: tups ∧ OwnOff tups [T8, P8, A8] ∧
     IntsAre aar.toList st.above ∧ StrsAre par.toList st.places ∧ ToldInAll tups tar.toList st.told ∧ g = gs ∧ m (Str.ofString "above") = some (.ref A8) ∧ m (Str.ofString "places") = some (.ref P8) ∧ m (Str.ofString "told") = some (.ref T8)
theorem grownJ.opened {gs : Array GenState} {A8 P8 T8 : Addr} {st : GSt} {m : Str → Option Value} {nx : Led} {g : Array GenState} {G : Prop} (h : grownJ gs A8 P8 T8 st m nx g)
    (k : ∀ above places told aar par tar an pn tn tups, st = ⟨above, places, told⟩ → nx = (T8, W.listOf tar tn) :: (P8, W.listOf par pn) :: (A8, W.listOf aar an) :: tups → OwnOff tups [T8, P8, A8] → IntsAre aar.toList above → StrsAre par.toList places → ToldInAll tups tar.toList told → g = gs →
      m (Str.ofString "above") = some (.ref A8) → m (Str.ofString "places") = some (.ref P8) → m (Str.ofString "told") = some (.ref T8) → G) : G := by
  obtain ⟨aar, par, tar, an, pn, tn, tups, h1, h2, h3, h4, h5, h6, h7, h8, h9⟩ := h
  exact k st.above st.places st.told aar par tar an pn tn tups rfl h1 h2 h3 h4 h5 h6 h7 h8 h9
set_option maxRecDepth 100000 in
set_option maxHeartbeats 1000000 in
theorem grown_call (w : World) (l : Addr) (vs : List Value) (xs : List Int) (hxs : IntsAre vs xs) (hlen : xs.length ≤ 13) :
    Spec w 118 [.ref l] 3 16 (fun h => h.IsList l vs.toArray) (fun h h' r => ∃ d A P T aar par tar an pn tn dn tups, r = .ref d ∧
      Made h h' ((d, ({ cls := .type "tuple", data := .seq #[.ref A, .ref P, .ref T] dn } : Obj)) :: (A, W.listOf aar an) :: (P, W.listOf par pn) :: (T, W.listOf tar tn) :: tups) ∧
      IntsAre aar.toList (grown xs).above ∧ StrsAre par.toList (grown xs).places ∧ ToldInAll tups tar.toList (grown xs).told) := by
  unfold Spec
  k_fill
  intro mean mg mb dp un gd cn cs a ccd cl outer A₀ base h₀ L m s Q B F X T hk hdp hun hl hret
  (refine' enterH ?k1 ?k2 ?k3 ?k5 ?kA ?kF ?kK ?k6 ?k7 ?k8 ?k9 ?kB ?_ ?c2 ?c3 ?c4 ?c5; (case kA => exact rfl); (case kF => exact rfl); (case kK => assumption); (case k1 => k_asm); (case k2 => k_asm); (case k3 => k_asm); (case k5 => k_asm); (case k6 => k_is); (case k7 => k_is); (case k8 => ktr_room); (case k9 => exact BindsTo.of_eq rfl); (case c5 => decide); (case kB => exact locs rfl); (case c2 => exact rfl); (case c3 => exact rfl); (case c4 => exact rfl); k_whole; intro _ _ _ _ _ _ _; (try dsimp only); (try k_fold))
  (repeat' ((fail_if_success (with_reducible show wpAny _ _ (exec (Stmt.For _ _ _ _ _) _) _ _ _)); (fail_if_success (with_reducible show wpAny _ _ (exec (Stmt.While _ _ _ _) _) _ _ _)); (fail_if_success (with_reducible show wpAny _ _ (eval (Expr.ListComp _ _ _ _) _) _ _ _)); (fail_if_success (with_reducible show wpAny _ _ (pyIter _) _ _ _)); (fail_if_success (with_reducible show wpAny _ _ (exec (Stmt.Assign _ (Expr.ListComp _ _ _ _) _) _) _ _ _)); (fail_if_success (with_reducible show TurnPost _ _ _ _ _ _ _ _ _)); first | (k_unfold; (try dsimp only)) | walk1 | (dsimp only; walk1)))
  refine wpAny_For ?_
  (repeat' ((fail_if_success (with_reducible show wpAny _ _ (exec (Stmt.For _ _ _ _ _) _) _ _ _)); (fail_if_success (with_reducible show wpAny _ _ (exec (Stmt.While _ _ _ _) _) _ _ _)); (fail_if_success (with_reducible show wpAny _ _ (eval (Expr.ListComp _ _ _ _) _) _ _ _)); (fail_if_success (with_reducible show wpAny _ _ (pyIter _) _ _ _)); (fail_if_success (with_reducible show wpAny _ _ (exec (Stmt.Assign _ (Expr.ListComp _ _ _ _) _) _) _ _ _)); (fail_if_success (with_reducible show TurnPost _ _ _ _ _ _ _ _ _)); first | (k_unfold; (try dsimp only)) | walk1 | (dsimp only; walk1)))
  rename_i A8 _ _ P8 _ _ T8 _ _ D8 _ hlt8 _ _ _ _ F8 N8 tk8 htk8
  have N9 : News s.heap _ _ [(T8, W.listOf #[] 0), (P8, W.listOf _ 0), (A8, W.listOf _ 0)] := fun p hp => N8 p (List.mem_cons_of_mem _ hp)
  refine iter_list (fun i => grownJ s.gens A8 P8 T8 (grown (xs.take i))) ?_ (lift_list (by k_asm) hl) (.inl (list_some hl)) (by k_asm) N9 ⟨_, _, _, _, _, _, [], rfl, (fun _ hp => (nomatch hp)), IntsAre.cons _ _ (IntsAre.cons _ _ .nil), StrsAre.cons _ _ (StrsAre.cons _ _ .nil), ⟨rfl, fun i v h => by simp at h⟩, rfl, rfl, rfl, rfl⟩ (fun I => Lets.name) ?_ ?_
  · rfl
  · rintro i v I oI m₁ nx h tk g hge hv hJ hn F₁ N₁ Post hPost
    refine grownJ.opened hJ ?_
    clear hJ
    intro above places told aar par tar an pn tn tups hst qe1 hoff hab hpl hto qe2 ha hp ht
    subst qe1
    subst qe2
    refine ex2 (intsAre_get hxs hv) ?_
    intro x u hx9
    have qe1 := hx9.1
    have hx := hx9.2
    clear hx9
    subst qe1
    have hgs : grown (xs.take (i + 1)) = gStep (grown (xs.take i)) x := foldl_take_succ gStep gInit xs i x hx
    rw [hgs, hst] at hPost
    have hok := gOk_fold (xs.take i)
    have hli : (xs.take i).length ≤ 13 := by rw [List.length_take]; omega
    rw [hst] at hok
    have ht1 : told.length ≤ 13 := Nat.le_trans hok.1 hli
    have ha1 : above.length = places.length := hok.2.1
    have hp1 : places.length ≤ 15 := Nat.le_trans hok.2.2.1 (Nat.add_le_add_left hli 2)
    have hp2 : 2 ≤ places.length := hok.2.2.2.1
    have hp3 : ∀ x ∈ places, x.length ≤ 1000 := fun x hx => Nat.le_trans (hok.2.2.2.2 x hx) (Nat.le_trans (Nat.add_le_add_left (Nat.mul_le_mul_left 4 hli) 1) (Nat.le_of_ble_eq_true rfl))
    clear hok hst hgs hli hx hv
    have hn1 := hn_hd hn
    have hn2 := hn_hd (hn_tl hn)
    have hn3 := hn_hd (hn_tl (hn_tl hn))
    replace F₁ := Fr.see3 F₁ ha hp ht
    have htk0 : 0 < tk := Nat.lt_of_lt_of_le htk8 hge
    have hnd0 : 0 ≤ (x.fdiv 3).fmod (places.length : Int) := fmod_lo _ (by omega)
    have hnd1 : (x.fdiv 3).fmod (places.length : Int) < (places.length : Int) := fmod_hi _ (by omega)
    have hpd' := getD_le hp3 ((x.fdiv 3).fmod (places.length : Int)).toNat
    have htl := hto.1
    rw [Array.length_toList] at htl
    have hal := intsAre_length hab
    rw [Array.length_toList] at hal
    have hpl9 := strsAre_length hpl
    rw [Array.length_toList] at hpl9
    (repeat' ((fail_if_success (with_reducible show wpAny _ _ (exec (Stmt.For _ _ _ _ _) _) _ _ _)); (fail_if_success (with_reducible show wpAny _ _ (exec (Stmt.While _ _ _ _) _) _ _ _)); (fail_if_success (with_reducible show wpAny _ _ (eval (Expr.ListComp _ _ _ _) _) _ _ _)); (fail_if_success (with_reducible show wpAny _ _ (pyIter _) _ _ _)); (fail_if_success (with_reducible show wpAny _ _ (exec (Stmt.Assign _ (Expr.ListComp _ _ _ _) _) _) _ _ _)); (fail_if_success (with_reducible show TurnPost _ _ _ _ _ _ _ _ _)); first | (k_unfold; (try dsimp only)) | walk1 | (dsimp only; walk1)))
    · rename (x.fmod 3 = 2) => hc
      rename (_ ∧ _) => hl9
      with_reducible rename Fr _ _ _ _ => F9
      with_reducible rename News _ _ _ _ => N9
      rw [gS_told hc] at hPost
      have N10 := told_end N9
      refine hPost _ _ ?_
      simp only [TurnPost]
      refine TurnEnd.intro _ F9 N10 ?_ ⟨aar, par, _, an, pn, _, _, rfl, ?_, hab, hpl, hto.snoc, rfl, rfl, rfl, rfl⟩
      · exact hn_put hn1 (hn_put hn2 (hn_put hn3 (hn_put (Nat.ne_of_gt hl9.2.1) (hn_tl (hn_tl (hn_tl hn))))))
      · intro p hp b hb
        rcases List.mem_cons.mp hp with rfl | hp
        · simp only [List.mem_cons, List.not_mem_nil, or_false] at hb
          obtain ⟨_, _, q1, q2, q3, _⟩ := hl9
          rcases hb with rfl | rfl | rfl
          · exact Nat.ne_of_gt q1
          · exact Nat.ne_of_gt q2
          · exact Nat.ne_of_gt q3
        · exact hoff p hp b hb
    all_goals (
      refine hPost _ _ ?_
      simp only [TurnPost]
      rename (x.fmod 3 ≠ 2) => hc
      rename (List.isEmpty _ = _) => ho
      rename (StrsAre par.toList places) => hpl
      rename (List.any _ _ = _) => ha9
      with_reducible rename Fr _ _ _ _ => F9
      with_reducible rename News _ _ _ _ => N9
      refine TurnEnd.intro _ F9 (news_tl N9) (hn_put hn1 (hn_put hn2 (hn_put hn3 (hn_tl (hn_tl (hn_tl hn)))))) ?_)
    all_goals first
      | (rw [gS_dup (g := ⟨above, places, told⟩) hc (gP_good ho) ha9]; exact ⟨aar, par, tar, an, pn, tn, tups, rfl, hoff, hab, hpl, hto, rfl, rfl, rfl, rfl⟩)
      | (rw [gS_dup (g := ⟨above, places, told⟩) hc (gP_bad ho) ha9]; exact ⟨aar, par, tar, an, pn, tn, tups, rfl, hoff, hab, hpl, hto, rfl, rfl, rfl, rfl⟩)
      | (rw [gS_new hc (gP_good ho) ha9]; exact ⟨_, _, tar, _, _, tn, tups, rfl, hoff, intsAre_snoc hab, strsAre_snoc hpl, hto, rfl, rfl, rfl, rfl⟩)
      | (rw [gS_new hc (gP_bad ho) ha9]; exact ⟨_, _, tar, _, _, tn, tups, rfl, hoff, intsAre_snoc hab, strsAre_snoc hpl, hto, rfl, rfl, rfl, rfl⟩)
  · intro m₁ nx h tk g hge hJ F₁ N₁
    refine ex7 hJ ?_
    clear hJ
    intro aar par tar an pn tn tups hx9
    have qe1 := hx9.1
    have hoff := hx9.2.1
    have hab := hx9.2.2.1
    have hpl := hx9.2.2.2.1
    have hto := hx9.2.2.2.2.1
    have qe2 := hx9.2.2.2.2.2.1
    have ha := hx9.2.2.2.2.2.2.1
    have hp := hx9.2.2.2.2.2.2.2.1
    have ht := hx9.2.2.2.2.2.2.2.2
    clear hx9
    subst qe1
    subst qe2
    rw [List.take_of_length_le (by rw [intsAre_length hxs]; exact Nat.le_refl _)] at hab hpl hto
    replace F₁ := Fr.see3 F₁ ha hp ht
    (repeat' ((fail_if_success (with_reducible show wpAny _ _ (exec (Stmt.For _ _ _ _ _) _) _ _ _)); (fail_if_success (with_reducible show wpAny _ _ (exec (Stmt.While _ _ _ _) _) _ _ _)); (fail_if_success (with_reducible show wpAny _ _ (eval (Expr.ListComp _ _ _ _) _) _ _ _)); (fail_if_success (with_reducible show wpAny _ _ (pyIter _) _ _ _)); (fail_if_success (with_reducible show wpAny _ _ (exec (Stmt.Assign _ (Expr.ListComp _ _ _ _) _) _) _ _ _)); (fail_if_success (with_reducible show TurnPost _ _ _ _ _ _ _ _ _)); first | (k_unfold; (try dsimp only)) | walk1 | (dsimp only; walk1)))
    with_reducible rename Fr _ _ _ _ => F9
    with_reducible rename News _ _ _ _ => N9
    have N10 := fin_made N9
    exact Fin.intro (hret _ _ _ F9.keep ⟨_, A8, P8, T8, aar, par, tar, an, pn, tn, _, tups, rfl, N10, hab, hpl, hto⟩)
end
section
noncomputable def lastOf (told : List Tell) (node slash : Int) : Str := ((told.filter fun u => u.1 == node && u.2.1 == slash).map (·.2.2)).getLastD Str.empty
noncomputable def rowStep (told : List Tell) (rows : List Tell) (t : Tell) : List Tell :=
  if (rows.any fun r => r.1 == t.1 && r.2.1 == t.2.1) = true then rows else rows ++ [(t.1, t.2.1, lastOf told t.1 t.2.1)]
noncomputable def rowsOf (told : List Tell) : List Tell := told.foldl (rowStep told) []
local macro_rules | `(tactic| walk_at "subscriptTail") => `(tactic| (k_here; (with_reducible rename Fr _ _ _ _ => kF); (with_reducible rename News _ _ _ _ => kN); k_dflt (refine slice_tuple_to (s := ⟨_, _, _, _, _⟩) (b := 2) kF kN (News.isTup kN (by k_mem)) (Nat.le_of_ble_eq_true rfl) ?_); intro hP DP lP FP NP))
theorem pair_leaf {h₀ h : Heap} {L : Addr} {p pb c d q k1 k2 k3 k4 k5 : Addr × Obj} {prs tups : Led} (N : News h₀ L h (p :: pb :: c :: d :: q :: k1 :: k2 :: k3 :: k4 :: k5 :: (prs ++ tups))) : News h₀ L h (c :: d :: k1 :: k2 :: k3 :: k4 :: k5 :: ((p :: prs) ++ tups)) ∧ News h₀ L h [q] := ⟨all_put (N _ (.tail _ (.tail _ (.head _)))) (all_put (N _ (.tail _ (.tail _ (.tail _ (.head _))))) (all_put (N _ (.tail _ (.tail _ (.tail _ (.tail _ (.tail _ (.head _))))))) (all_put (N _ (.tail _ (.tail _ (.tail _ (.tail _ (.tail _ (.tail _ (.head _)))))))) (all_put (N _ (.tail _ (.tail _ (.tail _ (.tail _ (.tail _ (.tail _ (.tail _ (.head _))))))))) (all_put (N _ (.tail _ (.tail _ (.tail _ (.tail _ (.tail _ (.tail _ (.tail _ (.tail _ (.head _)))))))))) (all_put (N _ (.tail _ (.tail _ (.tail _ (.tail _ (.tail _ (.tail _ (.tail _ (.tail _ (.tail _ (.head _))))))))))) (all_put (N _ (.head _)) (fun p hp => N p (.tail _ (.tail _ (.tail _ (.tail _ (.tail _ (.tail _ (.tail _ (.tail _ (.tail _ (.tail _ (hp))))))))))))))))))), all_put (N _ (.tail _ (.tail _ (.tail _ (.tail _ (.head _)))))) all_nil⟩
local macro_rules | `(tactic| walk_at "compareOp Eq ref") => `(tactic| (k_here; (with_reducible rename News _ _ _ _ => kN); k_dflt (refine eq_pairs' kN (by k_mem) (by k_mem) (by ktr_units) ?_)))
local macro_rules | `(tactic| walk_at "subscriptTail") => `(tactic| (k_here; k_dflt (refine sub_last (by k_asm) (by k_mem) (by assumption) (by assumption) (by assumption) ?_); intro tL))
theorem rows_len (told : List Tell) : ∀ (l : List Tell) (acc : List Tell), (l.foldl (rowStep told) acc).length ≤ acc.length + l.length
  | [], acc => Nat.le_refl _
  | t :: l, acc => by
    rw [List.foldl_cons]
    refine Nat.le_trans (rows_len told l _) ?_
    have : (rowStep told acc t).length ≤ acc.length + 1 := by
      unfold rowStep
      split
      · omega
      · rw [List.length_append, List.length_singleton]
        exact Nat.le_refl _
    rw [List.length_cons]; omega
theorem row_end {h₀ h : Heap} {L D' Dw I R8 cS cN : Addr} {o oW oI oR oS oN : Obj} {tups : Led} (N : News h₀ L h ((D', o) :: (Dw, oW) :: (I, oI) :: (R8, oR) :: (cS, oS) :: (cN, oN) :: tups)) : News h₀ L h ((I, oI) :: (R8, oR) :: (cS, oS) :: (cN, oN) :: (D', o) :: tups) := all_put (N _ (.tail _ (.tail _ (.head _)))) (all_put (N _ (.tail _ (.tail _ (.tail _ (.head _))))) (all_put (N _ (.tail _ (.tail _ (.tail _ (.tail _ (.head _)))))) (all_put (N _ (.tail _ (.tail _ (.tail _ (.tail _ (.tail _ (.head _))))))) (all_put (N _ (.head _)) (fun p hp => N p (.tail _ (.tail _ (.tail _ (.tail _ (.tail _ (.tail _ (hp))))))))))))
set_option maxRecDepth 100000 in
set_option maxHeartbeats 1000000 in
theorem rows_call (w : World) (tl : Addr) (tvs : List Value) (told : List Tell) (htl : told.length ≤ 100) :
    Spec w 135 [.ref tl] 3 16 (fun h => h.IsList tl tvs.toArray ∧ ToldAll h tvs told) (fun h h' r => ∃ R rar rn tups, r = .ref R ∧ Made h h' ((R, W.listOf rar rn) :: tups) ∧ AllIn ToldIn tups rar.toList (rowsOf told)) := by
  unfold Spec
  k_fill
  intro mean mg mb dp un gd cn cs a ccd cl outer A₀ base h₀ L m s Q B F X T hk hdp hun hpre9 hret
  have hTl := hpre9.1
  have hT := hpre9.2
  clear hpre9
  (refine' enterHC ?k1 ?k2 ?k3 ?k5 ?kA ?kF ?kK ?k6 ?k7 ?k8 ?k9 ?kB ?kD ?_ ?c2 ?c3 ?c4; (case kA => exact rfl); (case kF => exact rfl); (case kK => assumption); (case k1 => k_asm); (case k2 => k_asm); (case k3 => k_asm); (case k5 => k_asm); (case k6 => k_is); (case k7 => k_is); (case k8 => ktr_room); (case k9 => exact BindsTo.of_eq rfl); (case kB => exact rfl); (case kD => decide +kernel); (case c2 => exact rfl); (case c3 => exact rfl); (case c4 => exact rfl); k_whole; intro _ _ _ _ _ _ Yc9 _ _ _; k_cells Yc9; (try dsimp only); (try k_fold))
  (repeat' ((fail_if_success (with_reducible show wpAny _ _ (exec (Stmt.For _ _ _ _ _) _) _ _ _)); (fail_if_success (with_reducible show wpAny _ _ (exec (Stmt.While _ _ _ _) _) _ _ _)); (fail_if_success (with_reducible show wpAny _ _ (eval (Expr.ListComp _ _ _ _) _) _ _ _)); (fail_if_success (with_reducible show wpAny _ _ (pyIter _) _ _ _)); (fail_if_success (with_reducible show wpAny _ _ (exec (Stmt.Assign _ (Expr.ListComp _ _ _ _) _) _) _ _ _)); (fail_if_success (with_reducible show TurnPost _ _ _ _ _ _ _ _ _)); first | (k_unfold; (try dsimp only)) | walk1 | (dsimp only; walk1)))
  refine wpAny_For ?_
  (repeat' ((fail_if_success (with_reducible show wpAny _ _ (exec (Stmt.For _ _ _ _ _) _) _ _ _)); (fail_if_success (with_reducible show wpAny _ _ (exec (Stmt.While _ _ _ _) _) _ _ _)); (fail_if_success (with_reducible show wpAny _ _ (eval (Expr.ListComp _ _ _ _) _) _ _ _)); (fail_if_success (with_reducible show wpAny _ _ (pyIter _) _ _ _)); (fail_if_success (with_reducible show wpAny _ _ (exec (Stmt.Assign _ (Expr.ListComp _ _ _ _) _) _) _ _ _)); (fail_if_success (with_reducible show TurnPost _ _ _ _ _ _ _ _ _)); first | (k_unfold; (try dsimp only)) | walk1 | (dsimp only; walk1)))
  rename_i L8 _ _ _ _ _ oS₀ oN₀ hS₀ hN₀ R8 _ hlt8 _ F8 N8 tk8 htk8
  refine iter_list (fun i m nx g => ∃ (rar : Array Value) (rn : Nat) (oS oN : Obj) (vS vN : Option Value) (tups : Led), nx = (R8, W.listOf rar rn) :: (L8 + 1 + 1, oS) :: (L8 + 1, oN) :: tups ∧ oS.data = .cell vS ∧ oN.data = .cell vN ∧ OwnOff tups [R8, L8 + 1 + 1, L8 + 1] ∧
     AllIn ToldIn tups rar.toList ((told.take i).foldl (rowStep told) []) ∧ g = s.gens ∧ m (Str.ofString "rows") = some (.ref R8) ∧ m (Str.ofString "told") = some (.ref tl)) ?_ (lift_list (by k_asm) hTl) (.inl (list_some hTl)) (by k_asm) N8 ⟨_, _, _, _, _, _, [], rfl, hS₀, hN₀, (fun _ hp => (nomatch hp)), .nil, rfl, rfl, rfl⟩ (fun I => Lets.tuple fun i v hv => by obtain ⟨t, _, a, _, _, _, e, _⟩ := hT.2 i v hv; exact ⟨a, e⟩) ?_ ?_
  · rfl
  · rintro i v I oI m₁ nx h tk g hge hv hJ hn F₁ N₁ Post hPost
    refine ex7 hJ ?_
    clear hJ
    intro rar rn oS oN vS vN tups hx9
    have qe1 := hx9.1
    have hS := hx9.2.1
    have hN := hx9.2.2.1
    have hoff := hx9.2.2.2.1
    have hro := hx9.2.2.2.2.1
    have qe2 := hx9.2.2.2.2.2.1
    have hr := hx9.2.2.2.2.2.2.1
    have htd := hx9.2.2.2.2.2.2.2
    clear hx9
    subst qe1
    subst qe2
    obtain ⟨⟨node, slash, word⟩, htold, a9, n1, n2, n3, rfl, hTup⟩ := hT.2 i v hv
    have hgs : (told.take (i + 1)).foldl (rowStep told) [] = rowStep told ((told.take i).foldl (rowStep told) []) (node, slash, word) := foldl_take_succ _ [] told i _ htold
    rw [hgs] at hPost
    have hrl : ((told.take i).foldl (rowStep told) []).length ≤ 100 := Nat.le_trans (rows_len told (told.take i) []) (by rw [List.length_take, List.length_nil]; omega)
    have hsz9 := hro.1
    rw [Array.length_toList] at hsz9
    generalize (told.take i).foldl (rowStep told) [] = rows at *
    dsimp only at hTup
    have hn1 := hn_hd hn
    have hn2 := hn_hd (hn_tl hn)
    have hn3 := hn_hd (hn_tl (hn_tl hn))
    replace F₁ := Fr.see2 F₁ hr htd
    (repeat' ((fail_if_success (with_reducible show wpAny _ _ (exec (Stmt.For _ _ _ _ _) _) _ _ _)); (fail_if_success (with_reducible show wpAny _ _ (exec (Stmt.While _ _ _ _) _) _ _ _)); (fail_if_success (with_reducible show wpAny _ _ (eval (Expr.ListComp _ _ _ _) _) _ _ _)); (fail_if_success (with_reducible show wpAny _ _ (pyIter _) _ _ _)); (fail_if_success (with_reducible show wpAny _ _ (exec (Stmt.Assign _ (Expr.ListComp _ _ _ _) _) _) _ _ _)); (fail_if_success (with_reducible show TurnPost _ _ _ _ _ _ _ _ _)); first | (k_unfold; (try dsimp only)) | walk1 | (dsimp only; walk1)))
    rename_i oN9 hN9 _ oS9 hS9 _ tk9 htk9 D9 h9 F9 N9 l9
    refine ListComp_open (by rfl) rfl (by decide) ?_
    (repeat' ((fail_if_success (with_reducible show wpAny _ _ (exec (Stmt.For _ _ _ _ _) _) _ _ _)); (fail_if_success (with_reducible show wpAny _ _ (exec (Stmt.While _ _ _ _) _) _ _ _)); (fail_if_success (with_reducible show wpAny _ _ (eval (Expr.ListComp _ _ _ _) _) _ _ _)); (fail_if_success (with_reducible show wpAny _ _ (pyIter _) _ _ _)); (fail_if_success (with_reducible show wpAny _ _ (exec (Stmt.Assign _ (Expr.ListComp _ _ _ _) _) _) _ _ _)); (fail_if_success (with_reducible show TurnPost _ _ _ _ _ _ _ _ _)); first | (k_unfold; (try dsimp only)) | walk1 | (dsimp only; walk1)))
    refine comp_listN (news := (D9, _) :: (I, oI) :: (R8, W.listOf rar rn) :: (L8 + 1 + 1, oS9) :: (L8 + 1, oN9) :: tups) (vs := rar.toList) (Bd := fun v m' => m' (Str.ofString "row") = some v) (fun i ys nx => ∃ prs, nx = (D9, _) :: (I, oI) :: (R8, W.listOf rar rn) :: (L8 + 1 + 1, oS9) :: (L8 + 1, oN9) :: (prs ++ tups) ∧ ys.length = i ∧ AllIn PairIn prs ys ((rows.take i).map fun r => (r.1, r.2.1))) rfl ?_ ?_ ?_ (by decide) rfl (by k_asm) N9 ⟨[], rfl, rfl, .nil⟩ (Puts.name rfl rfl) (.inl ⟨_, _, rfl⟩) ?_ ?_ ?_
    · exact isList_of (News.get N9 (.tail _ (.tail _ (.head _))))
    · rintro h nx i ys F2 N2 ⟨prs, rfl, _⟩
      exact isList_of (News.get N2 (.tail _ (.tail _ (.head _))))
    · rw [sizeLine_eq, Array.length_toList]; omega
    · rintro i ys nx ⟨_, _, e, _⟩; exact Nat.le_of_eq e
    · rintro i v ys nx h tk I2 oI2 C oC D m₂ hi hv hJ hoC hb F2 N2 No hoff2 hCD hIC hID Y Z hY hZ
      refine ex1 hJ ?_
      clear hJ
      intro prs hx9
      have qe1 := hx9.1
      have hyl := hx9.2.1
      have hys := hx9.2.2
      clear hx9
      subst qe1
      refine ex1 (hro.2 i v hv) ?_
      intro t hx9
      have hrt := hx9.1
      refine ex5 hx9.2 ?_
      clear hx9
      intro b k1 k2 k3 kn hx9
      have qe1 := hx9.1
      have hbt := hx9.2
      clear hx9
      subst qe1
      have hta := take_succ_map (fun r : Tell => (r.1, r.2.1)) _ _ _ hrt
      have N3 := news_pick (news_in2 N2 No) hbt (by intro q hq; repeat (first | exact hq | exact List.mem_append_right _ hq | exact List.mem_append_left _ hq | refine List.Mem.tail _ ?_))
      clear N2 No
      refine wpAny_tests_nil ?_
      rw [if_pos rfl]
      (repeat' ((fail_if_success (with_reducible show wpAny _ _ (exec (Stmt.For _ _ _ _ _) _) _ _ _)); (fail_if_success (with_reducible show wpAny _ _ (exec (Stmt.While _ _ _ _) _) _ _ _)); (fail_if_success (with_reducible show wpAny _ _ (eval (Expr.ListComp _ _ _ _) _) _ _ _)); (fail_if_success (with_reducible show wpAny _ _ (pyIter _) _ _ _)); (fail_if_success (with_reducible show wpAny _ _ (exec (Stmt.Assign _ (Expr.ListComp _ _ _ _) _) _) _ _ _)); (fail_if_success (with_reducible show TurnPost _ _ _ _ _ _ _ _ _)); first | (k_unfold; (try dsimp only)) | walk1 | (dsimp only; walk1)))
      rename_i hP DP lP FP NP
      have off9 : ∀ q ∈ _, (@Ne Nat DP (Prod.fst q)) := fun q hq => Nat.ne_of_gt (lP q hq)
      have N7 := (pair_leaf NP).1
      have No7 := (pair_leaf NP).2
      refine hY _ _ (CEnd.intro _ FP N7 No7 ?_ ⟨_ :: prs, rfl, ?_, ?_⟩)
      · exact all_put (hoff2 _ (.head _)) (all_put (hoff2 _ (.tail _ (.head _))) (all_put (hoff2 _ (.tail _ (.tail _ (.head _)))) (all_put (hoff2 _ (.tail _ (.tail _ (.tail _ (.head _))))) (all_put (hoff2 _ (.tail _ (.tail _ (.tail _ (.tail _ (.head _)))))) (all_put ⟨off9 (D, lst ys) (.tail _ (.tail _ (.head _))), off9 (C, oC) (.tail _ (.head _)), fun q => off9 (I2, oI2) (.tail _ (.tail _ (.tail _ (.head _)))) (List.mem_singleton.mp q)⟩ (fun p hp => hoff2 p (.tail _ (.tail _ (.tail _ (.tail _ (.tail _ (hp))))))))))))
      · rw [List.length_append, hyl]; rfl
      · rw [hta]
        exact AllIn.snoc (PairIn.mono fun _ h => .tail _ h) hys ⟨DP, k1, k2, _, rfl, .head _⟩
    · intro D h tk ys nx hJ N2 hD F2
      refine ex1 hJ ?_
      clear hJ
      intro prs hx9
      have qe1 := hx9.1
      have hyl := hx9.2.1
      have hys := hx9.2.2
      clear hx9
      subst qe1
      rw [List.take_of_length_le (by rw [hro.1]; exact Nat.le_refl _)] at hys
      have N3 : News s.heap L8 h ((D, lst ys) :: _) := N2
      refine notin_pairs (p := (node, slash)) N2 (.head _) (hys.mono (PairIn.mono fun p hp => by simp [hp])) ⟨D9, n1, n2, _, rfl, .tail _ (.head _)⟩ ?_ ?_
      · ktr_units
      · rw [List.any_map]
        (repeat' ((fail_if_success (with_reducible show wpAny _ _ (exec (Stmt.For _ _ _ _ _) _) _ _ _)); (fail_if_success (with_reducible show wpAny _ _ (exec (Stmt.While _ _ _ _) _) _ _ _)); (fail_if_success (with_reducible show wpAny _ _ (eval (Expr.ListComp _ _ _ _) _) _ _ _)); (fail_if_success (with_reducible show wpAny _ _ (pyIter _) _ _ _)); (fail_if_success (with_reducible show wpAny _ _ (exec (Stmt.Assign _ (Expr.ListComp _ _ _ _) _) _) _ _ _)); (fail_if_success (with_reducible show TurnPost _ _ _ _ _ _ _ _ _)); first | (k_unfold; (try dsimp only)) | walk1 | (dsimp only; walk1)))
        · rename (List.any _ _ = true) => hany
          have hE : rowStep told rows (node, slash, word) = rows := if_pos hany
          rw [hE] at hPost
          have N4 : News s.heap L8 h ((I, oI) :: (R8, W.listOf rar rn) :: (L8 + 1 + 1, oS9) :: (L8 + 1, oN9) :: tups) := all_put (N2 _ (.tail _ (.tail _ (.head _)))) (all_put (N2 _ (.tail _ (.tail _ (.tail _ (.head _))))) (all_put (N2 _ (.tail _ (.tail _ (.tail _ (.tail _ (.head _)))))) (all_put (N2 _ (.tail _ (.tail _ (.tail _ (.tail _ (.tail _ (.head _))))))) (fun p hp => N2 p (.tail _ (.tail _ (.tail _ (.tail _ (.tail _ (.tail _ (List.mem_append_right _ hp)))))))))))
          refine hPost _ _ ?_
          simp only [TurnPost]
          refine TurnEnd.intro _ F2 N4 ?_ ⟨rar, rn, oS9, oN9, _, _, tups, rfl, hS9, hN9, hoff, hro, rfl, rfl, rfl⟩
          exact hn_put hn1 (hn_put hn2 (hn_put hn3 (hn_tl (hn_tl (hn_tl hn)))))
        · rename (List.any _ _ = false) => hany
          have hE : rowStep told rows (node, slash, word) = rows ++ [(node, slash, lastOf told node slash)] := if_neg (by rw [Bool.not_eq_true]; exact hany)
          rw [hE] at hPost
          have N4 : News s.heap L8 h ((I, oI) :: (R8, W.listOf rar rn) :: (L8 + 1 + 1, oS9) :: (L8 + 1, oN9) :: tups) := all_put (N2 _ (.tail _ (.tail _ (.head _)))) (all_put (N2 _ (.tail _ (.tail _ (.tail _ (.head _))))) (all_put (N2 _ (.tail _ (.tail _ (.tail _ (.tail _ (.head _)))))) (all_put (N2 _ (.tail _ (.tail _ (.tail _ (.tail _ (.tail _ (.head _))))))) (fun p hp => N2 p (.tail _ (.tail _ (.tail _ (.tail _ (.tail _ (.tail _ (List.mem_append_right _ hp)))))))))))
          clear N2 N3 hD
          refine ListComp_assign (by rfl) (by rfl) rfl (by decide) ?_
          (repeat' ((fail_if_success (with_reducible show wpAny _ _ (exec (Stmt.For _ _ _ _ _) _) _ _ _)); (fail_if_success (with_reducible show wpAny _ _ (exec (Stmt.While _ _ _ _) _) _ _ _)); (fail_if_success (with_reducible show wpAny _ _ (eval (Expr.ListComp _ _ _ _) _) _ _ _)); (fail_if_success (with_reducible show wpAny _ _ (pyIter _) _ _ _)); (fail_if_success (with_reducible show wpAny _ _ (exec (Stmt.Assign _ (Expr.ListComp _ _ _ _) _) _) _ _ _)); (fail_if_success (with_reducible show TurnPost _ _ _ _ _ _ _ _ _)); first | (k_unfold; (try dsimp only)) | walk1 | (dsimp only; walk1)))
          refine comp_listS (news := (I, oI) :: (R8, W.listOf rar rn) :: (L8 + 1 + 1, oS9) :: (L8 + 1, oN9) :: tups) (vs := tvs) (Bd := fun v m' => ∃ a b c, m' (Str.ofString "other") = some a ∧ m' (Str.ofString "end") = some b ∧ m' (Str.ofString "last") = some c ∧ ∃ T, v = .ref T ∧ IsTup s.heap T #[a, b, c]) (fun i ys nx => nx = (I, oI) :: (R8, W.listOf rar rn) :: (L8 + 1 + 1, oS9) :: (L8 + 1, oN9) :: tups ∧ ys.length ≤ i ∧ StrsAre ys (((told.take i).filter fun u => u.1 == node && u.2.1 == slash).map (·.2.2))) rfl ?_ ?_ ?_ (by decide) rfl F2 N4 ⟨rfl, Nat.zero_le _, .nil⟩ ?_ ?_ ?_ ?_ rfl rfl rfl ?_
          · exact lift_list F2 hTl
          · rintro h nx i ys F3 N3 _
            exact lift_list F3 hTl
          · rw [sizeLine_eq, hT.1]; omega
          · refine Puts.three rfl rfl rfl rfl rfl (by decide) (by decide) (by decide) (fun v a b c => ∃ T, v = .ref T ∧ IsTup s.heap T #[a, b, c]) ?_
            rintro i v hv h nx F3 N3 _
            obtain ⟨t, htt, T, k1, k2, k3, rfl, ht3⟩ := hT.2 i v hv
            exact ⟨T, _, _, _, rfl, F3.tup ht3, T, rfl, ht3⟩
          · refine .inr ⟨⟨_, _, _, rfl⟩, fun i v hv => ?_⟩
            obtain ⟨t, htt, T, k1, k2, k3, rfl, ht3⟩ := hT.2 i v hv
            exact ⟨T, rfl⟩
          · rintro i ys nx ⟨_, e, _⟩; exact e
          · rintro i v ys nx h tk I2 oI2 C oC D m₂ hi hv hJ hoC hb9 F3 N3 No hoff2 hCD hIC hID Y Z hY hZ
            have qe1 := hJ.1
            have hyl := hJ.2.1
            have hys := hJ.2.2
            clear hJ
            subst qe1
            refine told_bind hT hv hb9 ?_
            clear hb9
            intro o1 o2 o3 k1 k2 k3 htt hm1 hm2 hm3
            have N5 := news_in2 N3 No
            clear N3 No
            have hta := filter_take_succ (fun u : Tell => u.1 == node && u.2.1 == slash) told i _ htt
            dsimp only at hta
            refine wpAny_tests_one ?_
            (repeat' ((fail_if_success (with_reducible show wpAny _ _ (exec (Stmt.For _ _ _ _ _) _) _ _ _)); (fail_if_success (with_reducible show wpAny _ _ (exec (Stmt.While _ _ _ _) _) _ _ _)); (fail_if_success (with_reducible show wpAny _ _ (eval (Expr.ListComp _ _ _ _) _) _ _ _)); (fail_if_success (with_reducible show wpAny _ _ (pyIter _) _ _ _)); (fail_if_success (with_reducible show wpAny _ _ (exec (Stmt.Assign _ (Expr.ListComp _ _ _ _) _) _) _ _ _)); (fail_if_success (with_reducible show TurnPost _ _ _ _ _ _ _ _ _)); first | (k_unfold; (try dsimp only)) | walk1 | (dsimp only; walk1)))
            all_goals (with_reducible rename News _ _ _ _ => N6
                       with_reducible rename Fr _ _ _ _ => F6
                       have N7 := (two_leaf N6).1
                       have No7 := (two_leaf N6).2
                       first | refine hY _ _ ?_ | refine hZ _ ?_
                       refine CEnd.intro _ F6 N7 No7 hoff2 ⟨rfl, ?_, ?_⟩)
            · rw [List.length_append, List.length_singleton]; omega
            · rename (_ = true) => hc
              rw [hta, if_pos hc, List.map_append]
              exact strsAre_snocL hys
            · omega
            · rename (_ = false) => hc
              rw [hta, hc, if_neg Bool.false_ne_true, List.append_nil]
              exact hys
          · intro D h tk ys nx hJ N6 hD F6
            have qe1 := hJ.1
            have hyl := hJ.2.1
            have hys := hJ.2.2
            clear hJ
            subst qe1
            rw [List.take_of_length_le (by rw [hT.1]; exact Nat.le_refl _)] at hys
            have hw0 : 0 < ((told.filter fun u => u.1 == node && u.2.1 == slash).map (·.2.2)).length := by
              rw [List.length_map]
              exact List.length_pos_of_mem (List.mem_filter.mpr ⟨List.mem_of_getElem? htold, by simp⟩)
            have hw1 : ((told.filter fun u => u.1 == node && u.2.1 == slash).map (·.2.2)).length ≤ 1000 := by
              rw [List.length_map]
              exact Nat.le_trans (List.length_filter_le _ _) (by omega)
            have hD2 := neA (hD _ (.tail _ (.head _))); dsimp only at hD2
            (repeat' ((fail_if_success (with_reducible show wpAny _ _ (exec (Stmt.For _ _ _ _ _) _) _ _ _)); (fail_if_success (with_reducible show wpAny _ _ (exec (Stmt.While _ _ _ _) _) _ _ _)); (fail_if_success (with_reducible show wpAny _ _ (eval (Expr.ListComp _ _ _ _) _) _ _ _)); (fail_if_success (with_reducible show wpAny _ _ (pyIter _) _ _ _)); (fail_if_success (with_reducible show wpAny _ _ (exec (Stmt.Assign _ (Expr.ListComp _ _ _ _) _) _) _ _ _)); (fail_if_success (with_reducible show TurnPost _ _ _ _ _ _ _ _ _)); first | (k_unfold; (try dsimp only)) | walk1 | (dsimp only; walk1)))
            refine hPost _ _ ?_
            simp only [TurnPost]
            with_reducible rename News _ _ _ _ => N8
            with_reducible rename Fr _ _ _ _ => F8
            rename (_ ∧ _ ∧ _ ∧ _ ∧ _ ∧ _) => hl8
            have N10 := row_end N8
            refine TurnEnd.intro _ F8 N10 ?_ ⟨_, _, oS9, oN9, _, _, _ :: tups, rfl, hS9, hN9, ?_, ?_, rfl, rfl, rfl⟩
            · exact hn_put hn1 (hn_put hn2 (hn_put hn3 (hn_put (Nat.ne_of_gt hl8.2.1) (hn_tl (hn_tl (hn_tl hn))))))
            · intro p hp b hb
              rcases List.mem_cons.mp hp with rfl | hp
              · simp only [List.mem_cons, List.not_mem_nil, or_false] at hb
                obtain ⟨_, _, q1, q2, q3, _⟩ := hl8
                rcases hb with rfl | rfl | rfl
                · exact Nat.ne_of_gt q1
                · exact Nat.ne_of_gt q2
                · exact Nat.ne_of_gt q3
              · exact hoff p hp b hb
            · rw [Array.toList_push]
              exact AllIn.snoc (ToldIn.mono fun _ h => .tail _ h) hro ⟨_, _, _, _, _, rfl, .head _⟩
  · intro m₁ nx h tk g hge hJ F₁ N₁
    refine ex7 hJ ?_
    clear hJ
    intro rar rn oS oN vS vN tups hx9
    have qe1 := hx9.1
    have hS := hx9.2.1
    have hN := hx9.2.2.1
    have hoff := hx9.2.2.2.1
    have hro := hx9.2.2.2.2.1
    have qe2 := hx9.2.2.2.2.2.1
    have hr := hx9.2.2.2.2.2.2.1
    have htd := hx9.2.2.2.2.2.2.2
    clear hx9
    subst qe1
    subst qe2
    rw [List.take_of_length_le (by rw [hT.1]; exact Nat.le_refl _)] at hro
    replace F₁ := Fr.see2 F₁ hr htd
    (repeat' ((fail_if_success (with_reducible show wpAny _ _ (exec (Stmt.For _ _ _ _ _) _) _ _ _)); (fail_if_success (with_reducible show wpAny _ _ (exec (Stmt.While _ _ _ _) _) _ _ _)); (fail_if_success (with_reducible show wpAny _ _ (eval (Expr.ListComp _ _ _ _) _) _ _ _)); (fail_if_success (with_reducible show wpAny _ _ (pyIter _) _ _ _)); (fail_if_success (with_reducible show wpAny _ _ (exec (Stmt.Assign _ (Expr.ListComp _ _ _ _) _) _) _ _ _)); (fail_if_success (with_reducible show TurnPost _ _ _ _ _ _ _ _ _)); first | (k_unfold; (try dsimp only)) | walk1 | (dsimp only; walk1)))
    with_reducible rename News _ _ _ _ => N8
    with_reducible rename Fr _ _ _ _ => F8
    refine Fin.intro (hret _ _ _ F8.keep ⟨_, rar, rn, tups, rfl, fun p hp => ?_, hro⟩)
    have := N8 p ((List.mem_cons.mp hp).elim (fun e => e ▸ .head _) fun e => .tail _ (.tail _ (.tail _ e)))
    exact ⟨this.1, this.2.2⟩
end
section
theorem Spec.use {w : World} {f : Addr} {vs : List Value} {dd uu : Nat} {Pre : Heap → Prop} {Out : Heap → Heap → Value → Prop} (C : Spec w f vs dd uu Pre Out)
    {mean : ExcName → Option Value} {mg mb : Str → Option Value} {dp un : Nat} {gd : Option (List Code)} {cn : Str} {cs : Scope} {a : Addr} {ccd : Value} {cl : List (Str × Addr)} {outer : List Env} {A₀ : Around} {base h₀ : Heap} {L : Addr} {m : Str → Option Value} {s : Shared} {Q : Value → Shared → Prop} {news : Led}
    (B : Below A₀ base outer h₀) (F : Fr h₀ L s.heap m) (N : News h₀ L s.heap news) (X : (hd.heap_39 w.params).In h₀) (T : Top hd.view_39 (looseW hd.view_39 []) mean mg mb h₀) (hk : cs.kind = .function) (hd : dp + dd < recursionLimit) (hu : un + uu < cLine) (pre : Pre s.heap)
    (ret : ∀ r h' tk', Fr h₀ L h' m → News h₀ L h' news → Ext s.heap h' → Out s.heap h' r → Q r { s with heap := h', toks := tk' }) :
    wpAny (model PySem.Challenge.rw_il0007_01.row.prog w) (ktrTop dp un gd cn cs L a ccd cl outer) (call (.ref f) vs) Q (fun _ _ => False) s :=
  C _ _ _ _ _ _ _ _ _ _ _ _ _ _ _ _ _ _ _ B F X T hk hd hu pre fun r h' tk' ke o => ret r h' tk' (F.keeps ke) (N.grown ke) ke o
/-- a contract whose call may make generators: bare ones stay bare -/
noncomputable def SpecG (w : World) (f : Addr) (vs : List Value) (dd uu : Nat) (Pre : Heap → Prop) (Out : Heap → Heap → Value → Prop) : Prop :=
  ∀ (mean : ExcName → Option Value) (mg mb : Str → Option Value) (dp un : Nat) (gd : Option (List Code)) (cn : Str) (cs : Scope) (a : Addr) (ccd : Value) (cl : List (Str × Addr)) (outer : List Env) (A₀ : Around) (base h₀ : Heap) (L : Addr) (m : Str → Option Value) (s : Shared) (Q : Value → Shared → Prop),
    Below A₀ base outer h₀ → Fr h₀ L s.heap m → (hd.heap_39 w.params).In h₀ → Top hd.view_39 (looseW hd.view_39 []) mean mg mb h₀ → cs.kind = .function → dp + dd < recursionLimit → un + uu < cLine → Pre s.heap →
    (∀ r h' tk' g', (AllBare s.gens → AllBare g') → Ext s.heap h' → Out s.heap h' r → Q r { s with heap := h', toks := tk', gens := g' }) →
    wpAny (model PySem.Challenge.rw_il0007_01.row.prog w) (ktrTop dp un gd cn cs L a ccd cl outer) (call (.ref f) vs) Q (fun _ _ => False) s
theorem SpecG.use {w : World} {f : Addr} {vs : List Value} {dd uu : Nat} {Pre : Heap → Prop} {Out : Heap → Heap → Value → Prop} (C : SpecG w f vs dd uu Pre Out)
    {mean : ExcName → Option Value} {mg mb : Str → Option Value} {dp un : Nat} {gd : Option (List Code)} {cn : Str} {cs : Scope} {a : Addr} {ccd : Value} {cl : List (Str × Addr)} {outer : List Env} {A₀ : Around} {base h₀ : Heap} {L : Addr} {m : Str → Option Value} {s : Shared} {Q : Value → Shared → Prop} {news : Led}
    (B : Below A₀ base outer h₀) (F : Fr h₀ L s.heap m) (N : News h₀ L s.heap news) (X : (hd.heap_39 w.params).In h₀) (T : Top hd.view_39 (looseW hd.view_39 []) mean mg mb h₀) (hk : cs.kind = .function) (hd : dp + dd < recursionLimit) (hu : un + uu < cLine) (pre : Pre s.heap)
    (ret : ∀ r h' tk' g', (AllBare s.gens → AllBare g') → Fr h₀ L h' m → News h₀ L h' news → Ext s.heap h' → Out s.heap h' r → Q r { s with heap := h', toks := tk', gens := g' }) :
    wpAny (model PySem.Challenge.rw_il0007_01.row.prog w) (ktrTop dp un gd cn cs L a ccd cl outer) (call (.ref f) vs) Q (fun _ _ => False) s :=
  C _ _ _ _ _ _ _ _ _ _ _ _ _ _ _ _ _ _ _ B F X T hk hd hu pre fun r h' tk' g' hg ke o => ret r h' tk' g' hg (F.keeps ke) (N.grown ke) ke o
end
section
noncomputable def suburi (b t : Str × Str) : Bool :=
  (b.1 == t.1 && b.2 == t.2) || (b.1 == t.1 && Txt.startswith t.2 (if (Txt.slice b.2 (some (-1)) none != Str.ofString "/") = true then b.2 ++ Str.ofString "/" else b.2))
section
open PySem.SeqAt
theorem eq_strpairs {prog : Program} {w : World} {A : Around} {E : Value → Shared → Prop} {s : Shared} {a b : Addr} {x1 x2 y1 y2 : Str} {n1 n2 m1 m2 : Tok} {Q : Value → Shared → Prop}
    (hx : IsTup s.heap a #[.str x1 n1, .str x2 n2]) (hy : IsTup s.heap b #[.str y1 m1, .str y2 m2]) (hu : A.units + 8 < cLine) (h : Q (.bool (x1 == y1 && x2 == y2)) s) :
    wpAny (model prog w) A (compareOp .Eq (.ref a) (.ref b)) Q E s := by
  have he : ∀ j (h1 : j < (#[Value.str x1 n1, Value.str x2 n2] : Array Value).size) (h2 : j < (#[Value.str y1 m1, Value.str y2 m2] : Array Value).size), EqAt A.in1 s (#[Value.str x1 n1, Value.str x2 n2] : Array Value)[j] (#[Value.str y1 m1, Value.str y2 m2] : Array Value)[j] ((fun j => if j = 0 then x1 == y1 else x2 == y2) j) := by
    intro j h1 h2
    have : j = 0 ∨ j = 1 := by
      have : j < 2 := h1
      omega
    rcases this with rfl | rfl
    · exact EqAt.str_str x1 n1 y1 m1
    · exact EqAt.str_str x2 n2 y2 m2
  refine eq_tupleAt hx hy (by omega) he ?_
  have e : ((List.range (min (#[Value.str x1 n1, Value.str x2 n2] : Array Value).size (#[Value.str y1 m1, Value.str y2 m2] : Array Value).size)).all (fun j => if j = 0 then x1 == y1 else x2 == y2) && (#[Value.str x1 n1, Value.str x2 n2] : Array Value).size == (#[Value.str y1 m1, Value.str y2 m2] : Array Value).size) = (x1 == y1 && x2 == y2) := by
    show ((List.range 2).all (fun j => if j = 0 then x1 == y1 else x2 == y2) && (2 == 2)) = _
    rw [show List.range 2 = [0, 1] from rfl]
    simp
  rw [e]; exact h
end
local macro_rules | `(tactic| walk_at "compareOp Eq ref") => `(tactic| (k_here; (with_reducible rename Fr _ _ _ _ => kF); k_dflt (refine eq_strpairs (Fr.tup kF (by assumption)) (Fr.tup kF (by assumption)) (by ktr_units) ?_)))
set_option maxRecDepth 100000 in
set_option maxHeartbeats 1000000 in
theorem suburi_call (w : World) (xm ba ta : Addr) (b1 b2 t1 t2 : Str) (n1 n2 m1 m2 : Tok) (hb1 : b1.length ≤ 1010) (hb2 : b2.length ≤ 1010) (ht1 : t1.length ≤ 1010) (ht2 : t2.length ≤ 1010) :
    Spec w 64 [.ref xm, .ref ba, .ref ta] 3 24 (fun h => IsTup h ba #[.str b1 n1, .str b2 n2] ∧ IsTup h ta #[.str t1 m1, .str t2 m2]) (fun h h' r => r = .bool (suburi (b1, b2) (t1, t2))) := by
  unfold Spec
  k_fill
  intro mean mg mb dp un gd cn cs a ccd cl outer A₀ base h₀ L m s Q B F X T hk hdp hun ⟨hB, hT⟩ hret
  (refine' enterH ?k1 ?k2 ?k3 ?k5 ?kA ?kF ?kK ?k6 ?k7 ?k8 ?k9 ?kB ?_ ?c2 ?c3 ?c4 ?c5; (case kA => exact rfl); (case kF => exact rfl); (case kK => assumption); (case k1 => k_asm); (case k2 => k_asm); (case k3 => k_asm); (case k5 => k_asm); (case k6 => k_is); (case k7 => k_is); (case k8 => ktr_room); (case k9 => exact BindsTo.of_eq rfl); (case c5 => decide); (case kB => exact locs rfl); (case c2 => exact rfl); (case c3 => exact rfl); (case c4 => exact rfl); k_whole; intro _ _ _ _ _ _ _; (try dsimp only); (try k_fold))
  (repeat' ((fail_if_success (with_reducible show wpAny _ _ (exec (Stmt.For _ _ _ _ _) _) _ _ _)); (fail_if_success (with_reducible show wpAny _ _ (exec (Stmt.While _ _ _ _) _) _ _ _)); (fail_if_success (with_reducible show wpAny _ _ (eval (Expr.ListComp _ _ _ _) _) _ _ _)); (fail_if_success (with_reducible show wpAny _ _ (pyIter _) _ _ _)); (fail_if_success (with_reducible show wpAny _ _ (exec (Stmt.Assign _ (Expr.ListComp _ _ _ _) _) _) _ _ _)); (fail_if_success (with_reducible show TurnPost _ _ _ _ _ _ _ _ _)); first | (k_unfold; (try dsimp only)) | walk1 | (dsimp only; walk1)))
  all_goals with_reducible rename Fr _ _ _ _ => F9
  · rename ((b1 == t1 && b2 == t2) = true) => q1
    have e : suburi (b1, b2) (t1, t2) = true := by unfold suburi; dsimp only; rw [q1, Bool.true_or]
    exact Fin.intro (hret _ _ _ F9.keep (by rw [e]))
  · rename ((b1 == t1 && b2 == t2) = false) => q1
    rename ((b1 != t1) = true) => q2
    have q3 : (b1 == t1) = false := by rw [bne, Bool.not_eq_true'] at q2; exact q2
    have e : suburi (b1, b2) (t1, t2) = false := by unfold suburi; dsimp only; rw [q1, q3, Bool.false_and, Bool.false_or]
    exact Fin.intro (hret _ _ _ F9.keep (by rw [e]))
  · rename ((b1 == t1 && b2 == t2) = false) => q1
    rename ((b1 != t1) = false) => q2
    rename (_ = true) => q4
    have q3 : (b1 == t1) = true := by rw [bne, Bool.not_eq_false'] at q2; exact q2
    have e : suburi (b1, b2) (t1, t2) = Txt.startswith t2 (b2 ++ Str.ofString "/") := by unfold suburi; dsimp only; rw [q1, q3, Bool.true_and, Bool.false_or, if_pos q4]
    exact Fin.intro (hret _ _ _ F9.keep (by rw [e]))
  · rename ((b1 == t1 && b2 == t2) = false) => q1
    rename ((b1 != t1) = false) => q2
    rename ((Txt.slice b2 (some (-1)) none != Str.ofString "/") = false) => q4
    have q3 : (b1 == t1) = true := by rw [bne, Bool.not_eq_false'] at q2; exact q2
    have e : suburi (b1, b2) (t1, t2) = Txt.startswith t2 b2 := by unfold suburi; dsimp only; rw [q1, q3, Bool.true_and, Bool.false_or, q4, if_neg Bool.false_ne_true]
    exact Fin.intro (hret _ _ _ F9.keep (by rw [e]))
end
section
inductive Chain (above : List Int) : Int → List Int → Prop
  | stop {n : Int} : above.getD n.toNat 0 = n → Chain above n [n]
  | step {n : Int} {l : List Int} : above.getD n.toNat 0 ≠ n → Chain above (above.getD n.toNat 0) l → Chain above n (n :: l)
noncomputable def coverOf (chain : List Int) (node stop : Int) (rows : List Tell) : List Str := (rows.filter fun r => chain.any (· == r.1) && (r.1 != node || decide (r.2.1 ≤ stop))).map (·.2.2)
noncomputable def overOf (rows : List Tell) (up : Int) : List Str := (rows.filter fun r => r.1 == up && r.2.1 == 0).map (·.2.2)
noncomputable def aboveOf (chain : List Int) (rows : List Tell) : List Str := chain.flatMap (overOf rows)
local macro_rules | `(tactic| walk_at "subscriptTail") => `(tactic| (k_here; k_dflt (refine sub_intB (lift_list (by k_asm) (by assumption)) (by assumption) (by assumption) (by assumption) (by omega) ?_); intro tL))
local macro_rules | `(tactic| walk_at "compareOp In int ref") => `(tactic| (k_here; k_dflt (refine in_list_ints (isList_of (News.get (by k_asm) (by k_mem))) (by assumption) ?_)))
theorem due_made {h₀ h : Heap} {L : Addr} {t a b : Addr × Obj} {l : Led} (N : News h₀ L h (t :: b :: a :: l)) : Made h₀ h [t, a, b] := fun p hp =>
  have q := (all_put (N _ (.head _)) (all_put (N _ (.tail _ (.tail _ (.head _)))) (all_put (N _ (.tail _ (.head _))) (all_nil))) : News h₀ L h _) p hp
  ⟨q.1, q.2.2⟩
theorem news_out {h₀ h : Heap} {L : Addr} {c d q : Addr × Obj} {l : Led} (N : News h₀ L h (c :: d :: q :: l)) : News h₀ L h (c :: d :: l) ∧ News h₀ L h [q] := one_leaf N
local macro_rules | `(tactic| walk_at "compareOp Eq ref") => `(tactic| (k_here; (with_reducible rename News _ _ _ _ => kN); k_dflt (refine eq_pairs' kN (by k_mem) (by k_mem) (by ktr_units) ?_)))
set_option maxRecDepth 100000 in
set_option maxHeartbeats 1000000 in
theorem due_call (w : World) (al rl : Addr) (avs rvs : List Value) (above : List Int) (rows : List Tell) (node stop : Int) (u1 u2 : Tok) (hab : IntsAre avs above) (hal : above.length ≤ 100) (hrl : rows.length ≤ 100)
    (hup : ∀ n : Int, 0 ≤ n → n < above.length → 0 ≤ above.getD n.toNat 0 ∧ above.getD n.toNat 0 ≤ n) (hn0 : 0 ≤ node) (hn1 : node < above.length) :
    Spec w 140 [.ref al, .ref rl, .int node u1, .int stop u2] 3 16 (fun h => h.IsList al avs.toArray ∧ h.IsList rl rvs.toArray ∧ ToldAll h rvs rows)
      (fun h h' r => ∃ D Cv Ab cvs abs cn an dn chain, r = .ref D ∧ Made h h' [(D, ({ cls := .type "tuple", data := .seq #[.ref Cv, .ref Ab] dn } : Obj)), (Cv, W.listOf cvs cn), (Ab, W.listOf abs an)] ∧ Chain above node chain ∧ StrsAre cvs.toList (coverOf chain node stop rows) ∧ StrsAre abs.toList (aboveOf chain rows)) := by
  unfold Spec
  k_fill
  intro mean mg mb dp un gd cn cs a ccd cl outer A₀ base h₀ L m s Q B F X T hk hdp hun hpre9 hret
  have hAl := hpre9.1
  have hRl := hpre9.2.1
  have hT := hpre9.2.2
  clear hpre9
  (refine' enterHC ?k1 ?k2 ?k3 ?k5 ?kA ?kF ?kK ?k6 ?k7 ?k8 ?k9 ?kB ?kD ?_ ?c2 ?c3 ?c4; (case kA => exact rfl); (case kF => exact rfl); (case kK => assumption); (case k1 => k_asm); (case k2 => k_asm); (case k3 => k_asm); (case k5 => k_asm); (case k6 => k_is); (case k7 => k_is); (case k8 => ktr_room); (case k9 => exact BindsTo.of_eq rfl); (case kB => exact rfl); (case kD => decide +kernel); (case c2 => exact rfl); (case c3 => exact rfl); (case c4 => exact rfl); k_whole; intro _ _ _ _ _ _ Yc9 _ _ _; k_cells Yc9; (try dsimp only); (try k_fold))
  (repeat' ((fail_if_success (with_reducible show wpAny _ _ (exec (Stmt.For _ _ _ _ _) _) _ _ _)); (fail_if_success (with_reducible show wpAny _ _ (exec (Stmt.While _ _ _ _) _) _ _ _)); (fail_if_success (with_reducible show wpAny _ _ (eval (Expr.ListComp _ _ _ _) _) _ _ _)); (fail_if_success (with_reducible show wpAny _ _ (pyIter _) _ _ _)); (fail_if_success (with_reducible show wpAny _ _ (exec (Stmt.Assign _ (Expr.ListComp _ _ _ _) _) _) _ _ _)); (fail_if_success (with_reducible show TurnPost _ _ _ _ _ _ _ _ _)); first | (k_unfold; (try dsimp only)) | walk1 | (dsimp only; walk1)))
  rename_i L8 _ _ _ _ _ oC0 oE8 oN8 oR8 dC0 dE8 dN8 dR8 C8 h8 l8 h9 oC8 F8 N8 dC8
  replace dE8 : oE8.data = .cell (some (.int stop u2)) := dE8
  replace dN8 : oN8.data = .cell (some (.int node u1)) := dN8
  replace dR8 : oR8.data = .cell (some (.ref rl)) := dR8
  have l81 := l8.1
  have l82 := l8.2.1
  have l83 := l8.2.2.1
  have l84 := l8.2.2.2
  clear l8
  have hC1 := neN (Nat.ne_of_gt l81)
  have hC2 := neN (Nat.ne_of_gt l82)
  have hC3 := neN (Nat.ne_of_gt l83)
  have hC4 := neN (Nat.ne_of_gt l84)
  refine whileW (fun n m nx => ∃ (ar : Array Value) (nn : Nat) (pre : List Int) (k : Int), nx = [(C8, W.listOf ar nn), (L8 + 1 + 1 + 1 + 1, oC8), (L8 + 1 + 1 + 1, oE8), (L8 + 1 + 1, oN8), (L8 + 1, oR8)] ∧ IntsAre ar.toList (pre ++ [k]) ∧ (∀ l, Chain above k l → Chain above node (pre ++ l)) ∧ (0 ≤ k ∧ k < above.length) ∧ n = k.toNat ∧ pre.length + k.toNat ≤ 100 ∧ m (Str.ofString "above") = some (.ref al)) node.toNat F8 N8 ⟨_, _, [], node, rfl, .cons _ _ .nil, fun l h => h, ⟨hn0, hn1⟩, rfl, by simp; omega, rfl⟩ ?_
  rintro n m₁ nx h tk hJ F₁ N₁ Post hPost
  refine ex4 hJ ?_
  clear hJ
  intro ar nn pre k hx9
  have qe1 := hx9.1
  have hch := hx9.2.1
  have hpre := hx9.2.2.1
  have hk0 := hx9.2.2.2.1.1
  have hk1 := hx9.2.2.2.1.2
  have qe2 := hx9.2.2.2.2.1
  have hpl := hx9.2.2.2.2.2.1
  have hma := hx9.2.2.2.2.2.2
  clear hx9
  subst qe1
  subst qe2
  replace F₁ := Fr.see1 F₁ hma
  have hAl' := lift_list F₁ hAl
  have hb9 : pre.length ≤ 1000 := by omega
  have hCl := isListA (News.get N₁ (.head _))
  (repeat' ((fail_if_success (with_reducible show wpAny _ _ (exec (Stmt.For _ _ _ _ _) _) _ _ _)); (fail_if_success (with_reducible show wpAny _ _ (exec (Stmt.While _ _ _ _) _) _ _ _)); (fail_if_success (with_reducible show wpAny _ _ (eval (Expr.ListComp _ _ _ _) _) _ _ _)); (fail_if_success (with_reducible show wpAny _ _ (pyIter _) _ _ _)); (fail_if_success (with_reducible show wpAny _ _ (exec (Stmt.Assign _ (Expr.ListComp _ _ _ _) _) _) _ _ _)); (fail_if_success (with_reducible show TurnPost _ _ _ _ _ _ _ _ _)); first | (k_unfold; (try dsimp only)) | walk1 | (dsimp only; walk1)))
  · rename (above.getD k.toNat 0 ≠ k) => hne
    with_reducible rename News _ _ _ _ => N9
    with_reducible rename Fr _ _ _ _ => F9
    obtain ⟨hu0, hu1⟩ := hup k hk0 hk1
    refine hPost _ _ ?_
    simp only [WPost]
    refine WEnd.intro (n' := (above.getD k.toNat 0).toNat) ?_ F9 N9 ⟨_, _, pre ++ [k], above.getD k.toNat 0, rfl, intsAre_snoc (by assumption), fun l hl => by rw [List.append_assoc]; exact hpre _ (.step hne hl), ⟨hu0, by omega⟩, rfl, ?_, rfl⟩
    · omega
    · rw [List.length_append, List.length_singleton]; omega
  · rename (above.getD k.toNat 0 = k) => heq
    with_reducible rename News _ _ _ _ => N9
    with_reducible rename Fr _ _ _ _ => F9
    rename (IntsAre ar.toList (pre ++ [k])) => hch
    have hChain : Chain above node (pre ++ [k]) := hpre _ (.stop heq)
    have hcl : (pre ++ [k]).length ≤ 102 := by rw [List.length_append, List.length_singleton]; omega
    generalize pre ++ [k] = chain at *
    refine ListComp_assign (by rfl) (by rfl) rfl (by decide) ?_
    (repeat' ((fail_if_success (with_reducible show wpAny _ _ (exec (Stmt.For _ _ _ _ _) _) _ _ _)); (fail_if_success (with_reducible show wpAny _ _ (exec (Stmt.While _ _ _ _) _) _ _ _)); (fail_if_success (with_reducible show wpAny _ _ (eval (Expr.ListComp _ _ _ _) _) _ _ _)); (fail_if_success (with_reducible show wpAny _ _ (pyIter _) _ _ _)); (fail_if_success (with_reducible show wpAny _ _ (exec (Stmt.Assign _ (Expr.ListComp _ _ _ _) _) _) _ _ _)); (fail_if_success (with_reducible show TurnPost _ _ _ _ _ _ _ _ _)); first | (k_unfold; (try dsimp only)) | walk1 | (dsimp only; walk1)))
    with_reducible rename Fr _ _ _ _ => F8
    refine comp_listS (news := [(C8, W.listOf ar nn), (L8 + 1 + 1 + 1 + 1, oC8), (L8 + 1 + 1 + 1, oE8), (L8 + 1 + 1, oN8), (L8 + 1, oR8)]) (vs := rvs) (Bd := fun v m' => ∃ a b c, m' (Str.ofString "other") = some a ∧ m' (Str.ofString "slash") = some b ∧ m' (Str.ofString "word") = some c ∧ ∃ T, v = .ref T ∧ IsTup s.heap T #[a, b, c]) (fun i ys nx => nx = [(C8, W.listOf ar nn), (L8 + 1 + 1 + 1 + 1, oC8), (L8 + 1 + 1 + 1, oE8), (L8 + 1 + 1, oN8), (L8 + 1, oR8)] ∧ ys.length ≤ i ∧ StrsAre ys (coverOf chain node stop (rows.take i))) rfl ?_ ?_ ?_ (by decide) rfl F8 N9 ⟨rfl, Nat.zero_le _, .nil⟩ ?_ ?_ ?_ ?_ rfl rfl rfl ?_
    · exact lift_list F8 hRl
    · rintro h nx i ys F3 N3 _
      exact lift_list F3 hRl
    · rw [sizeLine_eq, hT.1]; omega
    · refine Puts.three rfl rfl rfl rfl rfl (by decide) (by decide) (by decide) (fun v a b c => ∃ T, v = .ref T ∧ IsTup s.heap T #[a, b, c]) ?_
      rintro i v hv h nx F3 N3 _
      obtain ⟨t, htt, T, k1, k2, k3, rfl, ht3⟩ := hT.2 i v hv
      exact ⟨T, _, _, _, rfl, F3.tup ht3, T, rfl, ht3⟩
    · refine .inr ⟨⟨_, _, _, rfl⟩, fun i v hv => ?_⟩
      obtain ⟨t, htt, T, k1, k2, k3, rfl, ht3⟩ := hT.2 i v hv
      exact ⟨T, rfl⟩
    · rintro i ys nx ⟨_, e, _⟩; exact e
    · rintro i v ys nx h tk I2 oI2 C oC D m₂ hi hv hJ hoC hb9 F3 N3 No hoff2 hCD hIC hID Y Z hY hZ
      have qe1 := hJ.1
      have hyl := hJ.2.1
      have hys := hJ.2.2
      clear hJ
      subst qe1
      refine told_bind hT hv hb9 ?_
      clear hb9
      intro o1 o2 o3 k1 k2 k3 htt hm1 hm2 hm3
      have N5 := news_in2 N3 No
      clear N3 No
      have hta := filter_take_succ (fun r : Tell => chain.any (· == r.1) && (r.1 != node || decide (r.2.1 ≤ stop))) rows i _ htt
      dsimp only at hta
      refine wpAny_tests_one ?_
      (repeat' ((fail_if_success (with_reducible show wpAny _ _ (exec (Stmt.For _ _ _ _ _) _) _ _ _)); (fail_if_success (with_reducible show wpAny _ _ (exec (Stmt.While _ _ _ _) _) _ _ _)); (fail_if_success (with_reducible show wpAny _ _ (eval (Expr.ListComp _ _ _ _) _) _ _ _)); (fail_if_success (with_reducible show wpAny _ _ (pyIter _) _ _ _)); (fail_if_success (with_reducible show wpAny _ _ (exec (Stmt.Assign _ (Expr.ListComp _ _ _ _) _) _) _ _ _)); (fail_if_success (with_reducible show TurnPost _ _ _ _ _ _ _ _ _)); first | (k_unfold; (try dsimp only)) | walk1 | (dsimp only; walk1)))
      all_goals (with_reducible rename News _ _ _ _ => N6
                 with_reducible rename Fr _ _ _ _ => F6
                 have N7 := (one_leaf N6).1
                 have No7 := (one_leaf N6).2
                 first | refine hY _ _ ?_ | refine hZ _ ?_
                 refine CEnd.intro _ F6 N7 No7 hoff2 ⟨rfl, ?_, ?_⟩)
      · rw [List.length_append, List.length_singleton]; omega
      · rename (List.any chain _ = _) => q1
        rename (o1 ≠ node) => q2
        unfold coverOf
        rw [hta, q1, bne_iff_ne.mpr q2, Bool.true_or, Bool.and_true, if_pos rfl, List.map_append]
        exact strsAre_snocL hys
      · rw [List.length_append, List.length_singleton]; omega
      · rename (List.any chain _ = _) => q1
        rename (o2 ≤ stop) => q2
        unfold coverOf
        rw [hta, q1, decide_eq_true q2, Bool.or_true, Bool.and_true, if_pos rfl, List.map_append]
        exact strsAre_snocL hys
      · omega
      · rename (List.any chain _ = _) => q1
        rename (o1 = node) => q2
        rename (¬ o2 ≤ stop) => q3
        unfold coverOf
        rw [hta, q1, show (o1 != node) = false from bne_eq_false_iff_eq.mpr q2, decide_eq_false q3, Bool.or_false, Bool.and_false, if_neg Bool.false_ne_true, List.append_nil]
        exact hys
      · omega
      · rename (List.any chain _ = _) => q1
        unfold coverOf
        rw [hta, q1, Bool.false_and, if_neg Bool.false_ne_true, List.append_nil]
        exact hys
    · intro D h tk ys nx hJ N6 hD F6
      have qe1 := hJ.1
      have hyl := hJ.2.1
      have hys := hJ.2.2
      clear hJ
      subst qe1
      rw [List.take_of_length_le (by rw [hT.1]; exact Nat.le_refl _)] at hys
      (repeat' ((fail_if_success (with_reducible show wpAny _ _ (exec (Stmt.For _ _ _ _ _) _) _ _ _)); (fail_if_success (with_reducible show wpAny _ _ (exec (Stmt.While _ _ _ _) _) _ _ _)); (fail_if_success (with_reducible show wpAny _ _ (eval (Expr.ListComp _ _ _ _) _) _ _ _)); (fail_if_success (with_reducible show wpAny _ _ (pyIter _) _ _ _)); (fail_if_success (with_reducible show wpAny _ _ (exec (Stmt.Assign _ (Expr.ListComp _ _ _ _) _) _) _ _ _)); (fail_if_success (with_reducible show TurnPost _ _ _ _ _ _ _ _ _)); first | (k_unfold; (try dsimp only)) | walk1 | (dsimp only; walk1)))
      refine ListComp_open2 (by rfl) rfl (by decide) ?_
      (repeat' ((fail_if_success (with_reducible show wpAny _ _ (exec (Stmt.For _ _ _ _ _) _) _ _ _)); (fail_if_success (with_reducible show wpAny _ _ (exec (Stmt.While _ _ _ _) _) _ _ _)); (fail_if_success (with_reducible show wpAny _ _ (eval (Expr.ListComp _ _ _ _) _) _ _ _)); (fail_if_success (with_reducible show wpAny _ _ (pyIter _) _ _ _)); (fail_if_success (with_reducible show wpAny _ _ (exec (Stmt.Assign _ (Expr.ListComp _ _ _ _) _) _) _ _ _)); (fail_if_success (with_reducible show TurnPost _ _ _ _ _ _ _ _ _)); first | (k_unfold; (try dsimp only)) | walk1 | (dsimp only; walk1)))
      have hchl := intsAre_length hch
      refine comp_list2N (news := [(D, lst ys), (C8, W.listOf ar nn), (L8 + 1 + 1 + 1 + 1, oC8), (L8 + 1 + 1 + 1, oE8), (L8 + 1 + 1, oN8), (L8 + 1, oR8)]) (vs := ar.toList) (Bd := fun v m' => m' (Str.ofString "up") = some v) (fun i zs nx => nx = [(D, lst ys), (C8, W.listOf ar nn), (L8 + 1 + 1 + 1 + 1, oC8), (L8 + 1 + 1 + 1, oE8), (L8 + 1 + 1, oN8), (L8 + 1, oR8)] ∧ zs.length ≤ i * 100 ∧ StrsAre zs (aboveOf (chain.take i) rows)) rfl ?_ ?_ (by decide) rfl F6 N6 ⟨rfl, Nat.zero_le _, .nil⟩ (by intro _ _; rfl) (Puts.name rfl rfl) ⟨_, _, rfl⟩ ?_ ?_
      · exact isList_of (News.get N6 (.tail _ (.head _)))
      · rintro h nx i zs F3 N3 ⟨rfl, _⟩
        exact isList_of (News.get N3 (.tail _ (.head _)))
      · rintro i v zs nx h tk I2 oI2 C oC D2 m₂ hi hv hJ hoC hb F3 N3 No hoff2 hCD hIC hID Y Z hY hZ
        have qe1 := hJ.1
        have hzl := hJ.2.1
        have hzs := hJ.2.2
        clear hJ
        subst qe1
        refine ex2 (intsAre_get hch hv) ?_
        intro up uu hx9
        have qe1 := hx9.1
        have hup2 := hx9.2
        clear hx9
        subst qe1
        have N5 := news_in2 N3 No
        clear N3 No
        refine wpAny_tests_nil ?_
        rw [if_pos rfl]
        (repeat' ((fail_if_success (with_reducible show wpAny _ _ (exec (Stmt.For _ _ _ _ _) _) _ _ _)); (fail_if_success (with_reducible show wpAny _ _ (exec (Stmt.While _ _ _ _) _) _ _ _)); (fail_if_success (with_reducible show wpAny _ _ (eval (Expr.ListComp _ _ _ _) _) _ _ _)); (fail_if_success (with_reducible show wpAny _ _ (pyIter _) _ _ _)); (fail_if_success (with_reducible show wpAny _ _ (exec (Stmt.Assign _ (Expr.ListComp _ _ _ _) _) _) _ _ _)); (fail_if_success (with_reducible show TurnPost _ _ _ _ _ _ _ _ _)); first | (k_unfold; (try dsimp only)) | walk1 | (dsimp only; walk1)))
        have hta2 : aboveOf (chain.take (i + 1)) rows = aboveOf (chain.take i) rows ++ overOf rows up := by
          unfold aboveOf
          rw [List.take_add_one, hup2, Option.toList_some, List.flatMap_append, List.flatMap_singleton]
        have hi9 : i < chain.length := by omega
        have hzl9 : zs.length ≤ 102 * 100 := Nat.le_trans hzl (Nat.mul_le_mul_right _ (by omega))
        refine inner_list (news := [(I2, oI2), (D, lst ys), (C8, W.listOf ar nn), (L8 + 1 + 1 + 1 + 1, oC8), (L8 + 1 + 1 + 1, oE8), (L8 + 1 + 1, oN8), (L8 + 1, oR8)]) (vs := rvs) (Bo := fun m' => m' (Str.ofString "up") = some (.int up uu)) (Bd := fun v m' => ∃ a b c, m' (Str.ofString "other") = some a ∧ m' (Str.ofString "slash") = some b ∧ m' (Str.ofString "word") = some c ∧ ∃ T, v = .ref T ∧ IsTup s.heap T #[a, b, c]) (fun j ws nx => nx = [(I2, oI2), (D, lst ys), (C8, W.listOf ar nn), (L8 + 1 + 1 + 1 + 1, oC8), (L8 + 1 + 1 + 1, oE8), (L8 + 1 + 1, oN8), (L8 + 1, oR8)] ∧ ws.length ≤ j ∧ StrsAre ws (overOf (rows.take j) up)) rfl ?_ ?_ ?_ F3 N5 hoC hb ?_ hCD ⟨rfl, Nat.zero_le _, .nil⟩ ?_ ?_ ?_ ?_ ?_
        · exact lift_list F3 hRl
        · rintro h nx i ys F3 N3 _
          exact lift_list F3 hRl
        · rw [sizeLine_eq, hT.1]; omega
        · intro p hp
          rcases List.mem_cons.mp hp with rfl | hp
          · exact ⟨hID, hIC⟩
          · exact ⟨(hoff2 p hp).1, (hoff2 p hp).2.1⟩
        · refine Puts2.three rfl rfl rfl rfl rfl (by decide) (by decide) (by decide) (fun v a b c => ∃ T, v = .ref T ∧ IsTup s.heap T #[a, b, c]) ?_ ?_
          · intro m' a b c hbo
            exact hbo
          · rintro i v hv h nx F3 N3 _
            obtain ⟨t, htt, T, k1, k2, k3, rfl, ht3⟩ := hT.2 i v hv
            exact ⟨T, _, _, _, rfl, F3.tup ht3, T, rfl, ht3⟩
        · refine .inr ⟨⟨_, _, _, rfl⟩, fun i v hv => ?_⟩
          obtain ⟨t, htt, T, k1, k2, k3, rfl, ht3⟩ := hT.2 i v hv
          exact ⟨T, rfl⟩
        · rintro i ys nx ⟨_, e, _⟩; exact e
        · rintro j v ws nx h tk I3 oI3 oC m₂ hj hv2 hJ hoC hb9 hbo F3 N3 No hoff3 hIC3 hID3 Y3 Z3 hY3 hZ3
          have qe1 := hJ.1
          have hwl := hJ.2.1
          have hws := hJ.2.2
          clear hJ
          subst qe1
          refine told_bind hT hv2 hb9 ?_
          clear hb9
          intro o1 o2 o3 k1 k2 k3 htt hm1 hm2 hm3
          have N5 := news_in2 N3 No
          clear N3 No
          have hta := filter_take_succ (fun r : Tell => r.1 == up && r.2.1 == 0) rows j _ htt
          dsimp only at hta
          refine wpAny_tests_one ?_
          (repeat' ((fail_if_success (with_reducible show wpAny _ _ (exec (Stmt.For _ _ _ _ _) _) _ _ _)); (fail_if_success (with_reducible show wpAny _ _ (exec (Stmt.While _ _ _ _) _) _ _ _)); (fail_if_success (with_reducible show wpAny _ _ (eval (Expr.ListComp _ _ _ _) _) _ _ _)); (fail_if_success (with_reducible show wpAny _ _ (pyIter _) _ _ _)); (fail_if_success (with_reducible show wpAny _ _ (exec (Stmt.Assign _ (Expr.ListComp _ _ _ _) _) _) _ _ _)); (fail_if_success (with_reducible show TurnPost _ _ _ _ _ _ _ _ _)); first | (k_unfold; (try dsimp only)) | walk1 | (dsimp only; walk1)))
          all_goals (with_reducible rename News _ _ _ _ => N6
                     with_reducible rename Fr _ _ _ _ => F6
                     have N7 := (two_leaf N6).1
                     have No7 := (two_leaf N6).2
                     first | refine hY3 _ _ ?_ | refine hZ3 _ ?_
                     refine CEnd.intro _ F6 N7 No7 hoff3 ⟨rfl, ?_, ?_⟩)
          · rw [List.length_append, List.length_singleton]; omega
          · rename (_ = true) => hc
            unfold overOf
            rw [hta, if_pos hc, List.map_append]
            exact strsAre_snocL hws
          · omega
          · rename (_ = false) => hc
            unfold overOf
            rw [hta, hc, if_neg Bool.false_ne_true, List.append_nil]
            exact hws
        · rintro h tk oC m₂ ws nx hoC hbo F3 N3 hoff3 ⟨rfl, hwl, hws⟩
          rw [List.take_of_length_le (by rw [hT.1]; exact Nat.le_refl _)] at hws
          refine hY _ _ ⟨h, tk, _, oC, m₂, zs ++ ws, rfl, hoC, F3, (news_out N3).1, (news_out N3).2, hoff2, rfl, ?_, ?_⟩
          · rw [List.length_append]
            have := hT.1
            omega
          · rw [hta2]
            exact strsAre_append hzs hws
      · intro D2 h tk zs nx hJ N6 hD2 F6
        have qe1 := hJ.1
        have hzl := hJ.2.1
        have hzs := hJ.2.2
        clear hJ
        subst qe1
        rw [List.take_of_length_le (by rw [hchl]; exact Nat.le_refl _)] at hzs
        (repeat' ((fail_if_success (with_reducible show wpAny _ _ (exec (Stmt.For _ _ _ _ _) _) _ _ _)); (fail_if_success (with_reducible show wpAny _ _ (exec (Stmt.While _ _ _ _) _) _ _ _)); (fail_if_success (with_reducible show wpAny _ _ (eval (Expr.ListComp _ _ _ _) _) _ _ _)); (fail_if_success (with_reducible show wpAny _ _ (pyIter _) _ _ _)); (fail_if_success (with_reducible show wpAny _ _ (exec (Stmt.Assign _ (Expr.ListComp _ _ _ _) _) _) _ _ _)); (fail_if_success (with_reducible show TurnPost _ _ _ _ _ _ _ _ _)); first | (k_unfold; (try dsimp only)) | walk1 | (dsimp only; walk1)))
        with_reducible rename News _ _ _ _ => N9
        with_reducible rename Fr _ _ _ _ => F9
        have N10 := due_made N9
        exact Fin.intro (hret _ _ _ F9.keep ⟨_, D, D2, ys.toArray, zs.toArray, _, _, _, chain, rfl, N10, hChain, hys, hzs⟩)
end
section
set_option maxRecDepth 100000 in
set_option maxHeartbeats 1000000 in
theorem kind_call (w : World) (n x : Str) (u1 u2 : Tok) :
    Spec w 90 [.str n u1, .str x u2] 3 16 (fun h => True) (fun h h' r => ∃ t, r = .str (Str.ofString "") t) := by
  unfold Spec
  k_fill
  intro mean mg mb dp un gd cn cs a ccd cl outer A₀ base h₀ L m s Q B F X T hk hdp hun hpre hret
  (refine' enterH ?k1 ?k2 ?k3 ?k5 ?kA ?kF ?kK ?k6 ?k7 ?k8 ?k9 ?kB ?_ ?c2 ?c3 ?c4 ?c5; (case kA => exact rfl); (case kF => exact rfl); (case kK => assumption); (case k1 => k_asm); (case k2 => k_asm); (case k3 => k_asm); (case k5 => k_asm); (case k6 => k_is); (case k7 => k_is); (case k8 => ktr_room); (case k9 => exact BindsTo.of_eq rfl); (case c5 => decide); (case kB => exact locs rfl); (case c2 => exact rfl); (case c3 => exact rfl); (case c4 => exact rfl); k_whole; intro _ _ _ _ _ _ _; (try dsimp only); (try k_fold))
  (repeat' ((fail_if_success (with_reducible show wpAny _ _ (exec (Stmt.For _ _ _ _ _) _) _ _ _)); (fail_if_success (with_reducible show wpAny _ _ (exec (Stmt.While _ _ _ _) _) _ _ _)); (fail_if_success (with_reducible show wpAny _ _ (eval (Expr.ListComp _ _ _ _) _) _ _ _)); (fail_if_success (with_reducible show wpAny _ _ (pyIter _) _ _ _)); (fail_if_success (with_reducible show wpAny _ _ (exec (Stmt.Assign _ (Expr.ListComp _ _ _ _) _) _) _ _ _)); (fail_if_success (with_reducible show TurnPost _ _ _ _ _ _ _ _ _)); first | (k_unfold; (try dsimp only)) | walk1 | (dsimp only; walk1)))
  with_reducible rename Fr _ _ _ _ => F9
  exact Fin.intro (hret _ _ _ F9.keep ⟨_, rfl⟩)
local macro_rules | `(tactic| walk_at "call ref") => `(tactic| (k_here; k_dflt (refine Spec.use (kind_call _ _ _ _ _) (by k_asm) (by k_asm) (by k_asm) (by k_asm) (by k_asm) rfl (by ktr_room) (by ktr_units) trivial ?_); rintro r hZ tkZ FZ NZ keZ ⟨tZ, eZ⟩; subst eZ))
set_option maxRecDepth 100000 in
set_option maxHeartbeats 1000000 in
theorem fspath_call (w : World) (n x : Str) (u1 u2 : Tok) :
    Spec w 97 [.str n u1, .str x u2] 6 22 (fun h => True) (fun h h' r => r = .str x u2) := by
  unfold Spec
  k_fill
  intro mean mg mb dp un gd cn cs a ccd cl outer A₀ base h₀ L m s Q B F X T hk hdp hun hpre hret
  (refine' enterH ?k1 ?k2 ?k3 ?k5 ?kA ?kF ?kK ?k6 ?k7 ?k8 ?k9 ?kB ?_ ?c2 ?c3 ?c4 ?c5; (case kA => exact rfl); (case kF => exact rfl); (case kK => assumption); (case k1 => k_asm); (case k2 => k_asm); (case k3 => k_asm); (case k5 => k_asm); (case k6 => k_is); (case k7 => k_is); (case k8 => ktr_room); (case k9 => exact BindsTo.of_eq rfl); (case c5 => decide); (case kB => exact locs rfl); (case c2 => exact rfl); (case c3 => exact rfl); (case c4 => exact rfl); k_whole; intro _ _ _ _ _ _ _; (try dsimp only); (try k_fold))
  (repeat' ((fail_if_success (with_reducible show wpAny _ _ (exec (Stmt.For _ _ _ _ _) _) _ _ _)); (fail_if_success (with_reducible show wpAny _ _ (exec (Stmt.While _ _ _ _) _) _ _ _)); (fail_if_success (with_reducible show wpAny _ _ (eval (Expr.ListComp _ _ _ _) _) _ _ _)); (fail_if_success (with_reducible show wpAny _ _ (pyIter _) _ _ _)); (fail_if_success (with_reducible show wpAny _ _ (exec (Stmt.Assign _ (Expr.ListComp _ _ _ _) _) _) _ _ _)); (fail_if_success (with_reducible show TurnPost _ _ _ _ _ _ _ _ _)); first | (k_unfold; (try dsimp only)) | walk1 | (dsimp only; walk1)))
  with_reducible rename Fr _ _ _ _ => F9
  exact Fin.intro (hret _ _ _ F9.keep rfl)
noncomputable def headRaw (p : Str) : Str := Txt.slice p none (some (Txt.rfind p (Str.ofString "/") + 1))
noncomputable def headOf (p : Str) : Str := if ((headRaw p).length : Int) ≠ 0 ∧ (headRaw p != Txt.mul (Str.ofString "/") ((headRaw p).length : Int)) = true then Txt.rstripChars (headRaw p) (Str.ofString "/") else headRaw p
noncomputable def tailOf (p : Str) : Str := Txt.slice p (some (Txt.rfind p (Str.ofString "/") + 1)) none
theorem made_one {h₀ h : Heap} {L : Addr} {t : Addr × Obj} {l : Led} (N : News h₀ L h (t :: l)) : Made h₀ h [t] := fun p hp => by
  have := N p (by rw [List.mem_singleton.mp hp]; exact .head _)
  exact ⟨this.1, this.2.2⟩
local macro_rules | `(tactic| walk_at "call ref") => `(tactic| (k_here; k_dflt (refine Spec.use (fspath_call _ _ _ _ _) (by k_asm) (by k_asm) (by k_asm) (by k_asm) (by k_asm) rfl (by ktr_room) (by ktr_units) trivial ?_); rintro r hZ tkZ FZ NZ keZ eZ; subst eZ))
set_option maxRecDepth 100000 in
set_option maxHeartbeats 1000000 in
theorem split_call (w : World) (x : Str) (u2 : Tok) (hx : x.length ≤ 1010) :
    Spec w 104 [.str x u2] 9 28 (fun h => True) (fun h h' r => ∃ d t1 t2 n, r = .ref d ∧ Made h h' [(d, ({ cls := .type "tuple", data := .seq #[.str (headOf x) t1, .str (tailOf x) t2] n } : Obj))]) := by
  unfold Spec
  k_fill
  intro mean mg mb dp un gd cn cs a ccd cl outer A₀ base h₀ L m s Q B F X T hk hdp hun hpre hret
  (refine' enterH ?k1 ?k2 ?k3 ?k5 ?kA ?kF ?kK ?k6 ?k7 ?k8 ?k9 ?kB ?_ ?c2 ?c3 ?c4 ?c5; (case kA => exact rfl); (case kF => exact rfl); (case kK => assumption); (case k1 => k_asm); (case k2 => k_asm); (case k3 => k_asm); (case k5 => k_asm); (case k6 => k_is); (case k7 => k_is); (case k8 => ktr_room); (case k9 => exact BindsTo.of_eq rfl); (case c5 => decide); (case kB => exact locs rfl); (case c2 => exact rfl); (case c3 => exact rfl); (case c4 => exact rfl); k_whole; intro _ _ _ _ _ _ _; (try dsimp only); (try k_fold))
  (repeat' ((fail_if_success (with_reducible show wpAny _ _ (exec (Stmt.For _ _ _ _ _) _) _ _ _)); (fail_if_success (with_reducible show wpAny _ _ (exec (Stmt.While _ _ _ _) _) _ _ _)); (fail_if_success (with_reducible show wpAny _ _ (eval (Expr.ListComp _ _ _ _) _) _ _ _)); (fail_if_success (with_reducible show wpAny _ _ (pyIter _) _ _ _)); (fail_if_success (with_reducible show wpAny _ _ (exec (Stmt.Assign _ (Expr.ListComp _ _ _ _) _) _) _ _ _)); (fail_if_success (with_reducible show TurnPost _ _ _ _ _ _ _ _ _)); first | (k_unfold; (try dsimp only)) | walk1 | (dsimp only; walk1)))
  all_goals (with_reducible rename Fr _ _ _ _ => F9
             with_reducible rename News _ _ _ _ => N9
             have N10 := made_one N9)
  · rename (_ = true) => q2
    rename (_ ≠ _) => q1
    have e : headOf x = Txt.rstripChars (headRaw x) (Str.ofString "/") := if_pos ⟨q1, q2⟩
    exact Fin.intro (hret _ _ _ F9.keep ⟨_, _, _, _, rfl, by rw [e]; exact N10⟩)
  · rename (_ = false) => q2
    have e : headOf x = headRaw x := if_neg (by rintro ⟨_, q⟩; exact Bool.false_ne_true (q2.symm.trans q))
    exact Fin.intro (hret _ _ _ F9.keep ⟨_, _, _, _, rfl, by rw [e]; exact N10⟩)
  · rename (_ = (0 : Int)) => q1
    have e : headOf x = headRaw x := if_neg (by rintro ⟨q, _⟩; exact q q1)
    exact Fin.intro (hret _ _ _ F9.keep ⟨_, _, _, _, rfl, by rw [e]; exact N10⟩)
end
section
noncomputable def trunc (h : Heap) (n : Nat) : Heap := ⟨h.objs.extract 0 n, h.life⟩
theorem trunc_at (h : Heap) (n b : Nat) : (trunc h n).objs[b]? = if b < n then h.objs[b]? else none := by
  show (h.objs.extract 0 n)[b]? = _
  rw [Array.getElem?_extract, Nat.zero_add, Nat.sub_zero]
  by_cases hb : b < n
  · rw [if_pos hb]
    by_cases hs : b < h.objs.size
    · rw [if_pos (by omega)]
    · rw [if_neg (by omega), Array.getElem?_eq_none (by omega)]
  · rw [if_neg hb, if_neg (by omega)]
theorem trunc_get {h : Heap} {n : Nat} {b : Addr} {o : Obj} (e : (trunc h n).get? b = some o) : h.get? b = some o := by
  unfold Heap.get? at e ⊢
  rw [trunc_at h n b] at e
  by_cases hb : @LT.lt Nat _ b n
  · rw [if_pos hb] at e; exact e
  · rw [if_neg hb] at e; cases e
theorem trunc_of {h : Heap} {n : Nat} {b : Addr} {o : Obj} (e : h.get? b = some o) (hb : @LT.lt Nat _ b n) : (trunc h n).get? b = some o := by
  unfold Heap.get? at e ⊢
  rw [trunc_at h n b, if_pos hb]; exact e
theorem trunc_size (h : Heap) (n : Nat) : (trunc h n).objs.size ≤ n := by
  show (h.objs.extract 0 n).size ≤ n
  simp; omega
theorem below_trunc {A₀ A : Around} {base h₀ h : Heap} {outer : List Env} {L : Addr} {m : Str → Option Value} {env : Env} {n : Nat} (B : Below A₀ base outer h₀) (F : Fr h₀ L h m) (hL : L < n) (hA : A.frames = some (env :: outer)) (hf : env.frame = some L) (hke : env.scope.kind = .function) :
    Below A base (env :: outer) (trunc h n) ∧ h₀.StaysIn (trunc h n) := by
  have st : h₀.StaysIn (trunc h n) := fun b o e => trunc_of (F.keep b o e) (Nat.lt_of_lt_of_le (Heap.lt_size e) (Nat.le_trans F.above (Nat.le_of_lt hL)))
  have F₁ : Fr h₀ L (trunc h n) m := ⟨F.ns.at' fun o e => trunc_of e hL, st, F.above⟩
  have B₁ := pushX (A := A₀) B F₁ hf hke
  exact ⟨⟨hA, B₁.stays, B₁.frames⟩, st⟩
section
variable {prog : Program} {w : World} {A A₀ : Around} {s : Shared} {K : Frag} {L : Addr} {h₀ base : Heap} {m mg mb : Str → Option Value} {p : Program} {loose : List Str} {mean : ExcName → Option Value} {Q : Value → Shared → Prop}
theorem enterG {name qual : Str} {params : Arguments} {body : List Stmt} {scope : Scope} {dV kV doc pm cdv ct oc : Value} {an od : Option Addr} {osl : Array (Option Value)} {f : Addr} {vs : List Value} {binds : List (Str × Value)}
    (F : Fr h₀ L s.heap m) (X₀ : K.In h₀) (T : Top p loose mean mg mb h₀)
    (ho : K.lookup f = some ⟨oc, od, .func (fnOf name qual params body scope dV kV doc pm an cdv ct), osl⟩) (hcd : codeIn K cdv qual = true) (hroom : A.depth < recursionLimit)
    (hbind : BindsTo s (fnOf name qual params body scope dV kV doc pm an cdv ct) ⟨vs, []⟩ binds) (hloc : ∀ y ∈ binds, scope.names.lookup y.1 = some .local)
    (h : ∀ h₁ tk ga og, h₁.Ns s.heap.objs.size (fun y => binds.reverse.lookup y) → (∀ b o, s.heap.get? b = some o → h₁.get? b = some o) → h₁.get? ga = some og → h₁.IsGen ga s.gens.size → s.heap.objs.size < ga →
      Q (.ref ga) { s with heap := h₁, toks := tk, gens := s.gens.push (.fresh (.func body (envOf qual scope s.heap.objs.size f cdv))) })
    (hco : scope.isCoroutine = false) (hgen : scope.isGenerator = true) (hk : scope.kind = .function)
    (hcell : ∀ x ∈ scope.names, x.2 ≠ .cell) : wpAny (model prog w) A (call (.ref f) vs) Q (fun _ _ => False) s := by
  refine wpAny_call (codeAny_call_generator (fd := fnX name qual params body scope [] dV kV doc pm an cdv ct) hroom ((X₀.keeps F.keep) _ _ ho) rfl hco hgen rfl (codeRec_of (X₀.keeps F.keep) hcd) (hbind _ _ _ _ ?_))
  refine wpAny_newFunctionEnv hcell hloc (fun h₁ hns hsb => ?_) hk
  have keep : ∀ b o, s.heap.get? b = some o → h₁.get? b = some o := fun b o e => hsb.extBut b o (Nat.ne_of_lt (Heap.lt_size e)) (Heap.get?_push_of_some _ e)
  refine ⟨(T.nolimit.keeps F.keep).keeps keep, ?_⟩
  have hsz : h₁.objs.size = s.heap.objs.size + 1 := by rw [hsb.1, Heap.size_push]
  refine h _ _ _ _ (hns.push _) (fun b o e => Heap.get?_push_of_some _ (keep b o e)) (Heap.get?_push_size _ rfl) ⟨_, _, _, Heap.get?_push_size _ rfl, rfl, rfl, rfl⟩ (by rw [hsz]; exact Nat.lt_succ_self _)
end
section
open PySem.Sem
variable {prog : Program} {w : World} {A : Around} {E : Value → Shared → Prop} {s : Shared}
theorem wpAny_pyNext_genQ {a : Addr} {g n : Nat} {gs : GenState} {P : Nat → Shared → Shared → Prop} {Y : Protocol} {Q : Option Value → Shared → Prop} (hh : A.handled = none)
    (hl : s.heap.NoLimit) (hroom : A.depth < recursionLimit)
    (hg : s.heap.IsGen a g) (hgs : s.gens[g]? = some gs)
    (hgo : gs.Goes (model prog w) A.in1 (fun n s₀ r s₁ => r = .ok (.ret .none) ∧ P n s₀ s₁) Y n (.send .none) (s.setGen g .running))
    (hY : ∀ v s₁ gs', gs'.bare = true → Y (n - 1) (s.setGen g .running) v s₁ (fun r' s'' => match n with
        | 0 => False
        | m + 1 => gs'.Goes (model prog w) A.in1 (fun n s₀ r s₁ => r = .ok (.ret .none) ∧ P n s₀ s₁) Y m r' s'') → Q (some v) (s₁.setGen g gs'))
    (hP : ∀ s₁, P n (s.setGen g .running) s₁ → ∀ h', (∀ b o, s₁.heap.get? b = some o → h'.get? b = some o) → Q none { s₁.setGen g .finished with heap := h' }) :
    wpAny (model prog w) A (pyNext (.ref a)) Q E s := by
  unfold pyNext
  refine wpAny_bind (wpAny_attempt (wpAny_callSpecial?_slot (name := Str.ofString "__next__") hg.typeIs PySem.slot_gen_next
    (wpAny_call_entry PySem.slot_gen_next hg.typeIs PySem.entry_gen_next ?_ (PySem.args_gen_next _))))
  show wpAny _ _ (Builtin.Generator.genWake (.ref a) (.send .none)) _ _ s
  unfold Builtin.Generator.genWake
  refine wpAny_bind (wpAny_holding (wpAny_genNumber hg (wpAny_bind (wpAny_genState hgs ?_))))
  cases gs with
  | running => exact hgo.elim
  | finished => exact hgo.elim
  | _ =>
    refine wpAny_bind (wpAny_roomToWake hl hroom ?_)
    show wpAny _ _ (.resume g (.send .none) [] _) _ _ s
    refine wpAny_resumeQ hgs hgo (fun x s₁ hx => ?_) (fun v s₁ gs' hb hv => ?_)
    · obtain ⟨rfl, hp⟩ := hx
      show wpAny _ _ (newExc (.type "StopIteration") [] >>= _) _ _ _
      refine wpAny_bind ?_
      simp only [newExc, newTuple]
      refine wpAny_bind (wpAny_newObj_type ?_ (by size_fits))
      refine wpAny_bind (m := firstArgMember _ _) (wpAny_of_eq (a := Value.none) (by first | rfl | (simp only [firstArgMember]; rfl)) ?_)
      refine wpAny_newObj_type ?_ (by size_fits)
      simp only [raiseNew]
      refine wpAny_bind (wpAny_bind (wpAny_handled ?_))
      rw [show A.in1.handled = none from hh]
      refine wpAny_throw ?_
      refine wpAny_bind (wpAny_isInstance (T := "StopIteration") (b := true) ⟨_, Heap.get?_push_size _ rfl, rfl⟩ isSubtype_stop ?_)
      exact wpAny_pure (hP s₁ hp _ fun b o hb => Heap.get?_push_of_some _ (Heap.get?_push_of_some _ hb))
    · exact wpAny_pure ⟨v, rfl, wpAny_pure (hY v s₁ gs' hb hv)⟩
end
inductive Anc : Str → List Str → Prop
  | stop {p : Str} : (Txt.rstripChars p (Str.ofString "/")).length = 0 → Anc p []
  | step {p : Str} {l : List Str} : (Txt.rstripChars p (Str.ofString "/")).length ≠ 0 → Anc (headOf p) l → Anc p (p :: l)
noncomputable def Kept (Lg : Addr) (h h' : Heap) : Prop := ∀ b o, b ≠ Lg → h.get? b = some o → h'.get? b = some o
noncomputable def Since (Lg : Addr) (s s' : Shared) : Prop := ∃ h tk, s' = { s with heap := h, toks := tk } ∧ Kept Lg s.heap h
theorem Since.refl (Lg : Addr) (s : Shared) : Since Lg s s := ⟨s.heap, s.toks, rfl, fun _ _ _ e => e⟩
theorem Since.step {Lg : Addr} {s s' : Shared} {h : Heap} {tk : Nat} (x : Since Lg s s') (k : Kept Lg s'.heap h) : Since Lg s { s' with heap := h, toks := tk } := by
  obtain ⟨h₁, t₁, rfl, k₁⟩ := x
  exact ⟨h, tk, rfl, fun b o hb e => k b o hb (k₁ b o hb e)⟩
noncomputable def PathAt (m : Str → Option Value) (p : Str) : Prop := ∃ t, m (Str.ofString "path") = some (.str p t)
noncomputable abbrev ancR (Lg : Addr) : GenEnd := fun n s₀ r s₁ => r = .ok (.ret .none) ∧ (n = 0 ∧ Since Lg s₀ s₁)
noncomputable def ancY (Lg : Addr) (Ok : Heap → (Str → Option Value) → Prop) (tot : List Str) : Protocol := fun n s₀ v s₁ kap =>
  (∃ y t, tot[tot.length - 1 - n]? = some y ∧ v = .str y t) ∧ Since Lg s₀ s₁ ∧ ∃ m', Ok s₁.heap m' ∧ ∀ s'', Ok s''.heap m' → kap (.send .none) s''
section
variable {prog : Program} {w : World} {A : Around} {Lg : Addr} {Ok : Heap → (Str → Option Value) → Prop} {tot : List Str} {env : Env} {test e : PySem.Expr} {st1 : Stmt} {ypos epos : Pos} {k : Result → Sem PySem.Fin} {cF : Code}
theorem seg_anc
    (hk : ∀ s₀ s, ancR Lg 0 s₀ (.ok (.ret .none)) s → Seg (model prog w) A (ancR Lg) (ancY Lg Ok tot) 0 s₀ cF (k (.ok .next)) [] s)
    (hco : env.scope.isCoroutine = false) (hi : interactive env = false)
    (S2 : ∀ pp s m p, Ok s.heap m → PathAt m p → p.length ≤ 1010 → wpAny (model prog w) (A.over (.whileLoop test [.Expr (.Yield (some e) ypos) epos, st1] [] env) [.ret k none false [] cF pp []]) (isTrue test env (eval test env))
      (fun b s' => b = decide ((Txt.rstripChars p (Str.ofString "/")).length ≠ 0) ∧ ∃ h tk, s' = { s with heap := h, toks := tk } ∧ Ok h m ∧ Kept Lg s.heap h) (fun _ _ => False) s)
    (S3 : ∀ pp s m p, Ok s.heap m → PathAt m p → wpAny (model prog w) (A.over (.whileLoop test [.Expr (.Yield (some e) ypos) epos, st1] [] env) [.ret k none false [] cF pp []]) (eval e env)
      (fun v s' => (∃ t, v = .str p t) ∧ ∃ h tk, s' = { s with heap := h, toks := tk } ∧ Ok h m ∧ Kept Lg s.heap h) (fun _ _ => False) s)
    (S4 : ∀ pp s m p, Ok s.heap m → PathAt m p → p.length ≤ 1010 → wpAny (model prog w) (A.over (.whileLoop test [.Expr (.Yield (some e) ypos) epos, st1] [] env) [.ret k none false [] cF pp []]) (exec st1 env)
      (fun f s' => f = .next ∧ ∃ h tk m', s' = { s with heap := h, toks := tk } ∧ Ok h m' ∧ PathAt m' (headOf p) ∧ Kept Lg s.heap h) (fun _ _ => False) s)
    (hlen : ∀ p, p.length ≤ 1010 → (headOf p).length ≤ 1010) :
    ∀ (l pre : List Str) (s₀ s : Shared) (m : Str → Option Value) (p : Str) (pp : Pos), Anc p l → tot = pre ++ l → Ok s.heap m → PathAt m p → p.length ≤ 1010 → Since Lg s₀ s →
      Seg (model prog w) A (ancR Lg) (ancY Lg Ok tot) l.length s₀ (.whileLoop test [.Expr (.Yield (some e) ypos) epos, st1] [] env) ((model prog w).den (.whileLoop test [.Expr (.Yield (some e) ypos) epos, st1] [] env)) [.ret k none false [] cF pp []] s := by
  intro l
  induction l with
  | nil =>
    intro pre s₀ s m p pp ha htot hok hp hpl hs
    cases ha with
    | stop hz =>
      refine seg_whileLoop (wpAny_mono (S2 pp s m p hok hp hpl) (fun b s' hb => ?_) fun _ _ x => x.elim)
      have qb := hb.1
      refine ex2 hb.2 ?_
      clear hb
      intro h tk hx9
      have qe1 := hx9.1
      have hok' := hx9.2.1
      have hkp := hx9.2.2
      clear hx9
      subst qe1
      subst qb
      rw [if_neg (by rw [decide_eq_true_iff]; exact fun q => q hz)]
      refine seg_execs_nil ?_
      exact seg_leaf (.ok .next) (hk _ _ ⟨rfl, rfl, hs.step hkp⟩)
  | cons q l ih =>
    intro pre s₀ s m p pp ha htot hok hp hpl hs
    cases ha with
    | step hz ha =>
      refine seg_whileLoop (wpAny_mono (S2 pp s m q hok hp hpl) (fun b s' hb => ?_) fun _ _ x => x.elim)
      have qb := hb.1
      refine ex2 hb.2 ?_
      clear hb
      intro h tk hx9
      have qe1 := hx9.1
      have hok' := hx9.2.1
      have hkp := hx9.2.2
      clear hx9
      subst qe1
      subst qb
      rw [if_pos (by rw [decide_eq_true_iff]; exact hz)]
      refine seg_execs_cons (seg_Expr_Yield rfl rfl rfl (wpAny_mono (S3 pp _ m q hok' hp) (fun v s' hv => ?_) fun _ _ x => x.elim) hco hi)
      have hv1 := hv.1
      refine ex2 hv.2 ?_
      clear hv
      intro h2 tk2 hx9
      have qe1 := hx9.1
      have hok2 := hx9.2.1
      have hkp2 := hx9.2.2
      clear hx9
      subst qe1
      refine ex1 hv1 ?_
      clear hv1
      intro t hx9
      subst hx9
      intro kap hkap
      refine ⟨⟨q, t, ?_, rfl⟩, (hs.step hkp).step hkp2, m, hok2, fun s'' hok3 => hkap .none s'' ?_⟩
      · rw [htot, List.length_append, List.length_cons]
        have : pre.length + (l.length + 1) - 1 - l.length = pre.length := by omega
        rw [this, List.getElem?_append_right (Nat.le_refl _), Nat.sub_self]; rfl
      · refine seg_execs_cons (seg_wrap (wpAny_mono (S4 pp s'' m q hok3 hp hpl) (fun f s' hf => ?_) fun _ _ x => x.elim))
        have qb := hf.1
        refine ex3 hf.2 ?_
        clear hf
        intro h4 tk4 m4 hx9
        have qe1 := hx9.1
        have hok4 := hx9.2.1
        have hp4 := hx9.2.2.1
        have hkp4 := hx9.2.2.2
        clear hx9
        subst qe1
        subst qb
        refine seg_execs_nil ?_
        exact seg_again rfl (ih (pre ++ [q]) s'' _ m4 (headOf q) pp ha (by rw [htot, List.append_assoc]; rfl) hok4 hp4 (hlen q hpl) ((Since.refl Lg s'').step hkp4))
end
noncomputable def ancOwn (prog : Program) (w : World) (A : Around) (h₀ : Heap) (L : Addr) (m : Str → Option Value) (Ok : Heap → (Str → Option Value) → Prop) (ga Lg : Addr) (gi : Nat) (l : List Str) (i : Nat) (s : Shared) (o : Led) : Prop :=
  ∃ og oL mg gs, o = [(ga, og), (Lg, oL)] ∧ s.heap.get? ga = some og ∧ s.heap.get? Lg = some oL ∧ s.heap.IsGen ga gi ∧ NsObj oL mg ∧ Fr h₀ L s.heap m ∧ s.gens[gi]? = some gs ∧
    ∀ s'' : Shared, Ok s''.heap mg → gs.Goes (model prog w) A.in1 (ancR Lg) (ancY Lg Ok l) (l.length - i) (.send .none) s''
theorem bare_set {a : Array GenState} {g : Nat} {x : GenState} (h : AllBare a) (hx : x.bare = true) : AllBare (a.setIfInBounds g x) := by
  intro y hy
  rw [Array.mem_iff_getElem] at hy
  obtain ⟨i, hi, rfl⟩ := hy
  have hi' : i < a.size := by simpa using hi
  rw [Array.getElem_setIfInBounds hi']
  split
  · exact hx
  · exact h _ (Array.getElem_mem _)
theorem Itr.anc {prog : Program} {w : World} {A : Around} {h₀ : Heap} {L : Addr} {m : Str → Option Value} {Ok : Heap → (Str → Option Value) → Prop} {ga Lg : Addr} {gi : Nat} {l : List Str}
    (hh : A.handled = none) (hroom : A.depth < recursionLimit) (hgl : ga ≠ Lg) (hL : L ≠ Lg) (h0 : h₀.get? Lg = none) (hlim : ∀ h, Fr h₀ L h m → h.NoLimit) (hok : ∀ h mg, Fr h₀ L h m → h.Ns Lg mg → Ok h mg) (hns : ∀ h mg, Ok h mg → h.Ns Lg mg) :
    Itr prog w A (fun h => Fr h₀ L h m) ga l.length (fun i v => ∃ y t, l[i]? = some y ∧ v = .str y t) [ga, Lg] (fun a b => AllBare a → AllBare b) (ancOwn prog w A h₀ L m Ok ga Lg gi l) where
  grefl := fun _ x => x
  gtrans := fun _ _ _ x y z => y (x z)
  here := by
    rintro i s o ⟨og, oL, mg, gs, rfl, h1, h2, _⟩ p hp
    simp only [List.mem_cons, List.not_mem_nil, or_false] at hp
    rcases hp with rfl | rfl
    · exact h1
    · exact h2
  adrs := by
    rintro i s o ⟨og, oL, mg, gs, rfl, _⟩
    rfl
  item := by
    intro i s o Q hO hi k
    refine ex4 hO ?_
    clear hO
    intro og oL mg gs hx9
    have qe1 := hx9.1
    have h1 := hx9.2.1
    have h2 := hx9.2.2.1
    have hg := hx9.2.2.2.1
    have hoL := hx9.2.2.2.2.1
    have F := hx9.2.2.2.2.2.1
    have hgs := hx9.2.2.2.2.2.2.1
    have hgo := hx9.2.2.2.2.2.2.2
    clear hx9
    subst qe1
    have hj9 : ∃ j, l.length - i = j + 1 := ⟨l.length - i - 1, by omega⟩
    refine ex1 hj9 ?_
    clear hj9
    intro j hj
    rw [hj] at hgo
    refine wpAny_pyNext_genQ (P := fun n s₀ s₁ => n = 0 ∧ Since Lg s₀ s₁) hh (hlim _ F) hroom hg hgs (hgo _ (hok _ _ F (hoL.ns h2))) (fun v s₁ gs' hb hv => ?_) (fun s₁ hp h' hk => ?_)
    · have hv1 := hv.1
      have hv2 := hv.2.1
      have hv3 := hv.2.2
      clear hv
      refine ex2 hv1 ?_
      clear hv1
      intro y t hx9
      have hy := hx9.1
      have qe1 := hx9.2
      clear hx9
      subst qe1
      refine ex2 hv2 ?_
      clear hv2
      intro h₁ tk₁ hx9
      have qe1 := hx9.1
      have hk₁ := hx9.2
      clear hx9
      subst qe1
      refine ex1 hv3 ?_
      clear hv3
      intro m' hx9
      have hok' := hx9.1
      have hkap := hx9.2
      clear hx9
      refine ex1 (ns_obj (hns _ _ hok')) ?_
      intro oL' hx9
      have e' := hx9.1
      have hoL' := hx9.2
      clear hx9
      have hidx : l.length - 1 - (j + 1 - 1) = i := by omega
      rw [hidx] at hy
      have F₁ : Fr h₀ L h₁ m := ⟨F.ns.at' fun o e => hk₁ _ o hL e, fun b o e => hk₁ b o (fun q => by rw [q, h0] at e; cases e) (F.keep b o e), F.above⟩
      refine k _ h₁ tk₁ _ [(ga, og), (Lg, oL')] ⟨y, t, hy, rfl⟩ ⟨og, oL', m', gs', rfl, hk₁ _ _ hgl h1, e', ?_, hoL', F₁, setGen_self (gs := .running) (setGen_self hgs), fun s'' hok'' => ?_⟩ (fun hab => bare_set (bare_set hab rfl) hb) (fun b ob hb e => hk₁ b ob (fun q => hb (by simp [q])) e)
      · obtain ⟨o', nm, qn, ho', r⟩ := hg
        exact ⟨o', nm, qn, hk₁ _ _ hgl ho', r⟩
      · have : l.length - (i + 1) = j := by omega
        rw [this]
        exact hkap s'' hok''
    · exact absurd hp.1 (Nat.succ_ne_zero j)
  done := by
    intro s o Q hO k
    refine ex4 hO ?_
    clear hO
    intro og oL mg gs hx9
    have qe1 := hx9.1
    have h1 := hx9.2.1
    have h2 := hx9.2.2.1
    have hg := hx9.2.2.2.1
    have hoL := hx9.2.2.2.2.1
    have F := hx9.2.2.2.2.2.1
    have hgs := hx9.2.2.2.2.2.2.1
    have hgo := hx9.2.2.2.2.2.2.2
    clear hx9
    subst qe1
    rw [Nat.sub_self] at hgo
    refine wpAny_pyNext_genQ (P := fun n s₀ s₁ => n = 0 ∧ Since Lg s₀ s₁) hh (hlim _ F) hroom hg hgs (hgo _ (hok _ _ F (hoL.ns h2))) (fun v s₁ gs' hb hv => ?_) (fun s₁ hp h' hk => ?_)
    · obtain ⟨_, _, m', hok', hkap⟩ := hv
      exact (hkap { s₁ with heap := s₁.heap } hok').elim
    · obtain ⟨_, h₁, tk₁, rfl, hk₁⟩ := hp
      exact k h' tk₁ _ (fun hab => bare_set (bare_set hab rfl) rfl) (fun b ob hb e => hk _ _ (hk₁ b ob (fun q => hb (by simp [q])) e))
  self := by
    intro i s o Q hO k
    refine ex4 hO ?_
    clear hO
    intro og oL mg gs hx9
    have qe1 := hx9.1
    have h1 := hx9.2.1
    have h2 := hx9.2.2.1
    have hg := hx9.2.2.2.1
    clear hx9
    subst qe1
    exact wpAny_pyIter_gen hg k
  frame := by
    intro i s s' o hO hk hK hge
    refine ex4 hO ?_
    clear hO
    intro og oL mg gs hx9
    have qe1 := hx9.1
    have h1 := hx9.2.1
    have h2 := hx9.2.2.1
    have hg := hx9.2.2.2.1
    have hoL := hx9.2.2.2.2.1
    have F := hx9.2.2.2.2.2.1
    have hgs := hx9.2.2.2.2.2.2.1
    have hgo := hx9.2.2.2.2.2.2.2
    clear hx9
    subst qe1
    have e1 := hk _ (.head _)
    have e2 := hk _ (.tail _ (.head _))
    refine ⟨og, oL, mg, gs, rfl, e1, e2, ?_, hoL, hK, by rw [hge]; exact hgs, hgo⟩
    obtain ⟨o', nm, qn, ho', r⟩ := hg
    rw [h1] at ho'; cases ho'
    exact ⟨og, nm, qn, e1, r⟩
end
section
noncomputable def othersOf (h g : Heap) (Lg : Addr) : Led := (List.range h.objs.size).filterMap fun b => match h.get? b with
  | some o => if b = Lg ∨ (g.get? b).isSome = true then none else some (b, o)
  | none => none
theorem othersOf_news {g h : Heap} {Lg : Addr} {m : Str → Option Value} (F : Fr g Lg h m) : News g Lg h (othersOf h g Lg) := by
  intro p hp
  obtain ⟨b, _, hb⟩ := List.mem_filterMap.mp hp
  cases e : h.get? b with
  | none => rw [e] at hb; cases hb
  | some o =>
    rw [e] at hb
    dsimp only at hb
    by_cases hc : b = Lg ∨ (g.get? b).isSome = true
    · rw [if_pos hc] at hb; cases hb
    · rw [if_neg hc] at hb
      cases hb
      refine ⟨e, fun q => hc (.inl q), ?_⟩
      cases e2 : g.get? b with
      | none => rfl
      | some o2 => exact absurd (.inr (by rw [e2]; rfl)) hc
theorem kept_of {g h h' : Heap} {Lg : Addr} {m m' : Str → Option Value} {l' : Led} (F : Fr g Lg h m) (F' : Fr g Lg h' m') (N' : News g Lg h' l') (hsub : ∀ p ∈ othersOf h g Lg, p ∈ l') : Kept Lg h h' := by
  intro b o hb e
  cases e2 : g.get? b with
  | some o2 =>
    have e3 := F.keep b o2 e2
    rw [e] at e3; cases e3
    exact F'.keep b o e2
  | none =>
    refine (N' (b, o) (hsub _ (List.mem_filterMap.mpr ⟨b, List.mem_range.mpr (Heap.lt_size e), ?_⟩))).1
    rw [e]
    dsimp only
    rw [if_neg]
    rintro (q | q)
    · exact hb q
    · rw [e2] at q; cases q
noncomputable def ancOk (w : World) (mean : ExcName → Option Value) (mg mb : Str → Option Value) (dp un : Nat) (gd : Option (List Code)) (cn : Str) (cs : Scope) (L a : Addr) (ccd : Value) (cl : List (Str × Addr)) (outer : List Env) (base : Heap) (Lg : Addr) (h : Heap) (mg' : Str → Option Value) : Prop :=
  ∃ g, Below (ktrTop dp un gd cn cs L a ccd cl outer) base (envX cn cs L a ccd cl :: outer) g ∧ (hd.heap_39 w.params).In g ∧ Top hd.view_39 (looseW hd.view_39 []) mean mg mb g ∧ Fr g Lg h mg'
noncomputable def Hold (p : Prop) : Prop := p
theorem Hold.intro {p : Prop} (h : p) : Hold p := h
theorem headOf_len (p : Str) : (headOf p).length ≤ p.length := by
  have h1 : (headRaw p).length ≤ p.length := PyProof.Txt.length_slice_le _ _ _
  unfold headOf
  split
  · exact Nat.le_trans (len_rstripChars _ _) h1
  · exact h1
theorem ne_dec (n : Nat) : (((n : Nat) : Int) != 0) = decide (n ≠ 0) := by
  by_cases h : n = 0
  · subst h; rfl
  · rw [decide_eq_true h]
    have : ((n : Nat) : Int) ≠ 0 := by omega
    exact bne_iff_ne.mpr this
noncomputable abbrev ancP (l : List Str) : Nat → Value → Prop := fun i v => ∃ y t, l[i]? = some y ∧ v = .str y t
local macro_rules | `(tactic| walk_at "call ref") => `(tactic| (k_here; (with_reducible rename Fr _ _ _ _ => kF); (with_reducible rename News _ _ _ _ => kN); k_dflt (refine Spec.use (split_call _ _ _ (by assumption)) (by k_asm) kF kN (by k_asm) (by k_asm) rfl (by ktr_room) (by ktr_units) trivial ?_); rintro r hZ tkZ FZ NZ keZ ⟨dZ, t1, t2, nZ, eZ, MZ⟩; subst eZ; have NY := Made.news kF kN keZ MZ; simp only [List.cons_append, List.nil_append] at NY; clear NZ kN kF))
set_option maxRecDepth 100000 in
set_option maxHeartbeats 1000000 in
theorem anc_call (w : World) (x : Str) (u : Tok) (hx : x.length ≤ 1010) : ∀ {mean : ExcName → Option Value} {mg mb : Str → Option Value} {dp un : Nat} {gd : Option (List Code)} {cn : Str} {cs : Scope} {a : Addr} {ccd : Value} {cl : List (Str × Addr)} {outer : List Env} {A₀ : Around} {base h₀ : Heap} {L : Addr} {m : Str → Option Value} {s : Shared} {Q : Value → Shared → Prop} {news : Led}
    (B : Below A₀ base outer h₀) (F : Fr h₀ L s.heap m) (N : News h₀ L s.heap news) (X : (hd.heap_39 w.params).In h₀) (T : Top hd.view_39 (looseW hd.view_39 []) mean mg mb h₀) (hk : cs.kind = .function) (hdp : dp + 20 < recursionLimit) (hun : un + 50 < cLine) (l : List Str) (ha : Anc (Txt.rstripChars x (Str.ofString "/")) l)
    (ret : ∀ ga Lg h₁ tk gs og oL own, Itr (PySem.Challenge.rw_il0007_01.row.prog) w (ktrTop dp un gd cn cs L a ccd cl outer) (fun h => Fr h₀ L h m) ga l.length (ancP l) [ga, Lg] (fun a b => AllBare a → AllBare b) own →
      own 0 { s with heap := h₁, toks := tk, gens := s.gens.push gs } [(ga, og), (Lg, oL)] → gs.bare = true → Fr h₀ L h₁ m → News h₀ L h₁ news → (∀ p ∈ news, (@Ne Nat p.1 ga) ∧ (@Ne Nat p.1 Lg)) → (@Ne Nat ga L) → (@Ne Nat Lg L) → h₀.get? ga = none → h₀.get? Lg = none →
      Q (.ref ga) { s with heap := h₁, toks := tk, gens := s.gens.push gs }),
    wpAny (model PySem.Challenge.rw_il0007_01.row.prog w) (ktrTop dp un gd cn cs L a ccd cl outer) (call (.ref 111) [.str x u]) Q (fun _ _ => False) s := by
  k_fill
  intro mean mg mb dp un gd cn cs a ccd cl outer A₀ base h₀ L m s Q news B F N X T hk hdp hun l ha ret
  refine' enterG ?kF ?kX ?kT ?k6 ?k7 ?k8 ?k9 ?kB ?_ ?c2 ?c3 ?c4 ?c5
  case kF => k_asm
  case kX => k_asm
  case kT => k_asm
  case k6 => k_is
  case k7 => k_is
  case k8 => ktr_room
  case k9 => exact BindsTo.of_eq rfl
  case kB => exact locs rfl
  case c2 => exact rfl
  case c3 => exact rfl
  case c4 => exact rfl
  case c5 => decide
  k_whole
  intro h₁ tk ga og hns hkp hog hgen hlt
  have hLlt : L < s.heap.objs.size := F.ns.lt
  have hnl : ∀ p ∈ news, p.1 < s.heap.objs.size := fun p hp => Heap.lt_size (N p hp).1
  generalize s.heap.objs.size = Lg at *
  have F₁ : Fr h₀ L h₁ m := F.keeps hkp
  have N₁ : News h₀ L h₁ news := N.grown hkp
  have hLg : L ≠ Lg := Nat.ne_of_lt hLlt
  have hnone : ∀ b, L < b → h₀.get? b = none := fun b hb => by
    cases q : h₀.get? b with
    | none => rfl
    | some o => exact absurd (Nat.lt_of_lt_of_le (Heap.lt_size q) F.above) (Nat.not_lt.mpr (Nat.le_of_lt hb))
  have h0g : h₀.get? Lg = none := hnone _ hLlt
  have IT := Itr.anc (prog := PySem.Challenge.rw_il0007_01.row.prog) (w := w) (A := ktrTop dp un gd cn cs L a ccd cl outer) (h₀ := h₀) (L := L) (m := m) (Lg := Lg) (ga := ga) (gi := s.gens.size) (l := l)
    (Ok := ancOk w mean mg mb dp un gd cn cs L a ccd cl outer base Lg)
    rfl (by ktr_room) (Nat.ne_of_gt hlt) hLg h0g (fun h F => T.nolimit.keeps F.keep)
    (fun h mg' F hns => by
      obtain ⟨B₁, st⟩ := below_trunc (A := ktrTop dp un gd cn cs L a ccd cl outer) (env := envX cn cs L a ccd cl) (n := Lg) B F hLlt rfl rfl hk
      exact ⟨trunc h Lg, B₁, X.keeps st, T.keeps st, hns, fun b o e => trunc_get e, trunc_size h Lg⟩)
    (fun h mg' ⟨g, _, _, _, F⟩ => F.ns)
  refine ex1 (ns_obj hns) ?_
  intro oL hx9
  have hoL := hx9.1
  have hNs := hx9.2
  clear hx9
  refine ret ga Lg h₁ tk _ og oL _ IT ⟨og, oL, _, _, rfl, hog, hoL, hgen, hNs, F₁, Array.getElem?_push_size .., fun s'' hok => ⟨rfl, ?_⟩⟩ rfl F₁ N₁ (fun p hp => ⟨Nat.ne_of_lt (Nat.lt_trans (hnl p hp) hlt), Nat.ne_of_lt (hnl p hp)⟩) (Nat.ne_of_gt (Nat.lt_trans hLlt hlt)) (Ne.symm hLg) (hnone _ (Nat.lt_trans hLlt hlt)) h0g
  rw [Nat.sub_zero]
  refine ex1 hok ?_
  intro g hx9
  have Bg := hx9.1
  have Xg := hx9.2.1
  have Tg := hx9.2.2.1
  have Fg := hx9.2.2.2
  clear hx9
  refine seg_func (seg_execs_cons (seg_wrap (wpAny_mono (Q := fun f s' => f = .next ∧ ∃ h tk m', s' = { s'' with heap := h, toks := tk } ∧ ancOk w mean mg mb dp un gd cn cs L a ccd cl outer base Lg h m' ∧ PathAt m' (Txt.rstripChars x (Str.ofString "/")) ∧ Kept Lg s''.heap h) (E := fun _ _ => False) ?_ ?_ fun _ _ x => x.elim)))
  · clear ret IT hNs N₁ F₁ N F B X T hnl
    have Ng := othersOf_news Fg
    have hF0 := Hold.intro Fg
    change wpAny _ ((ktrTop dp (un + 1) gd cn cs L a ccd cl outer).deeper (envOf _ _ Lg 111 _)) _ (fun f s' => Hold _) _ _
    (repeat' ((fail_if_success (with_reducible show wpAny _ _ (exec (Stmt.For _ _ _ _ _) _) _ _ _)); (fail_if_success (with_reducible show wpAny _ _ (exec (Stmt.While _ _ _ _) _) _ _ _)); (fail_if_success (with_reducible show wpAny _ _ (eval (Expr.ListComp _ _ _ _) _) _ _ _)); (fail_if_success (with_reducible show wpAny _ _ (pyIter _) _ _ _)); (fail_if_success (with_reducible show wpAny _ _ (exec (Stmt.Assign _ (Expr.ListComp _ _ _ _) _) _) _ _ _)); (fail_if_success (with_reducible show TurnPost _ _ _ _ _ _ _ _ _)); first | (k_unfold; (try dsimp only)) | walk1 | (dsimp only; walk1)))
    with_reducible rename Fr _ _ _ _ => F9
    with_reducible rename News _ _ _ _ => N9
    exact Hold.intro ⟨trivial, _, _, _, rfl, ⟨g, Bg, Xg, Tg, F9⟩, ⟨_, rfl⟩, kept_of hF0 F9 N9 (fun p hp => hp)⟩
  · clear ret IT hNs N₁ F₁ N F B X T hnl
    intro f s' hf
    have qb := hf.1
    refine ex3 hf.2 ?_
    clear hf
    intro h2 tk2 m' hx9
    have qe1 := hx9.1
    have hok2 := hx9.2.1
    have hp2 := hx9.2.2.1
    have hk2 := hx9.2.2.2
    clear hx9
    subst qe1
    subst qb
    refine seg_execs_cons (seg_While fun pp => ?_)
    refine seg_anc (Lg := Lg) (Ok := ancOk w mean mg mb dp un gd cn cs L a ccd cl outer base Lg) ?_ rfl rfl ?_ ?_ ?_ ?_ l [] s'' _ m' _ pp ha rfl hok2 hp2 ?_ ((Since.refl Lg s'').step hk2)
    · rintro s₀ s₁ hR
      exact seg_end (.ok (.ret .none)) hR
    · intro pp s₁ m₁ p hx8 hx7 hpl
      refine ex1 hx8 ?_
      clear hx8
      intro g hx9
      have Bg := hx9.1
      have Xg := hx9.2.1
      have Tg := hx9.2.2.1
      have Fg := hx9.2.2.2
      clear hx9
      refine ex1 hx7 ?_
      clear hx7
      intro tp hpm
      have Ng := othersOf_news Fg
      have hF0 := Hold.intro Fg
      replace Fg := Fr.see1 Fg hpm
      change wpAny _ ((ktrTop dp (un + 1) gd cn cs L a ccd cl outer).deeper (envOf _ _ Lg 111 _)) _ (fun f s' => Hold _) _ _
      (repeat' ((fail_if_success (with_reducible show wpAny _ _ (exec (Stmt.For _ _ _ _ _) _) _ _ _)); (fail_if_success (with_reducible show wpAny _ _ (exec (Stmt.While _ _ _ _) _) _ _ _)); (fail_if_success (with_reducible show wpAny _ _ (eval (Expr.ListComp _ _ _ _) _) _ _ _)); (fail_if_success (with_reducible show wpAny _ _ (pyIter _) _ _ _)); (fail_if_success (with_reducible show wpAny _ _ (exec (Stmt.Assign _ (Expr.ListComp _ _ _ _) _) _) _ _ _)); (fail_if_success (with_reducible show TurnPost _ _ _ _ _ _ _ _ _)); first | (k_unfold; (try dsimp only)) | walk1 | (dsimp only; walk1)))
      with_reducible rename Fr _ _ _ _ => F9
      with_reducible rename News _ _ _ _ => N9
      exact Hold.intro ⟨ne_dec _, _, _, rfl, ⟨g, Bg, Xg, Tg, hF0⟩, kept_of hF0 F9 N9 (fun p hp => hp)⟩
    · intro pp s₁ m₁ p hx8 hx7
      refine ex1 hx8 ?_
      clear hx8
      intro g hx9
      have Bg := hx9.1
      have Xg := hx9.2.1
      have Tg := hx9.2.2.1
      have Fg := hx9.2.2.2
      clear hx9
      refine ex1 hx7 ?_
      clear hx7
      intro tp hpm
      have Ng := othersOf_news Fg
      have hF0 := Hold.intro Fg
      replace Fg := Fr.see1 Fg hpm
      change wpAny _ ((ktrTop dp (un + 1) gd cn cs L a ccd cl outer).deeper (envOf _ _ Lg 111 _)) _ (fun f s' => Hold _) _ _
      (repeat' ((fail_if_success (with_reducible show wpAny _ _ (exec (Stmt.For _ _ _ _ _) _) _ _ _)); (fail_if_success (with_reducible show wpAny _ _ (exec (Stmt.While _ _ _ _) _) _ _ _)); (fail_if_success (with_reducible show wpAny _ _ (eval (Expr.ListComp _ _ _ _) _) _ _ _)); (fail_if_success (with_reducible show wpAny _ _ (pyIter _) _ _ _)); (fail_if_success (with_reducible show wpAny _ _ (exec (Stmt.Assign _ (Expr.ListComp _ _ _ _) _) _) _ _ _)); (fail_if_success (with_reducible show TurnPost _ _ _ _ _ _ _ _ _)); first | (k_unfold; (try dsimp only)) | walk1 | (dsimp only; walk1)))
      with_reducible rename Fr _ _ _ _ => F9
      with_reducible rename News _ _ _ _ => N9
      exact Hold.intro ⟨⟨_, rfl⟩, _, _, rfl, ⟨g, Bg, Xg, Tg, hF0⟩, kept_of hF0 F9 N9 (fun p hp => hp)⟩
    · intro pp s₁ m₁ p hx8 hx7 hpl
      refine ex1 hx8 ?_
      clear hx8
      intro g hx9
      have Bg := hx9.1
      have Xg := hx9.2.1
      have Tg := hx9.2.2.1
      have Fg := hx9.2.2.2
      clear hx9
      refine ex1 hx7 ?_
      clear hx7
      intro tp hpm
      have Ng := othersOf_news Fg
      have hF0 := Hold.intro Fg
      replace Fg := Fr.see1 Fg hpm
      change wpAny _ ((ktrTop dp (un + 1) gd cn cs L a ccd cl outer).deeper (envOf _ _ Lg 111 _)) _ (fun f s' => Hold _) _ _
      (repeat' ((fail_if_success (with_reducible show wpAny _ _ (exec (Stmt.For _ _ _ _ _) _) _ _ _)); (fail_if_success (with_reducible show wpAny _ _ (exec (Stmt.While _ _ _ _) _) _ _ _)); (fail_if_success (with_reducible show wpAny _ _ (eval (Expr.ListComp _ _ _ _) _) _ _ _)); (fail_if_success (with_reducible show wpAny _ _ (pyIter _) _ _ _)); (fail_if_success (with_reducible show wpAny _ _ (exec (Stmt.Assign _ (Expr.ListComp _ _ _ _) _) _) _ _ _)); (fail_if_success (with_reducible show TurnPost _ _ _ _ _ _ _ _ _)); first | (k_unfold; (try dsimp only)) | walk1 | (dsimp only; walk1)))
      with_reducible rename Fr _ _ _ _ => F9
      with_reducible rename News _ _ _ _ => N9
      exact Hold.intro ⟨trivial, _, _, _, rfl, ⟨g, Bg, Xg, Tg, F9⟩, ⟨_, rfl⟩, kept_of hF0 F9 N9 (fun p hp => .tail _ hp)⟩
    · exact fun p hp => Nat.le_trans (headOf_len p) hp
    · exact Nat.le_trans (len_rstripChars _ _) hx
end
section
set_option maxRecDepth 100000 in
set_option maxHeartbeats 1000000 in
theorem mgr_call (w : World) : ∀ {mean : ExcName → Option Value} {mg mb : Str → Option Value} {dp un : Nat} {gd : Option (List Code)} {cn : Str} {cs : Scope} {a : Addr} {ccd : Value} {cl : List (Str × Addr)} {outer : List Env} {A₀ : Around} {base h₀ : Heap} {L : Addr} {m : Str → Option Value} {s : Shared} {Q : Value → Shared → Prop} {news : Led}
    (B : Below A₀ base outer h₀) (F : Fr h₀ L s.heap m) (N : News h₀ L s.heap news) (X : (hd.heap_39 w.params).In h₀) (T : Top hd.view_39 (looseW hd.view_39 []) mean mg mb h₀) (hk : cs.kind = .function) (hdp : dp + 20 < recursionLimit) (hun : un + 50 < cLine)
    (ret : ∀ (x d dd : Addr) (t : Tok) (od : Obj) (h' : Heap) (tk' : Nat), Fr h₀ L h' m → News h₀ L h' ((dd, od) :: (x, instObj 67 d) :: (d, dictOf [{ hash := PyData.keyHash w.params (Str.ofString "passwd"), key := .str (Str.ofString "passwd") t, val := .ref dd }] 1) :: news) →
      (∀ p ∈ news, @LT.lt Nat _ p.1 d) → @LT.lt Nat _ d x → @LT.lt Nat _ x dd → Q (.ref x) { s with heap := h', toks := tk' }),
    wpAny (model PySem.Challenge.rw_il0007_01.row.prog w) (ktrTop dp un gd cn cs L a ccd cl outer) (call (.ref 67) []) Q (fun _ _ => False) s := by
  k_fill
  intro mean mg mb dp un gd cn cs a ccd cl outer A₀ base h₀ L m s Q news B F N X T hk hdp hun ret
  refine' call_cls ?k1 ?k2 ?k3 ?k4 ?k5 ?k6 ?_; (case k1 => k_asm); (case k2 => k_asm); (case k3 => k_asm); (case k4 => k_is); (case k5 => k_is); (case k6 => k_is); k_whole; intro x' d' h' F' N' l1 l2; have hl1 := Hold.intro l1; have hl2 := Hold.intro l2; (try k_lt l1); (try k_lt2 l2); (try k_sweep)
  (refine' code_def ?k1 ?k2 ?k3 ?k4 ?k5 ?kA ?kF ?kK ?k6 ?k7 ?k8 ?k9 ?kB ?_ ?c2 ?c3 ?c4 ?c5; (case kA => exact rfl); (case kF => exact rfl); (case kK => first | exact rfl | assumption); (case k1 => k_asm); (case k2 => k_asm); (case k3 => k_asm); (case k4 => k_asm); (case k5 => k_asm); (case k6 => k_is); (case k7 => k_is); (case k8 => ktr_room); (case k9 => first | exact BindsTo.of_eq rfl | exact binds_K (by k_in) rfl (by k_is) rfl rfl rfl | fail "k_enter: no rule for these arguments"); (case c5 => decide); (case kB => exact locs rfl); (case c2 => exact rfl); (case c3 => exact rfl); (case c4 => exact rfl); k_whole; intro g' L' h' FG' F' N' B' X' T'; (try dsimp only); (try k_lift B'); (try k_fold))
  (repeat' ((fail_if_success (with_reducible show wpAny _ _ (exec (Stmt.For _ _ _ _ _) _) _ _ _)); (fail_if_success (with_reducible show wpAny _ _ (exec (Stmt.While _ _ _ _) _) _ _ _)); (fail_if_success (with_reducible show wpAny _ _ (eval (Expr.ListComp _ _ _ _) _) _ _ _)); (fail_if_success (with_reducible show wpAny _ _ (pyIter _) _ _ _)); (fail_if_success (with_reducible show wpAny _ _ (exec (Stmt.Assign _ (Expr.ListComp _ _ _ _) _) _) _ _ _)); (fail_if_success (with_reducible show TurnPost _ _ _ _ _ _ _ _ _)); first | (k_unfold; (try dsimp only)) | walk1 | (dsimp only; walk1)))
  rename (_ ∧ _ ∧ AllLt _ _) => hl3
  refine ret _ _ _ _ _ _ _ (by assumption) (by assumption) hl1 hl2 hl3.1
end
section
section
variable {prog : Program} {w : World} {A : Around} {s : Shared} {h₀ : Heap} {L : Addr} {m : Str → Option Value} {env : Env}
theorem comp_dict {elt iter target : PySem.Expr} {ifs : List PySem.Expr} {scope : Scope} {cl : List (Str × Addr)} {pos : Pos} {l : Addr} {vs : List (Str × Value)} {ep : Nat} {news : Led} {Bd : Value → (Str → Option Value) → Prop} {RR : Value → Addr → Result → Shared → Prop} (J : Kt)
    (hh : A.handled = none) (lo : (l == sysModules) = false) (hl : s.heap.DictAt (strKind prog w) l vs ep) (hK : ∀ h nx i ys, Fr h₀ L h m → News h₀ L h nx → J i ys nx → h.DictAt (strKind prog w) l vs ep) (hsz : vs.length ≤ sizeLine)
    (hcell : ∀ y ∈ scope.names, y.2 ≠ .cell) (hkind : scope.kind = .function) (F : Fr h₀ L s.heap m) (N : News h₀ L s.heap news) (hj : J 0 [] news)
    (hput : Puts prog w A h₀ L m target scope cl env (fun i v => ∃ k x, vs[i]? = some (k, x) ∧ (strKind prog w).is k v = true) Bd (fun nx => ∃ i ys, J i ys nx))
    (hlet : ∃ x px, target = .Name x px)
    (hlen : ∀ i ys nx, J i ys nx → ys.length ≤ i)
    (turn : ∀ i v ys nx h tk I oI C oC D m₂, i < vs.length → (∃ k x, vs[i]? = some (k, x) ∧ (strKind prog w).is k v = true) → J i ys nx → NsObj oC m₂ → Bd v m₂ → Fr h₀ L h m → News h₀ L h ((C, oC) :: (D, lst ys) :: nx) → News h₀ L h [(I, oI)] → OffC D C [I] nx → (@Ne Nat C D) → (@Ne Nat I C) → (@Ne Nat I D) → ∀ (Y : Value → Shared → Prop) (Z : Shared → Prop), (∀ y s₄, CEnd h₀ L m (J (i + 1) (ys ++ [y])) [I] [(I, oI)] C oC D (lst ys) { s with heap := h, toks := tk } s₄ → Y y s₄) → (∀ s₃, CEnd h₀ L m (J (i + 1) ys) [I] [(I, oI)] C oC D (lst ys) { s with heap := h, toks := tk } s₃ → Z s₃) →
      wpAny (model prog w) A (testsOf ifs (compEnvC scope cl C env)) (fun ok s₃ => if ok = true
        then wpAny (model prog w) A (eval elt (compEnvC scope cl C env)) Y (fun _ _ => False) s₃
        else Z s₃) (fun _ _ => False) { s with heap := h, toks := tk })
    (hRR : ∀ D C h tk g m' ys news', g = s.gens → Fr h₀ L h m → News h₀ L h ((D, lst ys) :: news') → (∀ p ∈ news', @Ne Nat p.1 D) → h.Ns C m' → h₀.get? C = none → h₀.get? D = none → C ≠ L → D ≠ L → C ≠ D → (∀ p ∈ news', p.1 ≠ C) → J vs.length ys news' → RR (.ref D) C (.ok .next) { s with heap := h, toks := tk, gens := g }) :
    wpAny (model prog w) A (pyIter (.ref l)) (fun it s₂ => wpAny (model prog w) A (newList []) (fun acc s₃ => wpAny (model prog w) A (newFunctionEnv scope env.globals cl [] env.qual none .none (some env)) (fun cenv s₄ =>
      codeAny (model prog w) A (.compStart (.ListComp elt [⟨target, iter, ifs, 0⟩] scope pos) 0 it acc { cenv with scope := relabel scope env }) (RR acc cenv.locals) s₄) (fun _ _ => False) s₃) (fun _ _ => False) s₂) (fun _ _ => False) s := by
  have hlt : l < s.heap.objs.size := hl.lt_size
  have hne : l ≠ s.heap.objs.size := Nat.ne_of_lt hlt
  refine wpAny_pyIter_dict lo hl ?_
  refine blockW (s₂ := { s with heap := s.heap.push _ }) (own := fun i s' o => ∃ oI, o = [(s.heap.objs.size, oI)] ∧ s'.heap.get? s.heap.objs.size = some oI ∧ s'.heap.IsKeyIter s.heap.objs.size l i vs.length ep ∧ s'.heap.DictAt (strKind prog w) l vs ep) (adr := [s.heap.objs.size]) (n := vs.length) (P := fun i v => ∃ k x, vs[i]? = some (k, x) ∧ (strKind prog w).is k v = true) (G := fun a b => b = a) (Bd := Bd) (news := news) J
    (Itr.keys hh _ l hne vs ep) hK hsz hcell hkind ⟨_, rfl, Heap.get?_push_size _ rfl, ⟨_, Heap.get?_push_size _ rfl, rfl, rfl⟩, hl.push _⟩ (F.push _) (fun p hp => ⟨Heap.get?_push_of_some _ (N p hp).1, (N p hp).2⟩) ?_ ?_ hj hput ?_ ?_ hlen ?_
  · intro a ha
    rw [List.mem_singleton.mp ha]
    exact ⟨Nat.ne_of_gt F.ns.lt, next_is_new F⟩
  · intro p hp q
    exact Nat.ne_of_lt (Heap.lt_size (N p hp).1) (List.mem_singleton.mp q)
  · rintro i v s' o Q' hP ⟨oI, rfl, _, hit, _⟩ hQ
    obtain ⟨x, px, rfl⟩ := hlet
    exact wpAny_pure hQ
  · rintro i v ys nx h tk g o C oC D m₂ rfl hi hP hJ ⟨oI, rfl, _, _, _⟩ hoC hB F' N' No off hCD hI
    have hI' := hI _ (.head _)
    exact turn i v ys nx h tk _ oI C oC D m₂ hi hP hJ hoC hB F' N' No off hCD hI'.1 hI'.2 _ _ (fun _ _ h => h) (fun _ h => h)
  · intro D C h tk g m' ys news' hG
    exact hRR D C h tk g m' ys news' hG
theorem comp_dictS {elt iter target : PySem.Expr} {ifs : List PySem.Expr} {scope : Scope} {cl : List (Str × Addr)} {pos : Pos} {l : Addr} {vs : List (Str × Value)} {ep : Nat} {news : Led} {Bd : Value → (Str → Option Value) → Prop} {Q : Value → Shared → Prop} {y : Str} {py : Pos} (J : Kt)
    (hh : A.handled = none) (lo : (l == sysModules) = false) (hl : s.heap.DictAt (strKind prog w) l vs ep) (hK : ∀ h nx i ys, Fr h₀ L h m → News h₀ L h nx → J i ys nx → h.DictAt (strKind prog w) l vs ep) (hsz : vs.length ≤ sizeLine)
    (hcell : ∀ y ∈ scope.names, y.2 ≠ .cell) (hkind : scope.kind = .function) (F : Fr h₀ L s.heap m) (N : News h₀ L s.heap news) (hj : J 0 [] news)
    (hput : Puts prog w A h₀ L m target scope cl env (fun i v => ∃ k x, vs[i]? = some (k, x) ∧ (strKind prog w).is k v = true) Bd (fun nx => ∃ i ys, J i ys nx))
    (hlet : ∃ x px, target = .Name x px)
    (hlen : ∀ i ys nx, J i ys nx → ys.length ≤ i)
    (turn : ∀ i v ys nx h tk I oI C oC D m₂, i < vs.length → (∃ k x, vs[i]? = some (k, x) ∧ (strKind prog w).is k v = true) → J i ys nx → NsObj oC m₂ → Bd v m₂ → Fr h₀ L h m → News h₀ L h ((C, oC) :: (D, lst ys) :: nx) → News h₀ L h [(I, oI)] → OffC D C [I] nx → (@Ne Nat C D) → (@Ne Nat I C) → (@Ne Nat I D) → ∀ (Y : Value → Shared → Prop) (Z : Shared → Prop), (∀ y s₄, CEnd h₀ L m (J (i + 1) (ys ++ [y])) [I] [(I, oI)] C oC D (lst ys) { s with heap := h, toks := tk } s₄ → Y y s₄) → (∀ s₃, CEnd h₀ L m (J (i + 1) ys) [I] [(I, oI)] C oC D (lst ys) { s with heap := h, toks := tk } s₃ → Z s₃) →
      wpAny (model prog w) A (testsOf ifs (compEnvC scope cl C env)) (fun ok s₃ => if ok = true
        then wpAny (model prog w) A (eval elt (compEnvC scope cl C env)) Y (fun _ _ => False) s₃
        else Z s₃) (fun _ _ => False) { s with heap := h, toks := tk })
    (hL : env.locals = L) (hy : env.kindOf y = some .local) (hp : (env.scope.kind == .class || (env.scope.kind == .module && env.locals != env.globals)) = false)
    (hE : ∀ D h tk ys nx, J vs.length ys nx → News h₀ L h ((D, lst ys) :: nx) → (∀ p ∈ nx, @Ne Nat p.1 D) → Fr h₀ L h (fun z => if z = y then some (.ref D) else m z) → Q .none { s with heap := h, toks := tk }) :
    wpAny (model prog w) A (pyIter (.ref l)) (fun it s₂ => wpAny (model prog w) A (newList []) (fun acc s₃ => wpAny (model prog w) A (newFunctionEnv scope env.globals cl [] env.qual none .none (some env)) (fun cenv s₄ =>
      codeAny (model prog w) A (.compStart (.ListComp elt [⟨target, iter, ifs, 0⟩] scope pos) 0 it acc { cenv with scope := relabel scope env }) (compPost (model prog w) A (fun _ _ => False) (some (assign (.Name y py) env)) Q acc cenv.locals) s₄) (fun _ _ => False) s₃) (fun _ _ => False) s₂) (fun _ _ => False) s :=
  comp_dict (RR := fun acc C => compPost (model prog w) A (fun _ _ => False) (some (assign (.Name y py) env)) Q acc C) J hh lo hl hK hsz hcell hkind F N hj hput hlet hlen turn
    (compPost_some (n := vs.length) (J := J) (G := fun a b => b = a) (s₂ := s) hL hy hp (by rintro D h tk g ys nx rfl hJ N' o1 F'; exact hE D h tk ys nx hJ N' o1 F'))
theorem comp_anc {elt iter target : PySem.Expr} {ifs : List PySem.Expr} {scope : Scope} {cl : List (Str × Addr)} {pos : Pos} {ga : Addr} {n : Nat} {P : Nat → Value → Prop} {adr : List Addr} {own : Nat → Shared → Led → Prop} {o₀ : Led} {news : Led} {Bd : Value → (Str → Option Value) → Prop} {Q : Value → Shared → Prop} (J : Kt)
    (W : Itr prog w A (fun h => Fr h₀ L h m) ga n P adr (fun a b => AllBare a → AllBare b) own) (hsz : n ≤ sizeLine)
    (hcell : ∀ y ∈ scope.names, y.2 ≠ .cell) (hkind : scope.kind = .function) (hst : own 0 s o₀) (F : Fr h₀ L s.heap m) (N : News h₀ L s.heap news) (hadr : ∀ a ∈ adr, a ≠ L ∧ h₀.get? a = none) (off : ∀ p ∈ news, p.1 ∉ adr) (hj : J 0 [] news)
    (hput : Puts prog w A h₀ L m target scope cl env P Bd (fun nx => ∃ i ys, J i ys nx))
    (hlet : ∃ x px, target = .Name x px)
    (hlen : ∀ i ys nx, J i ys nx → ys.length ≤ i)
    (turn : ∀ i v ys nx h tk g o C oC D m₂, i < n → P i v → J i ys nx → NsObj oC m₂ → Bd v m₂ → Fr h₀ L h m → News h₀ L h ((C, oC) :: (D, lst ys) :: nx) → News h₀ L h o → OffC D C adr nx → (@Ne Nat C D) → (∀ p ∈ o, p.1 ∈ adr) → ∀ (Y : Value → Shared → Prop) (Z : Shared → Prop), (∀ y s₄, CEnd h₀ L m (J (i + 1) (ys ++ [y])) adr o C oC D (lst ys) { s with heap := h, toks := tk, gens := g } s₄ → Y y s₄) → (∀ s₃, CEnd h₀ L m (J (i + 1) ys) adr o C oC D (lst ys) { s with heap := h, toks := tk, gens := g } s₃ → Z s₃) →
      wpAny (model prog w) A (testsOf ifs (compEnvC scope cl C env)) (fun ok s₃ => if ok = true
        then wpAny (model prog w) A (eval elt (compEnvC scope cl C env)) Y (fun _ _ => False) s₃
        else Z s₃) (fun _ _ => False) { s with heap := h, toks := tk, gens := g })
    (hE : ∀ D h tk g ys nx, (AllBare s.gens → AllBare g) → J n ys nx → News h₀ L h ((D, lst ys) :: nx) → (∀ p ∈ nx, @Ne Nat p.1 D) → Fr h₀ L h m → Q (.ref D) { s with heap := h, toks := tk, gens := g }) :
    wpAny (model prog w) A (pyIter (.ref ga)) (fun it s₂ => wpAny (model prog w) A (newList []) (fun acc s₃ => wpAny (model prog w) A (newFunctionEnv scope env.globals cl [] env.qual none .none (some env)) (fun cenv s₄ =>
      codeAny (model prog w) A (.compStart (.ListComp elt [⟨target, iter, ifs, 0⟩] scope pos) 0 it acc { cenv with scope := relabel scope env }) (compPost (model prog w) A (fun _ _ => False) none Q acc cenv.locals) s₄) (fun _ _ => False) s₃) (fun _ _ => False) s₂) (fun _ _ => False) s := by
  refine W.self 0 _ _ _ hst ?_
  refine blockW (s₂ := s) (own := own) (adr := adr) (n := n) (P := P) (G := fun a b => AllBare a → AllBare b) (Bd := Bd) (news := news) (RR := fun acc C => compPost (model prog w) A (fun _ _ => False) none Q acc C) J
    W (fun h nx i ys F _ _ => F) hsz hcell hkind hst F N hadr off hj hput ?_ ?_ hlen ?_
  · rintro i v s' o Q' hP ho hQ
    obtain ⟨x, px, rfl⟩ := hlet
    exact wpAny_pure hQ
  · rintro i v ys nx h tk g o C oC D m₂ hG hi hP hJ ho hoC hB F' N' No off hCD hI
    exact turn i v ys nx h tk g o C oC D m₂ hi hP hJ hoC hB F' N' No off hCD (fun p hp => by rw [← W.adrs _ _ _ ho]; exact List.mem_map.mpr ⟨p, hp, rfl⟩) _ _ (fun _ _ h => h) (fun _ h => h)
  · exact compPost_none (n := n) (J := J) (G := fun a b => AllBare a → AllBare b) (s₂ := s) (fun D h tk g ys nx hG hJ N' o1 F' => hE D h tk g ys nx hG hJ N' o1 F')
end
end
section
local macro_rules | `(tactic| walk_at "call ref") => `(tactic| (k_here; (with_reducible rename Fr _ _ _ _ => kF); (with_reducible rename News _ _ _ _ => kN); k_dflt (refine mgr_call _ (by k_asm) kF kN (by k_asm) (by k_asm) rfl (by ktr_room) (by ktr_units) ?_); clear kF kN; intro xM dM pM tM oM hM tkM FM NM q1 q2 q3; (try k_lt q1)))
theorem due_made2 {h₀ h : Heap} {L : Addr} {t a b : Addr × Obj} {l : Led} (N : News h₀ L h (t :: b :: a :: l)) : Made h₀ h [t, a, b] := fun p hp =>
  have q := (all_put (N _ (.head _)) (all_put (N _ (.tail _ (.tail _ (.head _)))) (all_put (N _ (.tail _ (.head _))) (all_nil))) : News h₀ L h _) p hp
  ⟨q.1, q.2.2⟩
theorem one_leaf2 {h₀ h : Heap} {L : Addr} {p c d q : Addr × Obj} {l : Led} (N : News h₀ L h (p :: c :: d :: q :: l)) : News h₀ L h (c :: d :: l) ∧ News h₀ L h [q] := ⟨all_put (N _ (.tail _ (.head _))) (all_put (N _ (.tail _ (.tail _ (.head _)))) (fun p hp => N p (.tail _ (.tail _ (.tail _ (.tail _ (hp))))))), all_put (N _ (.tail _ (.tail _ (.tail _ (.head _))))) all_nil⟩
theorem str_key {prog : Program} {w : World} {k : Str} {v : Value} (h : (strKind prog w).is k v = true) : ∃ t, v = .str k t := by
  cases v with
  | str x t =>
    have : (x == k) = true := h
    exact ⟨t, by rw [beq_iff_eq.mp this]⟩
  | _ => cases h
noncomputable def hd1 (k : Str) : Str := Txt.slice k none (some 1)
noncomputable def tl1 (k : Str) : Str := Txt.slice k (some 1) none
noncomputable def tabGet (tab : List (Str × Str)) (k : Str) : Option Str := (tab.find? fun p => decide (p.1 = k)).map (·.2)
noncomputable def covFound (tab l : List (Str × Str)) (q : Str) : List Str := (l.filter fun p => suburi (hd1 p.1, tl1 p.1) (hd1 q, tl1 q)).map fun p => (tabGet tab p.1).getD Str.empty
theorem lookup_tabD (k : Str) : ∀ tab : List (Str × Str), PySem.Spec.lookup (.str k) (tabD tab) = (tabGet tab k).map PyData.str
  | [] => rfl
  | p :: tab => by
    have ih := lookup_tabD k tab
    show (if PySem.Spec.same (PyData.str p.1) (PyData.str k) = true then some (PyData.str p.2) else PySem.Spec.lookup (.str k) (tabD tab)) = _
    rw [PyProof.V.same_str, ih]
    unfold tabGet
    by_cases h : p.1 = k
    · rw [if_pos (decide_eq_true h), List.find?_cons_of_pos (by simp [h])]; rfl
    · rw [if_neg (by simp [h]), List.find?_cons_of_neg (by simp [h])]
theorem flat_at : ∀ {kvs : List (Str × Value)} {tab : List (Str × Str)}, PyProof.V.FlatPairs PyData.str kvs (tabD tab) → kvs.length = tab.length ∧ ∀ (i : Nat) k x, kvs[i]? = some (k, x) → ∃ y, tab[i]? = some (k, y)
  | [], [], _ => ⟨rfl, fun i k x h => by simp at h⟩
  | [], _ :: _, h => nomatch h
  | _ :: _, [], h => nomatch h
  | (k0, v0) :: kvs, (k1, y1) :: tab, h => by
    cases h with
    | cons h1 h2 =>
      obtain ⟨e1, e2⟩ := flat_at (tab := tab) h2
      refine ⟨by simp [e1], fun i k x hi => ?_⟩
      cases i with
      | zero => simp at hi; exact ⟨y1, by simp [hi.1]⟩
      | succ i => simp at hi; obtain ⟨y, hy⟩ := e2 i k x hi; exact ⟨y, by simpa using hy⟩
theorem tabGet_some {tab : List (Str × Str)} {k y : Str} (h : (k, y) ∈ tab) : ∃ z, tabGet tab k = some z := by
  unfold tabGet
  cases e : tab.find? fun p => decide (p.1 = k) with
  | none => have := List.find?_eq_none.mp e _ h; simp at this
  | some p => exact ⟨p.2, rfl⟩
theorem slice_len (k : Str) (a b : Option Int) (h : k.length ≤ 1010) : (Txt.slice k a b).length ≤ 1010 := Nat.le_trans (PyProof.Txt.length_slice_le _ _ _) h
local macro_rules | `(tactic| walk_at "subscriptTail") => `(tactic| (k_here; (with_reducible rename Fr _ _ _ _ => kF); k_dflt (refine item_strTab (TabAt.keep (by assumption) (Fr.keep kF)) (by assumption) ?_); intro vV hV; have hV2 := PyProof.V.Flat.str_inv hV; obtain ⟨tV, eV⟩ := hV2; subst eV))
local macro_rules | `(tactic| walk_at "compareOp In str ref") => `(tactic| (k_here; (with_reducible rename Fr _ _ _ _ => kF); k_dflt (refine in_strTab (TabAt.keep (by assumption) (Fr.keep kF)) ?_)))
set_option maxRecDepth 100000 in
set_option maxHeartbeats 1000000 in
theorem found_call (w : World) (tb : Addr) (q : Str) (u : Tok) (tab : List (Str × Str)) (hq : q.length ≤ 1010) (l : List Str) (ha : Anc (Txt.rstripChars q (Str.ofString "/")) l) (hl : l.length ≤ 1000) (htl : tab.length ≤ 1000) (htk : ∀ p ∈ tab, p.1.length ≤ 1010) :
    SpecG w 130 [.ref tb, .str q u] 40 80 (fun h => StrTab PySem.Challenge.rw_il0007_01.row.prog w h tb (tabD tab)) (fun h h' r => ∃ D Cv Ab cvs abs cn an dn, r = .ref D ∧ Made h h' [(D, ({ cls := .type "tuple", data := .seq #[.ref Cv, .ref Ab] dn } : Obj)), (Cv, W.listOf cvs cn), (Ab, W.listOf abs an)] ∧ StrsAre cvs.toList (covFound tab tab q) ∧ StrsAre abs.toList (l.filterMap (tabGet tab))) := by
  unfold SpecG
  k_fill
  intro mean mg mb dp un gd cn cs a ccd cl outer A₀ base h₀ L m s Q B F X T hk hdp hun hTb hret
  (refine' enterHC ?k1 ?k2 ?k3 ?k5 ?kA ?kF ?kK ?k6 ?k7 ?k8 ?k9 ?kB ?kD ?_ ?c2 ?c3 ?c4; (case kA => exact rfl); (case kF => exact rfl); (case kK => assumption); (case k1 => k_asm); (case k2 => k_asm); (case k3 => k_asm); (case k5 => k_asm); (case k6 => k_is); (case k7 => k_is); (case k8 => ktr_room); (case k9 => exact BindsTo.of_eq rfl); (case kB => exact rfl); (case kD => decide +kernel); (case c2 => exact rfl); (case c3 => exact rfl); (case c4 => exact rfl); k_whole; intro _ _ _ _ _ _ Yc9 _ _ _; k_cells Yc9; (try dsimp only); (try k_fold))
  (repeat' ((fail_if_success (with_reducible show wpAny _ _ (exec (Stmt.For _ _ _ _ _) _) _ _ _)); (fail_if_success (with_reducible show wpAny _ _ (exec (Stmt.While _ _ _ _) _) _ _ _)); (fail_if_success (with_reducible show wpAny _ _ (eval (Expr.ListComp _ _ _ _) _) _ _ _)); (fail_if_success (with_reducible show wpAny _ _ (pyIter _) _ _ _)); (fail_if_success (with_reducible show wpAny _ _ (exec (Stmt.Assign _ (Expr.ListComp _ _ _ _) _) _) _ _ _)); (fail_if_success (with_reducible show TurnPost _ _ _ _ _ _ _ _ _)); first | (k_unfold; (try dsimp only)) | walk1 | (dsimp only; walk1)))
  rename_i L8 _ _ _ _ _ _ _ oT8 _ _ dT8 xM dM pM tM oM _ _ qM2 qM3 qM1 _ oMc dMc _ tq1 _ _ _ tq2 _ _ D8 _ l8 h8 oP8 F8 N8 dP8
  replace dT8 : oT8.data = .cell (some (.ref tb)) := dT8
  have hTb0 := Hold.intro hTb
  have lo := hTb.1
  refine ex1 hTb.2 ?_
  clear hTb
  intro kvs hx9
  have hDict := hx9.1
  have hFlat := hx9.2
  clear hx9
  replace hTb0 : TabAt (strKind PySem.Challenge.rw_il0007_01.row.prog w) PyData.str s.heap tb (tabD tab) := hTb0
  have hkl0 := (flat_at hFlat).1
  have hflat := (flat_at hFlat).2
  refine ListComp_assign (by rfl) (by rfl) rfl (by decide) ?_
  (repeat' ((fail_if_success (with_reducible show wpAny _ _ (exec (Stmt.For _ _ _ _ _) _) _ _ _)); (fail_if_success (with_reducible show wpAny _ _ (exec (Stmt.While _ _ _ _) _) _ _ _)); (fail_if_success (with_reducible show wpAny _ _ (eval (Expr.ListComp _ _ _ _) _) _ _ _)); (fail_if_success (with_reducible show wpAny _ _ (pyIter _) _ _ _)); (fail_if_success (with_reducible show wpAny _ _ (exec (Stmt.Assign _ (Expr.ListComp _ _ _ _) _) _) _ _ _)); (fail_if_success (with_reducible show TurnPost _ _ _ _ _ _ _ _ _)); first | (k_unfold; (try dsimp only)) | walk1 | (dsimp only; walk1)))
  refine ex1 hDict.dictAt ?_
  intro ep hAt
  refine comp_dictS (news := [(D8, _), (pM, oM), (xM, instObj 67 dM), (dM, _), (L8 + 1 + 1 + 1, oP8), (L8 + 1 + 1, oMc), (L8 + 1, oT8)]) (vs := kvs) (ep := ep) (Bd := fun v m' => m' (Str.ofString "key") = some v) (fun i ys nx => nx = [(D8, _), (pM, oM), (xM, instObj 67 dM), (dM, _), (L8 + 1 + 1 + 1, oP8), (L8 + 1 + 1, oMc), (L8 + 1, oT8)] ∧ ys.length ≤ i ∧ StrsAre ys (covFound tab (tab.take i) q)) rfl lo ?_ ?_ ?_ (by decide) rfl F8 N8 ⟨rfl, Nat.zero_le _, .nil⟩ (Puts.name rfl rfl) ⟨_, _, rfl⟩ ?_ ?_ rfl rfl rfl ?_
  · exact hAt.at' fun o e => F8.keep _ _ e
  · rintro h nx i ys F3 N3 _
    exact hAt.at' fun o e => F3.keep _ _ e
  · rw [sizeLine_eq]; omega
  · rintro i ys nx ⟨_, e, _⟩; exact e
  · rintro i v ys nx h tk I2 oI2 C oC D m₂ hi hv9 hJ hoC hb F3 N3 No hoff2 hCD hIC hID Y Z hY hZ
    refine ex2 hv9 ?_
    clear hv9
    intro k x hx9
    have hkv := hx9.1
    have hv := hx9.2
    clear hx9
    have qe1 := hJ.1
    have hyl := hJ.2.1
    have hys := hJ.2.2
    clear hJ
    subst qe1
    refine ex1 (str_key hv) ?_
    intro kt hx9
    subst hx9
    refine ex1 (hflat i k x hkv) ?_
    intro y hty
    have hmem := List.mem_of_getElem? hty
    have hkl : k.length ≤ 1010 := htk _ hmem
    refine ex1 (tabGet_some hmem) ?_
    intro z hz
    have hlook : PySem.Spec.lookup (.str k) (tabD tab) = some (.str z) := by rw [lookup_tabD, hz]; rfl
    have hta := filter_take_succ (fun p : Str × Str => suburi (hd1 p.1, tl1 p.1) (hd1 q, tl1 q)) tab i _ hty
    dsimp only at hta
    have N5 := news_in2 N3 No
    clear N3 No
    refine wpAny_tests_one ?_
    (repeat' ((fail_if_success (with_reducible show wpAny _ _ (exec (Stmt.For _ _ _ _ _) _) _ _ _)); (fail_if_success (with_reducible show wpAny _ _ (exec (Stmt.While _ _ _ _) _) _ _ _)); (fail_if_success (with_reducible show wpAny _ _ (eval (Expr.ListComp _ _ _ _) _) _ _ _)); (fail_if_success (with_reducible show wpAny _ _ (pyIter _) _ _ _)); (fail_if_success (with_reducible show wpAny _ _ (exec (Stmt.Assign _ (Expr.ListComp _ _ _ _) _) _) _ _ _)); (fail_if_success (with_reducible show TurnPost _ _ _ _ _ _ _ _ _)); first | (k_unfold; (try dsimp only)) | walk1 | (dsimp only; walk1)))
    (with_reducible rename Fr _ _ _ _ => kF); (with_reducible rename News _ _ _ _ => kN)
    k_dflt (refine Spec.use (suburi_call w xM _ D8 (hd1 k) (tl1 k) (hd1 q) (tl1 q) _ _ _ _ (slice_len _ _ _ hkl) (slice_len _ _ _ hkl) (slice_len _ _ _ hq) (slice_len _ _ _ hq)) (by k_asm) kF kN (by k_asm) (by k_asm) rfl (by ktr_room) (by ktr_units) ⟨News.isTup kN (by k_mem), News.isTup kN (by k_mem)⟩ ?_)
    clear kF kN
    rintro r hz9 tkZ FZ NZ keZ rfl
    (repeat' ((fail_if_success (with_reducible show wpAny _ _ (exec (Stmt.For _ _ _ _ _) _) _ _ _)); (fail_if_success (with_reducible show wpAny _ _ (exec (Stmt.While _ _ _ _) _) _ _ _)); (fail_if_success (with_reducible show wpAny _ _ (eval (Expr.ListComp _ _ _ _) _) _ _ _)); (fail_if_success (with_reducible show wpAny _ _ (pyIter _) _ _ _)); (fail_if_success (with_reducible show wpAny _ _ (exec (Stmt.Assign _ (Expr.ListComp _ _ _ _) _) _) _ _ _)); (fail_if_success (with_reducible show TurnPost _ _ _ _ _ _ _ _ _)); first | (k_unfold; (try dsimp only)) | walk1 | (dsimp only; walk1)))
    all_goals (with_reducible rename Fr _ _ _ _ => F6
               with_reducible rename News _ _ _ _ => N6
               have N7 := (one_leaf2 N6).1
               have No7 := (one_leaf2 N6).2
               first | refine hY _ _ ?_ | refine hZ _ ?_
               refine CEnd.intro _ F6 N7 No7 hoff2 ⟨rfl, ?_, ?_⟩)
    · rw [List.length_append, List.length_singleton]; omega
    · rename (suburi _ _ = _) => hc
      unfold covFound
      rw [hta, if_pos hc, List.map_append]
      have e : (tabGet tab k).getD Str.empty = z := by rw [hz]; rfl
      have hz' : List.map (fun p : Str × Str => (tabGet tab p.1).getD Str.empty) [(k, y)] = [z] := by
        show [(tabGet tab k).getD Str.empty] = [z]
        rw [e]
      rw [hz']
      exact strsAre_snocL hys
    · omega
    · rename (suburi _ _ = _) => hc
      unfold covFound
      rw [hta, hc, if_neg Bool.false_ne_true, List.append_nil]
      exact hys
  · intro D h tk ys nx hJ N6 hD F6
    have qe1 := hJ.1
    have hyl := hJ.2.1
    have hys := hJ.2.2
    clear hJ
    subst qe1
    rw [List.take_of_length_le (by rw [hkl0]; exact Nat.le_refl _)] at hys
    (repeat' ((fail_if_success (with_reducible show wpAny _ _ (exec (Stmt.For _ _ _ _ _) _) _ _ _)); (fail_if_success (with_reducible show wpAny _ _ (exec (Stmt.While _ _ _ _) _) _ _ _)); (fail_if_success (with_reducible show wpAny _ _ (eval (Expr.ListComp _ _ _ _) _) _ _ _)); (fail_if_success (with_reducible show wpAny _ _ (pyIter _) _ _ _)); (fail_if_success (with_reducible show wpAny _ _ (exec (Stmt.Assign _ (Expr.ListComp _ _ _ _) _) _) _ _ _)); (fail_if_success (with_reducible show TurnPost _ _ _ _ _ _ _ _ _)); first | (k_unfold; (try dsimp only)) | walk1 | (dsimp only; walk1)))
    refine ListComp_open (by rfl) rfl (by decide) ?_
    (repeat' ((fail_if_success (with_reducible show wpAny _ _ (exec (Stmt.For _ _ _ _ _) _) _ _ _)); (fail_if_success (with_reducible show wpAny _ _ (exec (Stmt.While _ _ _ _) _) _ _ _)); (fail_if_success (with_reducible show wpAny _ _ (eval (Expr.ListComp _ _ _ _) _) _ _ _)); (fail_if_success (with_reducible show wpAny _ _ (pyIter _) _ _ _)); (fail_if_success (with_reducible show wpAny _ _ (exec (Stmt.Assign _ (Expr.ListComp _ _ _ _) _) _) _ _ _)); (fail_if_success (with_reducible show TurnPost _ _ _ _ _ _ _ _ _)); first | (k_unfold; (try dsimp only)) | walk1 | (dsimp only; walk1)))
    k_dflt (refine anc_call w q u hq (by k_asm) F6 N6 (by k_asm) (by k_asm) rfl (by ktr_room) (by ktr_units) l ha ?_)
    intro ga Lg h1 tk1 gs og oL own IT hown hbare F7 N7 hoff hgaL hLgL h0a h0l
    clear F6 N6
    refine comp_anc (news := [(D, lst ys), (D8, _), (pM, oM), (xM, instObj 67 dM), (dM, _), (L8 + 1 + 1 + 1, oP8), (L8 + 1 + 1, oMc), (L8 + 1, oT8)]) (n := l.length) (P := ancP l) (adr := [ga, Lg]) (own := own) (Bd := fun v m' => m' (Str.ofString "way") = some v) (fun i zs nx => nx = [(D, lst ys), (D8, _), (pM, oM), (xM, instObj 67 dM), (dM, _), (L8 + 1 + 1 + 1, oP8), (L8 + 1 + 1, oMc), (L8 + 1, oT8)] ∧ zs.length ≤ i ∧ StrsAre zs ((l.take i).filterMap (tabGet tab))) IT ?_ (by decide) rfl hown F7 N7 ?_ ?_ ⟨rfl, Nat.zero_le _, .nil⟩ (Puts.name rfl rfl) ⟨_, _, rfl⟩ ?_ ?_ ?_
    · rw [sizeLine_eq]; omega
    · intro b hb
      simp only [List.mem_cons, List.not_mem_nil, or_false] at hb
      rcases hb with rfl | rfl
      · exact ⟨hgaL, h0a⟩
      · exact ⟨hLgL, h0l⟩
    · intro p hp hm
      simp only [List.mem_cons, List.not_mem_nil, or_false] at hm
      rcases hm with hm | hm
      · exact (hoff p hp).1 hm
      · exact (hoff p hp).2 hm
    · rintro i ys nx ⟨_, e, _⟩; exact e
    · rintro i v zs nx h tk g o C oC D2 m₂ hi hv9 hJ hoC hb F3 N3 No hoff3 hCD hoa Y Z hY hZ
      refine ex2 hv9 ?_
      clear hv9
      intro y yt hx9
      have hy := hx9.1
      have qe1 := hx9.2
      clear hx9
      subst qe1
      have qe1 := hJ.1
      have hzl := hJ.2.1
      have hzs := hJ.2.2
      clear hJ
      subst qe1
      have hta : (l.take (i + 1)).filterMap (tabGet tab) = (l.take i).filterMap (tabGet tab) ++ (tabGet tab y).toList := by
        rw [List.take_add_one, hy, Option.toList_some, List.filterMap_append]
        cases h9 : tabGet tab y with
        | none => simp [h9]
        | some z => simp [h9]
      have hF3 := Hold.intro F3
      have hN3 := Hold.intro N3
      have hNo := Hold.intro No
      clear No
      cases hz : tabGet tab y with
      | some z =>
        have hlook : PySem.Spec.lookup (.str y) (tabD tab) = some (.str z) := by rw [lookup_tabD, hz]; rfl
        have hls : (PySem.Spec.lookup (.str y) (tabD tab)).isSome = true := by rw [hlook]; rfl
        refine wpAny_tests_one ?_
        (repeat' ((fail_if_success (with_reducible show wpAny _ _ (exec (Stmt.For _ _ _ _ _) _) _ _ _)); (fail_if_success (with_reducible show wpAny _ _ (exec (Stmt.While _ _ _ _) _) _ _ _)); (fail_if_success (with_reducible show wpAny _ _ (eval (Expr.ListComp _ _ _ _) _) _ _ _)); (fail_if_success (with_reducible show wpAny _ _ (pyIter _) _ _ _)); (fail_if_success (with_reducible show wpAny _ _ (exec (Stmt.Assign _ (Expr.ListComp _ _ _ _) _) _) _ _ _)); (fail_if_success (with_reducible show TurnPost _ _ _ _ _ _ _ _ _)); first | (k_unfold; (try dsimp only)) | walk1 | (dsimp only; walk1)))
        · refine hY _ _ (CEnd.intro _ hF3 hN3 hNo hoff3 ⟨rfl, ?_, ?_⟩)
          · rw [List.length_append, List.length_singleton]; omega
          · rw [hta, hz]
            exact strsAre_snocL hzs
      | none =>
        have hls : (PySem.Spec.lookup (.str y) (tabD tab)).isSome = false := by rw [lookup_tabD, hz]; rfl
        refine wpAny_tests_one ?_
        (repeat' ((fail_if_success (with_reducible show wpAny _ _ (exec (Stmt.For _ _ _ _ _) _) _ _ _)); (fail_if_success (with_reducible show wpAny _ _ (exec (Stmt.While _ _ _ _) _) _ _ _)); (fail_if_success (with_reducible show wpAny _ _ (eval (Expr.ListComp _ _ _ _) _) _ _ _)); (fail_if_success (with_reducible show wpAny _ _ (pyIter _) _ _ _)); (fail_if_success (with_reducible show wpAny _ _ (exec (Stmt.Assign _ (Expr.ListComp _ _ _ _) _) _) _ _ _)); (fail_if_success (with_reducible show TurnPost _ _ _ _ _ _ _ _ _)); first | (k_unfold; (try dsimp only)) | walk1 | (dsimp only; walk1)))
        refine hZ _ (CEnd.intro _ hF3 hN3 hNo hoff3 ⟨rfl, ?_, ?_⟩)
        · omega
        · rw [hta, hz]
          show StrsAre zs (_ ++ [])
          rw [List.append_nil]; exact hzs
    · intro D2 h tk g zs nx hG hJ N9 hD2 F9
      have qe1 := hJ.1
      have hzl := hJ.2.1
      have hzs := hJ.2.2
      clear hJ
      subst qe1
      rw [List.take_of_length_le (Nat.le_refl _)] at hzs
      (repeat' ((fail_if_success (with_reducible show wpAny _ _ (exec (Stmt.For _ _ _ _ _) _) _ _ _)); (fail_if_success (with_reducible show wpAny _ _ (exec (Stmt.While _ _ _ _) _) _ _ _)); (fail_if_success (with_reducible show wpAny _ _ (eval (Expr.ListComp _ _ _ _) _) _ _ _)); (fail_if_success (with_reducible show wpAny _ _ (pyIter _) _ _ _)); (fail_if_success (with_reducible show wpAny _ _ (exec (Stmt.Assign _ (Expr.ListComp _ _ _ _) _) _) _ _ _)); (fail_if_success (with_reducible show TurnPost _ _ _ _ _ _ _ _ _)); first | (k_unfold; (try dsimp only)) | walk1 | (dsimp only; walk1)))
      with_reducible rename News _ _ _ _ => N10
      with_reducible rename Fr _ _ _ _ => F10
      have M9 := due_made2 N10
      exact Fin.intro (hret _ _ _ _ (fun hb => hG (hb.push hbare)) F10.keep ⟨_, D, D2, ys.toArray, zs.toArray, _, _, _, rfl, M9, hys, hzs⟩)
end
section
noncomputable def tOk (g : GSt) : Prop := g.above.length = g.places.length ∧ 2 ≤ g.places.length ∧ (∀ t ∈ g.told, (0 ≤ t.1 ∧ t.1 < (g.places.length : Int)) ∧ (0 ≤ t.2.1 ∧ t.2.1 ≤ 1) ∧ t.2.2.length ≤ 1) ∧
  (∀ n : Int, 0 ≤ n → n < g.above.length → 0 ≤ g.above.getD n.toNat 0 ∧ g.above.getD n.toNat 0 ≤ n)
theorem gWord1_len (r : Int) : (gWord1 r).length ≤ 1 := by
  unfold gWord1
  refine getD_le (n := 1) ?_ _
  intro y hy
  simp only [List.mem_cons, List.not_mem_nil, or_false] at hy
  rcases hy with rfl | rfl | rfl | rfl
  · decide +kernel
  · decide +kernel
  · decide +kernel
  · exact Nat.le_of_ble_eq_true rfl
theorem tOk_step {g : GSt} (x : Int) (h : tOk g) : tOk (gStep g x) := by
  obtain ⟨h1, h2, h3, h4⟩ := h
  have hnd0 : 0 ≤ gNode g x := fmod_lo _ (by omega)
  have hnd1 : gNode g x < (g.places.length : Int) := fmod_hi _ (by omega)
  unfold gStep
  split
  · refine ⟨h1, h2, ?_, h4⟩
    intro t ht
    rcases List.mem_append.mp ht with ht | ht
    · exact h3 t ht
    · rw [List.mem_singleton.mp ht]
      refine ⟨⟨hnd0, hnd1⟩, ⟨fmod_lo _ (by decide), ?_⟩, gWord1_len _⟩
      have : (gRest g x).fmod 2 < 2 := fmod_hi _ (by decide)
      exact Int.le_of_lt_add_one this
  · split
    · exact ⟨h1, h2, h3, h4⟩
    · refine ⟨?_, ?_, ?_, ?_⟩
      · show (g.above ++ [_]).length = (g.places ++ [_]).length
        rw [List.length_append, List.length_append, h1, List.length_singleton, List.length_singleton]
      · show 2 ≤ (g.places ++ [_]).length
        rw [List.length_append]; exact Nat.le_trans h2 (Nat.le_add_right _ _)
      · intro t ht
        obtain ⟨⟨a, b⟩, c⟩ := h3 t ht
        refine ⟨⟨a, ?_⟩, c⟩
        show t.1 < ((g.places ++ [_]).length : Int)
        rw [List.length_append, List.length_singleton]; exact Int.lt_of_lt_of_le b (Int.ofNat_le.mpr (Nat.le_add_right _ _))
      · intro n hn0 hn1
        have hn2 : n < ((g.above ++ [gNode g x]).length : Int) := hn1
        show 0 ≤ (g.above ++ [gNode g x]).getD n.toNat 0 ∧ (g.above ++ [gNode g x]).getD n.toNat 0 ≤ n
        rw [List.length_append, List.length_singleton] at hn2
        by_cases hlt : n.toNat < g.above.length
        · rw [List.getD_eq_getElem?_getD, List.getElem?_append_left hlt, ← List.getD_eq_getElem?_getD]
          exact h4 n hn0 (by omega)
        · have he : n.toNat = g.above.length := by omega
          rw [List.getD_eq_getElem?_getD, he, List.getElem?_append_right (Nat.le_refl _), Nat.sub_self]
          show 0 ≤ gNode g x ∧ gNode g x ≤ n
          omega
theorem tOk_grown (xs : List Int) : tOk (grown xs) := by
  suffices h : ∀ (l : List Int) g, tOk g → tOk (l.foldl gStep g) from h xs gInit ⟨rfl, by decide, (fun t ht => nomatch ht), by
    intro n h0 h1
    have : n = 0 ∨ n = 1 := by
      have : n < 2 := h1
      omega
    rcases this with rfl | rfl <;> decide⟩
  intro l
  induction l with
  | nil => intro g h; exact h
  | cons c r ih => intro g h; exact ih _ (tOk_step c h)
end
section
open Builtin Builtin.Str
noncomputable def tx (x : Str) : List Nat := x.cps.toList
theorem tx_ext {x y : Str} (h : tx x = tx y) : x = y := str_ext h
theorem tx_len (x : Str) : (tx x).length = x.length := by simp [tx, Str.length]
theorem tx_app (x y : Str) : tx (x ++ y) = tx x ++ tx y := by
  show (x ++ y).cps.toList = _
  rw [Str.cps_append, Array.toList_append]; rfl
theorem tx_mk (l : List Nat) : tx ⟨l.toArray⟩ = l := rfl
theorem tx_slash : tx (Str.ofString "/") = [47] := by rw [lit_slash]; rfl
theorem tx_eq : tx (Str.ofString "=") = [61] := by rw [lit_eq]; rfl
theorem tx_q : tx (Str.ofString "\"") = [34] := by rw [lit_q]; rfl
theorem tx_bs : tx (Str.ofString "\\") = [92] := by rw [lit_bs]; rfl
theorem tx_empty : tx Str.empty = [] := rfl
theorem tx_beq (x y : Str) : (x == y) = decide (tx x = tx y) := by
  by_cases h : x = y
  · subst h; simp
  · have : ¬ tx x = tx y := fun e => h (tx_ext e)
    rw [decide_eq_false this]
    exact beq_eq_false_iff_ne.mpr h
theorem slice_to (x : Str) (k : Nat) (hk : k ≤ (tx x).length) : tx (Txt.slice x none (some (k : Int))) = (tx x).take k := by
  have e : Txt.slice x none (some (k : Int)) = StrLaws.sliceText x none (some (k : Int)) := rfl
  rw [e, StrLaws.sliceText_to (x := x) (j := (k : Int)) ⟨by omega, by unfold tx at hk; omega⟩, tx_mk, List.drop_zero]
  rw [show ((k : Int) - 0).toNat = k by omega]; rfl
theorem slice_from (x : Str) (k : Nat) (hk : k ≤ (tx x).length) : tx (Txt.slice x (some (k : Int)) none) = (tx x).drop k := by
  have e : Txt.slice x (some (k : Int)) none = StrLaws.sliceText x (some (k : Int)) none := rfl
  rw [e, StrLaws.sliceText_from (x := x) (i := (k : Int)) ⟨by omega, by unfold tx at hk; omega⟩, tx_mk]
  rw [show ((k : Int)).toNat = k by omega]
  refine List.take_of_length_le ?_
  rw [List.length_drop]; omega
theorem slice_mid (x : Str) (hx : 2 ≤ (tx x).length) : tx (Txt.slice x (some 1) (some (-1))) = ((tx x).drop 1).take ((tx x).length - 2) := by
  have e : Txt.slice x (some 1) (some (-1)) = StrLaws.sliceText x (some 1) (some (-1)) := rfl
  have hl := tx_len x
  rw [e, StrLaws.sliceText_neg_hi x (some 1) (by decide) (by omega), StrLaws.sliceText_plain (x := x) ⟨by decide, by omega, by unfold tx at hl; omega⟩, tx_mk]
  show (x.cps.toList.drop 1).take _ = _
  rw [show ((-1 : Int) + (x.length : Int) - 1).toNat = (tx x).length - 2 by omega]; rfl
theorem slice_last (x : Str) (hx : 1 ≤ (tx x).length) : tx (Txt.slice x (some (-1)) none) = (tx x).drop ((tx x).length - 1) := by
  have e : Txt.slice x (some (-1)) none = StrLaws.sliceText x (some (-1)) none := rfl
  have hl := tx_len x
  rw [e, StrLaws.sliceText_from_neg (x := x) (i := -1) (by decide) (by omega), tx_mk]
  rw [show ((-1 : Int) + (x.length : Int)).toNat = (tx x).length - 1 by omega]
  refine List.take_of_length_le ?_
  show ((tx x).drop _).length ≤ _
  rw [List.length_drop]
  show _ ≤ (((tx x).length : Int) - _).toNat
  omega
theorem slice_nil (x : Str) (hx : tx x = []) (l u : Option Int) : tx (Txt.slice x l u) = [] := by
  have h := Txt.slice_le x l u
  rw [← tx_len, ← tx_len, hx] at h
  exact List.eq_nil_of_length_eq_zero (Nat.le_zero.mp h)
theorem rstrip_of (x : Str) (p : List Nat) (n : Nat) (hp : p.getLast? ≠ some 47) (h : tx x = p ++ List.replicate n 47) : tx (Txt.rstripChars x (Str.ofString "/")) = p := by
  rw [lit_slash]
  unfold Txt.rstripChars
  rw [PyProof.Rows.stripBy_eq]
  show tx (strSub x 0 (stripHi _ true x 0)) = p
  have hc : (#[47] : Array Nat).contains = fun k => k == 47 := by
    funext k
    rw [Bool.eq_iff_iff]
    simp
  have hw : ((tx x).reverse.takeWhile (#[47] : Array Nat).contains).length = n := by
    rw [hc, h, List.reverse_append, List.reverse_replicate]
    rw [List.takeWhile_append_of_pos (by intro a ha; rw [List.eq_of_mem_replicate ha]; rfl)]
    have : p.reverse.takeWhile (fun k => k == 47) = [] := by
      rcases hr : p.reverse with _ | ⟨a, r⟩
      · rfl
      · rw [List.takeWhile_cons_of_neg]
        intro ha
        apply hp
        rw [List.getLast?_eq_head?_reverse, hr]
        have := eq_of_beq ha
        rw [this]; rfl
    rw [this, List.append_nil, List.length_replicate]
  have hs : stripHi (#[47] : Array Nat).contains true x 0 = p.length := by
    simp only [stripHi, if_true, List.drop_zero]
    have := congrArg List.length h
    rw [List.length_append, List.length_replicate, tx_len] at this
    show x.length - ((tx x).reverse.takeWhile _).length = _
    rw [hw]; omega
  show tx (strSub x 0 (stripHi (#[47] : Array Nat).contains true x 0)) = p
  rw [hs]
  show (strSub x 0 p.length).cps.toList = p
  rw [StrLaws.strSub_toList]
  show ((tx x).drop 0).take _ = p
  rw [h, List.drop_zero, Nat.sub_zero, List.take_left]
theorem at_one (x : Str) (c i : Nat) : StrLaws.At x ⟨#[c]⟩ x.length i ↔ (tx x)[i]? = some c := StrLaws.subAt_one x c i
theorem rfind_no (x : Str) (h : 47 ∉ tx x) : Txt.rfind x (Str.ofString "/") = -1 := by
  rw [lit_slash]
  rcases rfind_whole x ⟨#[47]⟩ with ⟨e, _⟩ | ⟨i, _, hi, _⟩
  · exact e
  · exact absurd (List.mem_of_getElem? ((at_one x 47 i).mp hi)) h
theorem rfind_at (x : Str) (p w : List Nat) (h : tx x = p ++ 47 :: w) (hw : 47 ∉ w) : Txt.rfind x (Str.ofString "/") = (p.length : Int) := by
  rw [lit_slash]
  have hp : StrLaws.At x ⟨#[47]⟩ x.length p.length := by
    rw [at_one, h, List.getElem?_append_right (Nat.le_refl _), Nat.sub_self]; rfl
  have hn : ∀ k, p.length < k → ¬ StrLaws.At x ⟨#[47]⟩ x.length k := by
    intro k hk hak
    rw [at_one, h, List.getElem?_append_right (by omega)] at hak
    obtain ⟨j, hj⟩ : ∃ j, k - p.length = j + 1 := ⟨k - p.length - 1, by omega⟩
    rw [hj, List.getElem?_cons_succ] at hak
    exact hw (List.mem_of_getElem? hak)
  rcases rfind_whole x ⟨#[47]⟩ with ⟨_, hno⟩ | ⟨i, e, hi, hmax⟩
  · exact absurd hp (hno _)
  · rw [e]
    rcases Nat.lt_trichotomy i p.length with hlt | heq | hgt
    · exact absurd hp (hmax _ hlt)
    · rw [heq]
    · exact absurd hi (hn _ hgt)
theorem starts_tx (x y : Str) : Txt.startswith x y = true ↔ tx y <+: tx x := by
  unfold Txt.startswith
  rw [StrLaws.subAt_eq, Bool.and_eq_true, decide_eq_true_eq, beq_iff_eq, List.drop_zero]
  show (0 + y.length ≤ x.length ∧ (tx x).take y.length = tx y) ↔ _
  rw [List.prefix_iff_eq_take, tx_len]
  constructor
  · rintro ⟨_, h⟩; exact h.symm
  · intro h
    refine ⟨?_, h.symm⟩
    have := congrArg List.length h
    rw [List.length_take, tx_len, tx_len] at this
    omega
theorem item_first (x : Str) (c : Nat) (l : List Nat) (h : tx x = c :: l) : Txt.item x 0 = ⟨#[c]⟩ := by
  unfold Txt.item Txt.charAt
  have h0 : x.cps[(0 : Int).toNat]? = some c := by
    have : x.cps.toList[0]? = some c := by
      show (tx x)[0]? = _
      rw [h]; rfl
    rw [← Array.getElem?_toList]; exact this
  rw [StrLaws.at_nonneg (Int.le_refl 0) h0]; rfl
theorem item_last (x : Str) (c : Nat) (l : List Nat) (h : tx x = l ++ [c]) : Txt.item x (-1) = ⟨#[c]⟩ := by
  unfold Txt.item Txt.charAt
  have hl : x.length = l.length + 1 := by rw [← tx_len, h]; simp
  have h0 : x.cps[((-1 : Int) + x.length).toNat]? = some c := by
    have : x.cps.toList[l.length]? = some c := by
      show (tx x)[l.length]? = _
      rw [h]; simp
    rw [show ((-1 : Int) + x.length).toNat = l.length by omega, ← Array.getElem?_toList]; exact this
  rw [StrLaws.at_neg (by decide) (by omega) h0]; rfl
theorem strip_stay (x : Str) (c d : Nat) (l m : List Nat) (h1 : tx x = c :: l) (h2 : tx x = m ++ [d]) (hc : Unicode.isSpace c = false) (hd : Unicode.isSpace d = false) : Txt.strip x = x := by
  unfold Txt.strip
  rw [PyProof.Rows.stripBy_eq]
  have lo : stripLo Unicode.isSpace true x = 0 := by
    simp only [stripLo, if_true]
    show ((tx x).takeWhile _).length = 0
    rw [h1, List.takeWhile_cons_of_neg (by simp [hc])]; rfl
  have hi : stripHi Unicode.isSpace true x 0 = x.length := by
    simp only [stripHi, if_true, List.drop_zero]
    show x.length - ((tx x).reverse.takeWhile _).length = _
    rw [h2, List.reverse_append, List.reverse_singleton, List.singleton_append, List.takeWhile_cons_of_neg (by simp [hd])]; rfl
  rw [lo, hi]
  exact strSub_whole x
theorem strip_blank (x y : Str) (c d : Nat) (l m : List Nat) (h : tx x = 32 :: tx y) (h1 : tx y = c :: l) (h2 : tx y = m ++ [d]) (hc : Unicode.isSpace c = false) (hd : Unicode.isSpace d = false) : Txt.strip x = y := by
  unfold Txt.strip
  rw [PyProof.Rows.stripBy_eq]
  have h32 : Unicode.isSpace 32 = true := by decide +kernel
  have lo : stripLo Unicode.isSpace true x = 1 := by
    simp only [stripLo, if_true]
    show ((tx x).takeWhile _).length = 1
    rw [h, List.takeWhile_cons_of_pos (by simp [h32]), h1, List.takeWhile_cons_of_neg (by simp [hc])]; rfl
  have hi : stripHi Unicode.isSpace true x 1 = x.length := by
    simp only [stripHi, if_true]
    show x.length - (((tx x).drop 1).reverse.takeWhile _).length = _
    rw [h, List.drop_succ_cons, List.drop_zero, h2, List.reverse_append, List.reverse_singleton, List.singleton_append, List.takeWhile_cons_of_neg (by simp [hd])]; rfl
  rw [lo, hi]
  refine tx_ext ?_
  show (strSub x 1 x.length).cps.toList = _
  rw [StrLaws.strSub_toList]
  show ((tx x).drop 1).take _ = _
  rw [← tx_len, h, List.drop_succ_cons, List.drop_zero]
  exact List.take_of_length_le (by rw [List.length_cons]; omega)
theorem tx_mul0 : tx (Txt.mul (Str.ofString "/") 0) = [] := rfl
noncomputable def glue (z : List Nat) : List (List Nat) → List Nat
  | [] => []
  | [p] => p
  | p :: r => p ++ z ++ glue z r
theorem join_tx (z : Str) : ∀ l : List Str, tx (Txt.join z l) = glue (tx z) (l.map tx) := by
  have e : ∀ l : List Str, Txt.join z l = Str.join z l := fun l => StrLaws.glued_eq_join z l
  intro l
  rw [e]
  induction l with
  | nil => rfl
  | cons p r ih =>
    cases r with
    | nil => rfl
    | cons q r =>
      show tx (p ++ z ++ Str.join z (q :: r)) = tx p ++ tx z ++ glue (tx z) ((q :: r).map tx)
      rw [tx_app, tx_app, ih]
end
section
open Builtin Builtin.Str
theorem rep_last {p q : List Nat} {i j : Nat} (hp : p.getLast? ≠ some 47) (hq : q.getLast? ≠ some 47) (h : p ++ List.replicate i 47 = q ++ List.replicate j 47) : p = q ∧ i = j := by
  have e : p = q := by
    have a := rstrip_of (⟨(p ++ List.replicate i 47).toArray⟩ : Str) p i hp rfl
    have hx : tx (⟨(p ++ List.replicate i 47).toArray⟩ : Str) = q ++ List.replicate j 47 := h
    exact a.symm.trans (rstrip_of _ q j hq hx)
  refine ⟨e, ?_⟩
  have := congrArg List.length h
  rw [List.length_append, List.length_append, List.length_replicate, List.length_replicate, e] at this
  omega
theorem last_out {p : List Nat} {Y w : List Nat} (h : p ++ [47] <+: Y ++ w) (hw : 47 ∉ w) : p ++ [47] <+: Y := by
  by_cases hl : (p ++ [47]).length ≤ Y.length
  · exact List.prefix_of_prefix_length_le h (List.prefix_append _ _) hl
  · exfalso
    rw [List.length_append, List.length_singleton] at hl
    obtain ⟨z, hz⟩ := h
    have h1 : (p ++ [47] ++ z)[p.length]? = some 47 := by simp
    rw [hz, List.getElem?_append_right (by omega)] at h1
    exact hw (List.mem_of_getElem? h1)
theorem last_in {p A : List Nat} {s : Nat} (h0 : p ≠ []) (hp : p.getLast? ≠ some 47) (hs : 1 ≤ s) (h : p ++ [47] <+: A ++ List.replicate s 47) : p ++ [47] <+: A ++ [47] := by
  have hA : A ++ [47] <+: A ++ List.replicate s 47 := by
    obtain ⟨t, rfl⟩ : ∃ t, s = t + 1 := ⟨s - 1, by omega⟩
    rw [List.replicate_succ]
    exact ⟨List.replicate t 47, by simp⟩
  by_cases hl : p.length ≤ A.length
  · exact List.prefix_of_prefix_length_le h hA (by simp; omega)
  · exfalso
    have hpos : 0 < p.length := List.length_pos_iff.mpr h0
    obtain ⟨z, hz⟩ := h
    apply hp
    rw [List.getLast?_eq_getElem?]
    have h1 : (p ++ [47] ++ z)[p.length - 1]? = p[p.length - 1]? := by
      rw [List.append_assoc, List.getElem?_append_left (by omega)]
    rw [← h1, hz, List.getElem?_append_right (by omega), List.getElem?_replicate]
    have := congrArg List.length hz
    simp at this
    rw [if_pos (by omega)]
theorem pfx_step {p A w : List Nat} {s : Nat} (h0 : p ≠ []) (hp : p.getLast? ≠ some 47) (hs : 1 ≤ s) (hw : 47 ∉ w) :
    p ++ [47] <+: A ++ List.replicate s 47 ++ w ++ [47] ↔ p = A ++ List.replicate s 47 ++ w ∨ p ++ [47] <+: A ++ [47] := by
  constructor
  · intro h
    rcases List.prefix_concat_iff.mp h with h | h
    · exact .inl (List.append_cancel_right h)
    · exact .inr (last_in h0 hp hs (last_out h hw))
  · rintro (rfl | h)
    · exact List.prefix_refl _
    · refine h.trans ?_
      obtain ⟨t, rfl⟩ : ∃ t, s = t + 1 := ⟨s - 1, by omega⟩
      rw [List.replicate_succ]
      exact ⟨List.replicate t 47 ++ w ++ [47], by simp⟩
theorem pfx_root {p : List Nat} {c : Nat} (h0 : p ≠ []) : p ++ [47] <+: [c] ++ [47] ↔ p = [c] := by
  have hpos : 0 < p.length := List.length_pos_iff.mpr h0
  constructor
  · intro h
    rcases List.prefix_concat_iff.mp h with h | h
    · exact List.append_cancel_right h
    · have := h.length_le
      simp only [List.length_append, List.length_singleton] at this
      omega
  · rintro rfl; exact List.prefix_refl _
theorem last_ne {p w : List Nat} (h0 : w ≠ []) (hw : 47 ∉ w) : (p ++ w).getLast? ≠ some 47 := by
  intro h
  rw [List.getLast?_append] at h
  rcases hl : w.getLast? with _ | c
  · exact h0 (List.getLast?_eq_none_iff.mp hl)
  · rw [hl, Option.some_or] at h
    exact hw (List.mem_of_getLast? (hl.trans h))
theorem fold_rep (k : Nat) : ∀ acc : Array Nat, ((List.replicate k (#[47] : Array Nat)).foldl (· ++ ·) acc).toList = acc.toList ++ List.replicate k 47 := by
  induction k with
  | zero => intro acc; simp
  | succ k ih => intro acc; rw [List.replicate_succ, List.foldl_cons, ih, Array.toList_append, List.replicate_succ]; simp
theorem tx_mulAll (n : Int) (h0 : 0 ≤ n) : tx (Txt.mul (Str.ofString "/") n) = List.replicate n.toNat 47 := by
  rw [lit_slash]
  unfold Txt.mul
  split
  · have : n = 0 := by omega
    subst this; rfl
  · split
    · rename_i h1
      have : n = 1 := by simpa [Str.length] using h1
      subst this; rfl
    · exact (fold_rep n.toNat #[]).trans (List.nil_append _)
end
section
noncomputable def keyOf (places : List Str) (node slash : Int) : Str := places.getD node.toNat Str.empty ++ Txt.mul (Str.ofString "/") slash
noncomputable def rawOf (w : Str) : Str := if w = Str.ofString "\\" then w else Str.ofString "\"" ++ w ++ Str.ofString "\""
noncomputable def kvOf (places : List Str) (t : Tell) : Str × Str := (keyOf places t.1 t.2.1, rawOf t.2.2)
noncomputable def tabFor (g : GSt) : List (Str × Str) := tabOf (g.told.map (kvOf g.places))
theorem toldAll_of {h₀ h : Heap} {L : Addr} {news tups : Led} {vs : List Value} {ts : List Tell} (N : News h₀ L h news) (hs : ∀ p ∈ tups, p ∈ news) (x : ToldInAll tups vs ts) : ToldAll h vs ts :=
  ⟨x.1, fun i v hv => by
    obtain ⟨t, e1, a, n1, n2, n3, n, e2, hm⟩ := x.2 i v hv
    exact ⟨t, e1, a, n1, n2, n3, e2, News.isTup N (hs _ hm)⟩⟩
theorem toldAll_of2 {h₀ h : Heap} {L : Addr} {news tups : Led} {vs : List Value} {ts : List Tell} (N : News h₀ L h news) (hs : ∀ p ∈ tups, p ∈ news) (x : AllIn ToldIn tups vs ts) : ToldAll h vs ts :=
  ⟨x.1, fun i v hv => by
    obtain ⟨t, e1, a, n1, n2, n3, n, e2, hm⟩ := x.2 i v hv
    exact ⟨t, e1, a, n1, n2, n3, e2, News.isTup N (hs _ hm)⟩⟩
theorem chain_ex (above : List Int) (hab : ∀ n : Int, 0 ≤ n → n < above.length → 0 ≤ above.getD n.toNat 0 ∧ above.getD n.toNat 0 ≤ n) : ∀ (k : Nat) (node : Int), node.toNat ≤ k → 0 ≤ node → node < above.length → ∃ chain, Chain above node chain := by
  intro k
  induction k with
  | zero =>
    intro node hk h0 h1
    have : node = 0 := by omega
    subst this
    have := hab 0 (by omega) h1
    exact ⟨[0], .stop (by omega)⟩
  | succ k ih =>
    intro node hk h0 h1
    obtain ⟨a0, a1⟩ := hab node h0 h1
    by_cases he : above.getD node.toNat 0 = node
    · exact ⟨[node], .stop he⟩
    · obtain ⟨l, hl⟩ := ih (above.getD node.toNat 0) (by omega) a0 (by omega)
      exact ⟨node :: l, .step he hl⟩
theorem chain_one {above : List Int} {n : Int} {l : List Int} (h : Chain above n l) : ∀ {l' : List Int}, Chain above n l' → l = l' := by
  induction h with
  | stop he =>
    intro l' h'
    cases h' with
    | stop _ => rfl
    | step hne _ => exact absurd he hne
  | step hne _ ih =>
    intro l' h'
    cases h' with
    | stop he => exact absurd he hne
    | step _ h2 => rw [ih h2]
end
section
open Builtin Builtin.Str
noncomputable def pt (places : List Str) (n : Nat) : List Nat := tx (places.getD n Str.empty)
noncomputable def Clean (w : List Nat) : Prop := 61 ∉ w ∧ 44 ∉ w ∧ 34 ∉ w
theorem Clean.app {a b : List Nat} (ha : Clean a) (hb : Clean b) : Clean (a ++ b) := by
  obtain ⟨a1, a2, a3⟩ := ha
  obtain ⟨b1, b2, b3⟩ := hb
  exact ⟨fun h => (List.mem_append.mp h).elim a1 b1, fun h => (List.mem_append.mp h).elim a2 b2, fun h => (List.mem_append.mp h).elim a3 b3⟩
theorem Clean.rep (s : Nat) : Clean (List.replicate s 47) :=
  ⟨fun h => absurd (List.eq_of_mem_replicate h) (by decide), fun h => absurd (List.eq_of_mem_replicate h) (by decide), fun h => absurd (List.eq_of_mem_replicate h) (by decide)⟩
noncomputable def Root (places : List Str) (above : List Int) (n : Nat) : Prop := above.getD n 0 = (n : Int) ∧ ∃ c, (c = 104 ∨ c = 103) ∧ pt places n = [c]
noncomputable def Below (places : List Str) (above : List Int) (n : Nat) : Prop := ∃ a : Nat, above.getD n 0 = (a : Int) ∧ a < n ∧ ∃ s w, 1 ≤ s ∧ w ≠ [] ∧ 47 ∉ w ∧ Clean w ∧ pt places n = pt places a ++ List.replicate s 47 ++ w
noncomputable def Stands (places : List Str) (above : List Int) : Prop := above.length = places.length ∧ places.Nodup ∧ ∀ n : Nat, n < places.length → Root places above n ∨ Below places above n
structure Good (p : List Nat) : Prop where
  head : ∃ c l, p = c :: l ∧ (c = 104 ∨ c = 103)
  last : p.getLast? ≠ some 47
  clean : Clean p
theorem Good.ne {p : List Nat} (h : Good p) : p ≠ [] := by
  obtain ⟨c, l, e, _⟩ := h.head
  rw [e]; exact fun x => nomatch x
theorem Stands.good {places : List Str} {above : List Int} (S : Stands places above) : ∀ (k n : Nat), n < k → n < places.length → Good (pt places n) := by
  intro k
  induction k with
  | zero => intro n h; omega
  | succ k ih =>
    intro n hk hn
    rcases S.2.2 n hn with ⟨_, c, hc, e⟩ | ⟨a, _, han, s, w, hs, hw0, hw, hcl, e⟩
    · rw [e]
      refine ⟨⟨c, [], rfl, hc⟩, ?_, ?_⟩
      · rintro h
        have : c = 47 := by simpa using h
        omega
      · refine ⟨fun h => ?_, fun h => ?_, fun h => ?_⟩ <;> (have := List.mem_singleton.mp h; omega)
    · obtain ⟨⟨c, l, e2, hc⟩, h2, h3⟩ := ih a (by omega) (by omega)
      rw [e]
      exact ⟨⟨c, l ++ List.replicate s 47 ++ w, by rw [e2]; simp, hc⟩, last_ne hw0 hw, (h3.app (Clean.rep s)).app hcl⟩
theorem Stands.good' {places : List Str} {above : List Int} (S : Stands places above) {n : Nat} (hn : n < places.length) : Good (pt places n) := S.good (n + 1) n (Nat.lt_succ_self n) hn
theorem nodup_ne {l : List Str} (h : l.Nodup) {i j : Nat} (hi : i < l.length) (hj : j < l.length) (he : pt l i = pt l j) : i = j := by
  have e : l[i] = l[j] := by
    have := tx_ext he
    rw [List.getD_eq_getElem?_getD, List.getD_eq_getElem?_getD, List.getElem?_eq_getElem hi, List.getElem?_eq_getElem hj] at this
    exact this
  have hp := List.pairwise_iff_getElem.mp h
  rcases Nat.lt_trichotomy i j with hl | hl | hl
  · exact absurd e (hp i j hi hj hl)
  · exact hl
  · exact absurd e.symm (hp j i hj hi hl)
theorem Stands.inj {places : List Str} {above : List Int} (S : Stands places above) {i j : Nat} (hi : i < places.length) (hj : j < places.length) (he : pt places i = pt places j) : i = j := nodup_ne S.2.1 hi hj he
theorem Stands.below {places : List Str} {above : List Int} (S : Stands places above) {n : Nat} (hn : n < places.length) (h : above.getD n 0 ≠ (n : Int)) : Below places above n := by
  rcases S.2.2 n hn with h1 | h1
  · exact absurd h1.1 h
  · exact h1
theorem Stands.root {places : List Str} {above : List Int} (S : Stands places above) {n : Nat} (hn : n < places.length) (h : above.getD n 0 = (n : Int)) : Root places above n := by
  rcases S.2.2 n hn with h1 | ⟨a, h1, h2, _⟩
  · exact h1
  · omega
theorem chain_cover {places : List Str} {above : List Int} (S : Stands places above) {z : Int} {chain : List Int} (hc : Chain above z chain) :
    ∀ n : Nat, z = (n : Int) → n < places.length → ∀ k : Nat, k < places.length → (pt places k ++ [47] <+: pt places n ++ [47] ↔ (k : Int) ∈ chain) := by
  induction hc with
  | stop he =>
    rintro n rfl hn k hk
    obtain ⟨_, c, _, e⟩ := S.root hn he
    rw [List.mem_singleton, e, pfx_root (S.good' hk).ne, ← e]
    constructor
    · intro h; exact congrArg Int.ofNat (S.inj hk hn h)
    · intro h; rw [Int.ofNat.inj h]
  | step hne _ ih =>
    rintro n rfl hn k hk
    obtain ⟨a, ha, han, s, w, hs, hw0, hw, hcl, e⟩ := S.below hn hne
    have ih' := ih a ha (by omega) k hk
    rw [List.mem_cons, ← ih', e, pfx_step (S.good' hk).ne (S.good' hk).last hs hw, ← e]
    constructor
    · rintro (h | h)
      · exact .inl (congrArg Int.ofNat (S.inj hk hn h))
      · exact .inr h
    · rintro (h | h)
      · exact .inl (by rw [Int.ofNat.inj h])
      · exact .inr h
theorem chain_range {places : List Str} {above : List Int} (S : Stands places above) {z : Int} {chain : List Int} (hc : Chain above z chain) :
    ∀ n : Nat, z = (n : Int) → n < places.length → z ∈ chain ∧ ∀ y ∈ chain, ∃ k : Nat, y = (k : Int) ∧ k < places.length := by
  induction hc with
  | stop he =>
    rintro n rfl hn
    refine ⟨List.mem_singleton.mpr rfl, fun y hy => ⟨n, List.mem_singleton.mp hy, hn⟩⟩
  | step hne _ ih =>
    rintro n rfl hn
    obtain ⟨a, ha, han, _⟩ := S.below hn hne
    obtain ⟨_, h2⟩ := ih a ha (by omega)
    refine ⟨List.mem_cons_self .., fun y hy => ?_⟩
    rcases List.mem_cons.mp hy with rfl | hy
    · exact ⟨n, rfl, hn⟩
    · exact h2 y hy
theorem chain_len {places : List Str} {above : List Int} (S : Stands places above) {z : Int} {chain : List Int} (hc : Chain above z chain) :
    ∀ n : Nat, z = (n : Int) → n < places.length → chain.length ≤ n + 1 := by
  induction hc with
  | stop he =>
    rintro n rfl hn
    simp
  | step hne _ ih =>
    rintro n rfl hn
    obtain ⟨a, ha, han, _⟩ := S.below hn hne
    have := ih a ha (by omega)
    rw [List.length_cons]; omega
end
section
open Builtin Builtin.Str
noncomputable def Wordy (x : Str) : Prop := tx x ≠ [] ∧ 47 ∉ tx x ∧ Clean (tx x)
theorem Wordy.of {x : Str} {l : List Nat} (e : x = ⟨l.toArray⟩) (h : (l != [] && !l.contains 47 && !l.contains 61 && !l.contains 44 && !l.contains 34) = true) : Wordy x := by
  subst e
  unfold Wordy Clean
  simp only [tx_mk]
  simpa [and_assoc] using h
theorem tx_menu : tx (Str.ofString "/=,\"") = [47, 61, 44, 34] := by
  have : Str.ofString "/=,\"" = ⟨#[47, 61, 44, 34]⟩ := by decide +kernel
  rw [this]; rfl
theorem gGood_free (c : Nat) (h : gGood ⟨#[c]⟩ = true) : c ∉ [47, 61, 44, 34] := by
  intro hm
  have h2 := StrLaws.found_one (Str.ofString "/=,\"") c
  have h3 : c ∈ (Str.ofString "/=,\"").cps.toList := by
    show c ∈ tx _
    rw [tx_menu]; exact hm
  rw [decide_eq_true h3] at h2
  unfold gGood at h
  rw [h] at h2
  cases h2
theorem gWord2_ok (r : Int) : Wordy (gWord2 r) := by
  have h0 : 0 ≤ (r.fdiv 2).fmod 4 := fmod_lo _ (by decide)
  have h1 : (r.fdiv 2).fmod 4 < 4 := fmod_hi _ (by decide)
  have la : Wordy (Str.ofString "a") := Wordy.of (l := [97]) (by decide +kernel) (by decide)
  have lab : Wordy (Str.ofString "ab") := Wordy.of (l := [97, 98]) (by decide +kernel) (by decide)
  have lb : Wordy (Str.ofString "b") := Wordy.of (l := [98]) (by decide +kernel) (by decide)
  have ld : Wordy (Str.ofString ".") := Wordy.of (l := [46]) (by decide +kernel) (by decide)
  unfold gWord2
  generalize (r.fdiv 2).fmod 4 = i at h0 h1
  have hi : i = 0 ∨ i = 1 ∨ i = 2 ∨ i = 3 := by omega
  split
  · rename_i hg
    have ls : Wordy (gSign r) := by
      have hf := gGood_free _ hg
      simp only [List.mem_cons, List.not_mem_nil, or_false, not_or] at hf
      obtain ⟨f1, f2, f3, f4⟩ := hf
      have e : tx (gSign r) = [((r.fdiv 8).fmod 55296).toNat] := rfl
      unfold Wordy Clean
      rw [e]
      exact ⟨List.cons_ne_nil _ _, fun h => f1 (List.mem_singleton.mp h).symm, fun h => f2 (List.mem_singleton.mp h).symm, fun h => f3 (List.mem_singleton.mp h).symm, fun h => f4 (List.mem_singleton.mp h).symm⟩
    rcases hi with rfl | rfl | rfl | rfl <;> assumption
  · rcases hi with rfl | rfl | rfl | rfl <;> assumption
theorem pt_old (places : List Str) (p : Str) {n : Nat} (h : n < places.length) : pt (places ++ [p]) n = pt places n := by
  unfold pt
  rw [List.getD_eq_getElem?_getD, List.getElem?_append_left h, ← List.getD_eq_getElem?_getD]
theorem pt_new (places : List Str) (p : Str) : pt (places ++ [p]) places.length = tx p := by
  unfold pt
  rw [List.getD_eq_getElem?_getD, List.getElem?_append_right (Nat.le_refl _), Nat.sub_self]; rfl
theorem ab_old (above : List Int) (a : Int) {n : Nat} (h : n < above.length) : (above ++ [a]).getD n 0 = above.getD n 0 := by
  rw [List.getD_eq_getElem?_getD, List.getElem?_append_left h, ← List.getD_eq_getElem?_getD]
theorem ab_new (above : List Int) (a : Int) : (above ++ [a]).getD above.length 0 = a := by
  rw [List.getD_eq_getElem?_getD, List.getElem?_append_right (Nat.le_refl _), Nat.sub_self]; rfl
theorem Stands.snoc {places : List Str} {above : List Int} (S : Stands places above) {p : Str} {a : Nat} (ha : a < places.length) (hp : p ∉ places) {s : Nat} {w : List Nat} (hs : 1 ≤ s) (hw0 : w ≠ []) (hw : 47 ∉ w) (hc : Clean w)
    (he : tx p = pt places a ++ List.replicate s 47 ++ w) : Stands (places ++ [p]) (above ++ [(a : Int)]) := by
  obtain ⟨h1, h2, h3⟩ := S
  refine ⟨by simp [h1], ?_, ?_⟩
  · refine List.nodup_append.mpr ⟨h2, List.pairwise_singleton _ _, ?_⟩
    intro x hx y hy
    rw [List.mem_singleton.mp hy]
    rintro rfl
    exact hp hx
  · intro n hn
    rw [List.length_append, List.length_singleton] at hn
    by_cases hlt : n < places.length
    · rcases h3 n hlt with ⟨q1, c, q2, q3⟩ | ⟨b, q1, q2, s', w', q3, q4, q5, q6, q7⟩
      · exact .inl ⟨by rw [ab_old _ _ (by omega)]; exact q1, c, q2, by rw [pt_old _ _ hlt]; exact q3⟩
      · exact .inr ⟨b, by rw [ab_old _ _ (by omega)]; exact q1, q2, s', w', q3, q4, q5, q6, by rw [pt_old _ _ hlt, pt_old _ _ (by omega)]; exact q7⟩
    · have : n = places.length := by omega
      subst this
      refine .inr ⟨a, by rw [← h1]; exact ab_new _ _, ha, s, w, hs, hw0, hw, hc, ?_⟩
      rw [pt_new, pt_old _ _ ha]; exact he
theorem stands_step {g : GSt} (x : Int) (h0 : 2 ≤ g.places.length) (S : Stands g.places g.above) : Stands (gStep g x).places (gStep g x).above := by
  have hnd0 : 0 ≤ gNode g x := fmod_lo _ (by omega)
  have hnd1 : gNode g x < (g.places.length : Int) := fmod_hi _ (by omega)
  unfold gStep
  split
  · exact S
  · split
    · exact S
    · rename_i hany
      have hp : gPlace g x ∉ g.places := by
        intro hm
        exact hany (List.any_eq_true.mpr ⟨_, hm, beq_self_eq_true _⟩)
      obtain ⟨w1, w2, w3⟩ := gWord2_ok (gRest g x)
      have r0 : 0 ≤ (gRest g x).fmod 2 := fmod_lo _ (by decide)
      have e0 : gNode g x = ((gNode g x).toNat : Int) := by omega
      show Stands (g.places ++ [gPlace g x]) (g.above ++ [gNode g x])
      rw [e0]
      refine S.snoc (s := (1 + (gRest g x).fmod 2).toNat) (w := tx (gWord2 (gRest g x))) (by omega) hp (by omega) w1 w2 w3 ?_
      unfold gPlace
      rw [tx_app, tx_app, tx_mulAll _ (by omega)]; rfl
theorem stands_init : Stands gInit.places gInit.above := by
  have eh : Str.ofString "h" = ⟨#[104]⟩ := by decide +kernel
  have eg : Str.ofString "g" = ⟨#[103]⟩ := by decide +kernel
  refine ⟨rfl, ?_, ?_⟩
  · show [Str.ofString "h", Str.ofString "g"].Nodup
    rw [eh, eg]; decide
  · intro n hn
    have : n = 0 ∨ n = 1 := by
      have : n < 2 := hn
      omega
    rcases this with rfl | rfl
    · exact .inl ⟨rfl, 104, .inl rfl, by show tx (Str.ofString "h") = _; rw [eh]; rfl⟩
    · exact .inl ⟨rfl, 103, .inr rfl, by show tx (Str.ofString "g") = _; rw [eg]; rfl⟩
theorem stands_grown (xs : List Int) : Stands (grown xs).places (grown xs).above := by
  suffices h : ∀ (l : List Int) g, tOk g → Stands g.places g.above → Stands (l.foldl gStep g).places (l.foldl gStep g).above from h xs gInit (tOk_grown []) stands_init
  intro l
  induction l with
  | nil => intro g _ h; exact h
  | cons c r ih => intro g h1 h2; exact ih _ (tOk_step c h1) (stands_step c h1.2.1 h2)
end
section
open Builtin Builtin.Str
theorem hd_tx {x : Str} {c : Nat} {l : List Nat} (h : tx x = c :: l) : tx (hd1 x) = [c] := by
  unfold hd1
  have := slice_to x 1 (by rw [h]; simp)
  rw [show ((1 : Nat) : Int) = 1 from rfl] at this
  rw [this, h]; rfl
theorem tl_tx {x : Str} {c : Nat} {l : List Nat} (h : tx x = c :: l) : tx (tl1 x) = l := by
  unfold tl1
  have := slice_from x 1 (by rw [h]; simp)
  rw [show ((1 : Nat) : Int) = 1 from rfl] at this
  rw [this, h]; rfl
theorem fixed_tx (y : Str) (p : List Nat) (i : Nat) (hi : i ≤ 1) (hp : p.getLast? ≠ some 47) (h : tx y = p ++ List.replicate i 47) :
    tx (if (Txt.slice y (some (-1)) none != Str.ofString "/") = true then y ++ Str.ofString "/" else y) = p ++ [47] := by
  have hi' : i = 0 ∨ i = 1 := by omega
  rcases hi' with rfl | rfl
  · have h' : tx y = p := by rw [h]; simp
    have hne : (Txt.slice y (some (-1)) none != Str.ofString "/") = true := by
      rw [bne, tx_beq, tx_slash]
      rw [Bool.not_eq_true', decide_eq_false_iff_not]
      intro he
      rcases List.eq_nil_or_concat p with rfl | ⟨m, c, rfl⟩
      · rw [slice_nil y h'] at he; cases he
      · rw [List.concat_eq_append] at h' hp
        have hl : (tx y).length = m.length + 1 := by rw [h']; simp
        rw [slice_last y (by omega), hl, h', Nat.add_sub_cancel, List.drop_left] at he
        apply hp
        rw [he]; simp
    rw [if_pos hne, tx_app, tx_slash, h']
  · have hl : (tx y).length = p.length + 1 := by rw [h]; simp
    have he : ¬ (Txt.slice y (some (-1)) none != Str.ofString "/") = true := by
      rw [bne, tx_beq, tx_slash, slice_last y (by omega), hl, h, Nat.add_sub_cancel, List.drop_left]
      simp
    rw [if_neg he, h]; rfl
theorem suburi_iff {K T : Str} {p : List Nat} {i c d : Nat} {p' t' : List Nat} (hi : i ≤ 1) (hp : p.getLast? ≠ some 47) (he : p = c :: p') (hK : tx K = p ++ List.replicate i 47) (hT : tx T = d :: t') :
    suburi (hd1 K, tl1 K) (hd1 T, tl1 T) = true ↔ tx K = tx T ∨ p ++ [47] <+: tx T := by
  subst he
  have hp' : p'.getLast? ≠ some 47 := by
    intro h
    rcases hq : p' with _ | ⟨a, r⟩
    · rw [hq] at h; cases h
    · apply hp
      rw [hq] at h ⊢
      rw [List.getLast?_cons_cons]; exact h
  have hK' : tx K = c :: (p' ++ List.replicate i 47) := hK
  have f := fixed_tx (tl1 K) p' i hi hp' (tl_tx hK')
  unfold suburi
  dsimp only
  generalize hF : (if (Txt.slice (tl1 K) (some (-1)) none != Str.ofString "/") = true then tl1 K ++ Str.ofString "/" else tl1 K) = F at f
  rw [Bool.or_eq_true, Bool.and_eq_true, Bool.and_eq_true, tx_beq, tx_beq, decide_eq_true_eq, decide_eq_true_eq, starts_tx, f, hd_tx hK', hd_tx hT, tl_tx hK', tl_tx hT, hK', hT]
  constructor
  · rintro (⟨h1, h2⟩ | ⟨h1, h2⟩)
    · exact .inl (by rw [(List.cons.inj h1).1, h2])
    · refine .inr ?_
      rw [List.cons_append, List.cons_prefix_cons]
      exact ⟨(List.cons.inj h1).1, h2⟩
  · rintro (h | h)
    · exact .inl ⟨by rw [(List.cons.inj h).1], (List.cons.inj h).2⟩
    · rw [List.cons_append, List.cons_prefix_cons] at h
      exact .inr ⟨by rw [h.1], h.2⟩
theorem key_tx (places : List Str) (k : Nat) (sl : Int) (h0 : 0 ≤ sl) : tx (keyOf places (k : Int) sl) = pt places k ++ List.replicate sl.toNat 47 := by
  unfold keyOf
  rw [tx_app, tx_mulAll sl h0]; rfl
theorem key_inj {places : List Str} {above : List Int} (S : Stands places above) {k n : Nat} (hk : k < places.length) (hn : n < places.length) {i j : Int} (hi : 0 ≤ i) (hj : 0 ≤ j) (he : keyOf places (k : Int) i = keyOf places (n : Int) j) : k = n ∧ i = j := by
  have e := congrArg tx he
  rw [key_tx _ _ _ hi, key_tx _ _ _ hj] at e
  obtain ⟨e1, e2⟩ := rep_last (S.good' hk).last (S.good' hn).last e
  exact ⟨S.inj hk hn e1, by omega⟩
theorem sub_cover {places : List Str} {above : List Int} (S : Stands places above) {k n : Nat} (hk : k < places.length) (hn : n < places.length) {sl stop : Int} (h0 : 0 ≤ sl) (h1 : sl ≤ 1) (g0 : 0 ≤ stop) (g1 : stop ≤ 1)
    {chain : List Int} (hc : Chain above (n : Int) chain) :
    suburi (hd1 (keyOf places (k : Int) sl), tl1 (keyOf places (k : Int) sl)) (hd1 (keyOf places (n : Int) stop), tl1 (keyOf places (n : Int) stop)) =
      (chain.any (· == (k : Int)) && ((k : Int) != (n : Int) || decide (sl ≤ stop))) := by
  obtain ⟨c, p', ep, hcc⟩ := (S.good' hk).head
  obtain ⟨d, t', et, hdd⟩ := (S.good' hn).head
  have hK := key_tx places k sl h0
  have hT := key_tx places n stop g0
  have hT' : tx (keyOf places (n : Int) stop) = d :: (t' ++ List.replicate stop.toNat 47) := by rw [hT, et]; rfl
  have cov := chain_cover S hc n rfl hn k hk
  have nin := (chain_range S hc n rfl hn).1
  rw [Bool.eq_iff_iff, suburi_iff (i := sl.toNat) (by omega) (S.good' hk).last ep hK hT', Bool.and_eq_true, Bool.or_eq_true, decide_eq_true_eq, List.any_eq_true]
  have e1 : (∃ x, x ∈ chain ∧ (x == (k : Int)) = true) ↔ (k : Int) ∈ chain := by
    constructor
    · rintro ⟨x, hx, he⟩
      rw [← eq_of_beq he]; exact hx
    · intro h; exact ⟨_, h, beq_self_eq_true _⟩
  have e2 : ((k : Int) != (n : Int)) = true ↔ k ≠ n := by
    rw [bne_iff_ne]
    constructor
    · rintro h rfl; exact h rfl
    · intro h he; exact h (by omega)
  have e3 : tx (keyOf places (k : Int) sl) = tx (keyOf places (n : Int) stop) ↔ k = n ∧ sl = stop := by
    constructor
    · intro h; exact key_inj S hk hn h0 g0 (tx_ext h)
    · rintro ⟨rfl, rfl⟩; rfl
  rw [e1, e2, e3, hT, ← cov]
  have hg : stop = 0 ∨ stop = 1 := by omega
  rcases hg with rfl | rfl
  · rw [show (0 : Int).toNat = 0 from rfl, List.replicate_zero, List.append_nil]
    constructor
    · rintro (⟨rfl, rfl⟩ | h)
      · exact ⟨List.prefix_refl _, .inr (by omega)⟩
      · refine ⟨h.trans (List.prefix_append _ _), .inl ?_⟩
        rintro rfl
        have := h.length_le
        rw [List.length_append, List.length_singleton] at this
        omega
    · rintro ⟨h, hne⟩
      rcases List.prefix_concat_iff.mp h with h | h
      · have := S.inj hk hn (List.append_cancel_right h)
        subst this
        rcases hne with hne | hne
        · exact absurd rfl hne
        · exact .inl ⟨rfl, by omega⟩
      · exact .inr h
  · rw [show (1 : Int).toNat = 1 from rfl, show List.replicate 1 47 = [47] from rfl]
    constructor
    · rintro (⟨rfl, rfl⟩ | h)
      · exact ⟨List.prefix_refl _, .inr (by omega)⟩
      · exact ⟨h, .inr h1⟩
    · rintro ⟨h, _⟩
      exact .inr h
theorem head_root {x : Str} (h : 47 ∉ tx x) : headOf x = Str.empty := by
  have e : headRaw x = Str.empty := by
    unfold headRaw
    rw [rfind_no x h]
    refine tx_ext ?_
    have := slice_to x 0 (Nat.zero_le _)
    rw [List.take_zero] at this
    exact this
  unfold headOf
  rw [e, if_neg]
  rintro ⟨q, _⟩
  exact q rfl
theorem head_step {x y : Str} {A w : List Nat} {s c : Nat} {A' : List Nat} (hs : 1 ≤ s) (hw : 47 ∉ w) (hA : A = c :: A') (hc : c ≠ 47) (hl : A.getLast? ≠ some 47) (hx : tx x = A ++ List.replicate s 47 ++ w) (hy : tx y = A) : headOf x = y := by
  have e : tx (headRaw x) = A ++ List.replicate s 47 := by
    obtain ⟨t, rfl⟩ : ∃ t, s = t + 1 := ⟨s - 1, by omega⟩
    have hx' : tx x = (A ++ List.replicate t 47) ++ 47 :: w := by rw [hx, List.replicate_succ']; simp
    unfold headRaw
    rw [rfind_at x _ w hx' hw]
    have hle : (A ++ List.replicate t 47).length + 1 ≤ (tx x).length := by
      rw [hx']; simp only [List.length_append, List.length_cons]; omega
    have hcut : (tx x).take ((A ++ List.replicate t 47).length + 1) = A ++ List.replicate (t + 1) 47 := by
      rw [hx, List.take_left']
      rw [List.length_append, List.length_append, List.length_replicate, List.length_replicate]; omega
    generalize (A ++ List.replicate t 47).length = m at hle hcut
    have := slice_to x (m + 1) hle
    rw [Int.natCast_add] at this
    exact this.trans hcut
  have hlen : (headRaw x).length = A.length + s := by rw [← tx_len, e]; simp
  have hne : (headRaw x != Txt.mul (Str.ofString "/") ((headRaw x).length : Int)) = true := by
    rw [bne, tx_beq, Bool.not_eq_true', decide_eq_false_iff_not, tx_mulAll _ (by omega), e, hA]
    intro q
    have hm : c ∈ List.replicate ((headRaw x).length : Int).toNat 47 := by rw [← q]; simp
    exact hc (List.eq_of_mem_replicate hm)
  unfold headOf
  rw [if_pos ⟨by omega, hne⟩]
  exact tx_ext ((rstrip_of _ A s hl e).trans hy.symm)
noncomputable def placeOf (places : List Str) (z : Int) : Str := places.getD z.toNat Str.empty
theorem rstrip_key {places : List Str} {above : List Int} (S : Stands places above) {n : Nat} (hn : n < places.length) {sl : Int} (h0 : 0 ≤ sl) : Txt.rstripChars (keyOf places (n : Int) sl) (Str.ofString "/") = placeOf places (n : Int) :=
  tx_ext (rstrip_of _ _ _ (S.good' hn).last (key_tx places n sl h0))
theorem anc_chain {places : List Str} {above : List Int} (S : Stands places above) {z : Int} {chain : List Int} (hc : Chain above z chain) :
    ∀ n : Nat, z = (n : Int) → n < places.length → Anc (placeOf places (n : Int)) (chain.map (placeOf places)) := by
  have nz : ∀ n : Nat, n < places.length → (Txt.rstripChars (placeOf places (n : Int)) (Str.ofString "/")).length ≠ 0 := by
    intro n hn h
    rw [← tx_len, rstrip_of (placeOf places (n : Int)) (pt places n) 0 (S.good' hn).last (List.append_nil _).symm] at h
    exact (S.good' hn).ne (List.eq_nil_of_length_eq_zero h)
  induction hc with
  | stop he =>
    rintro n rfl hn
    obtain ⟨_, c, hcc, e⟩ := S.root hn he
    refine .step (nz n hn) ?_
    have : tx (placeOf places (n : Int)) = [c] := e
    rw [head_root (by rw [this, List.mem_singleton]; omega)]
    refine .stop ?_
    rw [← tx_len, rstrip_of Str.empty [] 0 (fun x => nomatch x) rfl]; rfl
  | step hne _ ih =>
    rintro n rfl hn
    obtain ⟨a, ha, han, s, w, hs, hw0, hw, hcl, e⟩ := S.below hn hne
    obtain ⟨c, A', eA, hcc⟩ := (S.good' (n := a) (by omega)).head
    refine .step (nz n hn) ?_
    have hx : tx (placeOf places (n : Int)) = pt places a ++ List.replicate s 47 ++ w := e
    rw [head_step (y := placeOf places (a : Int)) hs hw eA (by omega) (S.good' (n := a) (by omega)).last hx rfl]
    exact ih a ha (by omega)
end
section
open Builtin Builtin.Str
theorem unq_raw (w : Str) : unq (rawOf w) = w := by
  unfold rawOf
  by_cases h : w = Str.ofString "\\"
  · rw [if_pos h]
    have e : Txt.item w 0 = ⟨#[92]⟩ := item_first w 92 [] (by rw [h, tx_bs])
    unfold unq
    rw [e, if_neg]
    rintro ⟨q, _⟩
    exact absurd q (by decide)
  · rw [if_neg h]
    have et : tx (Str.ofString "\"" ++ w ++ Str.ofString "\"") = 34 :: (tx w ++ [34]) := by rw [tx_app, tx_app, tx_q]; rfl
    have e0 := item_first _ _ _ et
    have e1 : Txt.item (Str.ofString "\"" ++ w ++ Str.ofString "\"") (-1) = ⟨#[34]⟩ := item_last _ 34 (34 :: tx w) et
    unfold unq
    rw [if_pos ⟨e0, e1⟩]
    refine tx_ext ?_
    rw [slice_mid _ (by rw [et]; simp), et]
    simp
theorem place_key (places : List Str) (z : Int) : placeOf places z = keyOf places z 0 := by
  refine tx_ext ?_
  unfold keyOf placeOf
  rw [tx_app, tx_mul0, List.append_nil]
noncomputable def keysStep (ks : List (Int × Int)) (t : Tell) : List (Int × Int) := if (ks.any fun k => k.1 == t.1 && k.2 == t.2.1) = true then ks else ks ++ [(t.1, t.2.1)]
noncomputable def keys (l : List Tell) : List (Int × Int) := l.foldl keysStep []
noncomputable def rowK (told : List Tell) (k : Int × Int) : Tell := (k.1, k.2, lastOf told k.1 k.2)
theorem rows_fold (told : List Tell) : ∀ (l : List Tell) (ks : List (Int × Int)), l.foldl (rowStep told) (ks.map (rowK told)) = (l.foldl keysStep ks).map (rowK told) := by
  intro l
  induction l with
  | nil => intro ks; rfl
  | cons t r ih =>
    intro ks
    rw [List.foldl_cons, List.foldl_cons, ← ih]
    congr 1
    unfold rowStep keysStep
    rw [List.any_map]
    show (if (ks.any fun k => k.1 == t.1 && k.2 == t.2.1) = true then _ else _) = _
    split
    · rfl
    · rw [List.map_append]; rfl
theorem rows_keys (told : List Tell) : rowsOf told = (keys told).map (rowK told) := rows_fold told told []
theorem keys_snoc (l : List Tell) (t : Tell) : keys (l ++ [t]) = keysStep (keys l) t := by
  unfold keys
  rw [List.foldl_append]; rfl
theorem any_key (ks : List (Int × Int)) (a b : Int) : (ks.any fun k => k.1 == a && k.2 == b) = true ↔ (a, b) ∈ ks := by
  rw [List.any_eq_true]
  constructor
  · rintro ⟨⟨x, y⟩, hm, h⟩
    rw [Bool.and_eq_true] at h
    have e1 : x = a := eq_of_beq h.1
    have e2 : y = b := eq_of_beq h.2
    rw [← e1, ← e2]; exact hm
  · intro h
    exact ⟨_, h, by simp⟩
theorem snoc_ind {α : Type} {P : List α → Prop} (h0 : P []) (h1 : ∀ l a, P l → P (l ++ [a])) : ∀ l, P l := by
  intro l
  suffices h : ∀ r : List α, P r.reverse by have := h l.reverse; rwa [List.reverse_reverse] at this
  intro r
  induction r with
  | nil => exact h0
  | cons a r ih => rw [List.reverse_cons]; exact h1 _ _ ih
theorem keys_mem (l : List Tell) : ∀ k ∈ keys l, ∃ t ∈ l, k = (t.1, t.2.1) := by
  refine snoc_ind (P := fun l => ∀ k ∈ keys l, ∃ t ∈ l, k = (t.1, t.2.1)) (fun k hk => nomatch hk) ?_ l
  intro l t ih k hk
  rw [keys_snoc] at hk
  unfold keysStep at hk
  split at hk
  · obtain ⟨u, hu, e⟩ := ih k hk
    exact ⟨u, List.mem_append_left _ hu, e⟩
  · rcases List.mem_append.mp hk with hk | hk
    · obtain ⟨u, hu, e⟩ := ih k hk
      exact ⟨u, List.mem_append_left _ hu, e⟩
    · exact ⟨t, by simp, List.mem_singleton.mp hk⟩
theorem keys_nodup (l : List Tell) : (keys l).Nodup := by
  refine snoc_ind (P := fun l => (keys l).Nodup) List.Pairwise.nil ?_ l
  intro l t ih
  rw [keys_snoc]
  unfold keysStep
  split
  · exact ih
  · rename_i h
    refine List.nodup_append.mpr ⟨ih, List.pairwise_singleton _ _, ?_⟩
    intro x hx y hy
    rw [List.mem_singleton.mp hy]
    rintro rfl
    exact h ((any_key _ _ _).mpr hx)
theorem last_snoc (l : List Tell) (t : Tell) (a b : Int) : lastOf (l ++ [t]) a b = if (t.1, t.2.1) = (a, b) then t.2.2 else lastOf l a b := by
  unfold lastOf
  rw [List.filter_append, List.map_append]
  split
  · rename_i h
    have h1 : t.1 = a := congrArg Prod.fst h
    have h2 : t.2.1 = b := congrArg Prod.snd h
    rw [List.filter_cons_of_pos (by rw [h1, h2]; simp)]
    simp
  · rename_i h
    rw [List.filter_cons_of_neg]
    · simp
    · rw [Bool.and_eq_true]
      rintro ⟨h1, h2⟩
      exact h (by rw [eq_of_beq h1, eq_of_beq h2])
noncomputable def Valid (places : List Str) (k : Int × Int) : Prop := (0 ≤ k.1 ∧ k.1 < (places.length : Int)) ∧ (0 ≤ k.2 ∧ k.2 ≤ 1)
theorem valid_inj {places : List Str} {above : List Int} (S : Stands places above) {k m : Int × Int} (hk : Valid places k) (hm : Valid places m) (h : keyOf places k.1 k.2 = keyOf places m.1 m.2) : k = m := by
  obtain ⟨⟨a, b⟩, c, d⟩ := hk
  obtain ⟨⟨a', b'⟩, c', d'⟩ := hm
  have e1 : k.1 = (k.1.toNat : Int) := by omega
  have e2 : m.1 = (m.1.toNat : Int) := by omega
  rw [e1, e2] at h
  obtain ⟨q1, q2⟩ := key_inj S (by omega) (by omega) c c' h
  exact Prod.ext (by omega) q2
noncomputable def tabK (places : List Str) (told : List Tell) (k : Int × Int) : Str × Str := (keyOf places k.1 k.2, lastOf told k.1 k.2)
theorem tab_keys {places : List Str} {above : List Int} (S : Stands places above) (l : List Tell) : (∀ t ∈ l, Valid places (t.1, t.2.1)) → tabOf (l.map (kvOf places)) = (keys l).map (tabK places l) := by
  refine snoc_ind (P := fun l => (∀ t ∈ l, Valid places (t.1, t.2.1)) → tabOf (l.map (kvOf places)) = (keys l).map (tabK places l)) (fun _ => rfl) ?_ l
  intro l t ih hv
  have ih := ih fun u hu => hv u (List.mem_append_left _ hu)
  have ht : Valid places (t.1, t.2.1) := hv t (by simp)
  have hkv : ∀ k ∈ keys l, Valid places k := fun k hk => by
    obtain ⟨u, hu, e⟩ := keys_mem l k hk
    rw [e]; exact hv u (List.mem_append_left _ hu)
  have e1 : tabOf ((l ++ [t]).map (kvOf places)) = tabPut (tabOf (l.map (kvOf places))) (keyOf places t.1 t.2.1) t.2.2 := by
    unfold tabOf
    rw [List.map_append, List.foldl_append]
    show tabPut _ (keyOf places t.1 t.2.1) (unq (rawOf t.2.2)) = _
    rw [unq_raw]
  rw [e1, ih, keys_snoc]
  unfold tabPut keysStep
  have hany : ((keys l).map (tabK places l)).any (fun p => decide (p.1 = keyOf places t.1 t.2.1)) = (keys l).any fun k => k.1 == t.1 && k.2 == t.2.1 := by
    rw [List.any_map, Bool.eq_iff_iff, any_key, List.any_eq_true]
    constructor
    · rintro ⟨k, hk, h⟩
      have := valid_inj S (hkv k hk) ht (of_decide_eq_true h)
      rw [← this]; exact hk
    · intro h
      exact ⟨_, h, decide_eq_true rfl⟩
  rw [hany]
  split
  · rw [List.map_map]
    refine List.map_congr_left fun k hk => ?_
    show (if keyOf places k.1 k.2 = keyOf places t.1 t.2.1 then (keyOf places k.1 k.2, t.2.2) else (keyOf places k.1 k.2, lastOf l k.1 k.2)) = (keyOf places k.1 k.2, lastOf (l ++ [t]) k.1 k.2)
    rw [last_snoc]
    by_cases h : (t.1, t.2.1) = (k.1, k.2)
    · have h1 : t.1 = k.1 := congrArg Prod.fst h
      have h2 : t.2.1 = k.2 := congrArg Prod.snd h
      rw [if_pos h, if_pos (by rw [h1, h2])]
    · rw [if_neg h, if_neg]
      intro q
      exact h (valid_inj S ht (hkv k hk) q.symm)
  · rename_i hno
    rw [List.map_append]
    congr 1
    · refine List.map_congr_left fun k hk => ?_
      show (keyOf places k.1 k.2, lastOf l k.1 k.2) = (keyOf places k.1 k.2, lastOf (l ++ [t]) k.1 k.2)
      rw [last_snoc, if_neg]
      intro h
      apply hno
      rw [any_key, h]; exact hk
    · show [(keyOf places t.1 t.2.1, t.2.2)] = [(keyOf places t.1 t.2.1, lastOf (l ++ [t]) t.1 t.2.1)]
      rw [last_snoc, if_pos rfl]
theorem tabGet_in {places : List Str} {above : List Int} (S : Stands places above) (told : List Tell) {ks : List (Int × Int)} (hv : ∀ k ∈ ks, Valid places k) {m : Int × Int} (hm : m ∈ ks) :
    tabGet (ks.map (tabK places told)) (keyOf places m.1 m.2) = some (lastOf told m.1 m.2) := by
  unfold tabGet
  rcases hf : (ks.map (tabK places told)).find? (fun p => decide (p.1 = keyOf places m.1 m.2)) with _ | p
  · have := List.find?_eq_none.mp hf (tabK places told m) (List.mem_map_of_mem hm)
    exact absurd (decide_eq_true rfl) this
  · have h1 := List.find?_some hf
    have h2 := List.mem_of_find?_eq_some hf
    obtain ⟨k, hk, rfl⟩ := List.mem_map.mp h2
    have := valid_inj S (hv k hk) (hv m hm) (of_decide_eq_true h1)
    subst this; rw [hf]; rfl
theorem tabGet_out {places : List Str} {above : List Int} (S : Stands places above) (told : List Tell) {ks : List (Int × Int)} (hv : ∀ k ∈ ks, Valid places k) {m : Int × Int} (hmv : Valid places m) (hm : m ∉ ks) :
    tabGet (ks.map (tabK places told)) (keyOf places m.1 m.2) = none := by
  unfold tabGet
  rcases hf : (ks.map (tabK places told)).find? (fun p => decide (p.1 = keyOf places m.1 m.2)) with _ | p
  · rw [hf]; rfl
  · have h1 := List.find?_some hf
    have h2 := List.mem_of_find?_eq_some hf
    obtain ⟨k, hk, rfl⟩ := List.mem_map.mp h2
    have := valid_inj S (hv k hk) hmv (of_decide_eq_true h1)
    subst this
    exact absurd hk hm
theorem filter_one (a b : Int) : ∀ ks : List (Int × Int), ks.Nodup → ks.filter (fun k => k.1 == a && k.2 == b) = if (a, b) ∈ ks then [(a, b)] else []
  | [], _ => rfl
  | k :: r, h => by
    obtain ⟨h1, h2⟩ := List.nodup_cons.mp h
    have ih := filter_one a b r h2
    by_cases hk : k = (a, b)
    · subst hk
      rw [List.filter_cons_of_pos (by simp), ih, if_neg h1, if_pos (List.mem_cons_self ..)]
    · have hn : ¬ (k.1 == a && k.2 == b) = true := by
        rw [Bool.and_eq_true]
        rintro ⟨q1, q2⟩
        exact hk (Prod.ext (eq_of_beq q1) (eq_of_beq q2))
      rw [List.filter_cons_of_neg (by exact hn), ih]
      have : ((a, b) ∈ k :: r) ↔ (a, b) ∈ r := by
        rw [List.mem_cons]
        constructor
        · rintro (q | q)
          · exact absurd q.symm hk
          · exact q
        · exact .inr
      by_cases hm : (a, b) ∈ r
      · rw [if_pos hm, if_pos (this.mpr hm)]
      · rw [if_neg hm, if_neg (fun q => hm (this.mp q))]
theorem over_get {places : List Str} {above : List Int} (S : Stands places above) (told : List Tell) {ks : List (Int × Int)} (hv : ∀ k ∈ ks, Valid places k) (hn : ks.Nodup) {up : Int} (hu : Valid places (up, 0)) :
    overOf (ks.map (rowK told)) up = (tabGet (ks.map (tabK places told)) (placeOf places up)).toList := by
  unfold overOf
  rw [List.filter_map]
  have : ((fun r : Tell => r.1 == up && r.2.1 == 0) ∘ rowK told) = fun k : Int × Int => k.1 == up && k.2 == 0 := rfl
  rw [this, filter_one _ _ _ hn, place_key]
  by_cases hm : (up, (0 : Int)) ∈ ks
  · rw [if_pos hm, tabGet_in S told hv hm]; rfl
  · rw [if_neg hm, tabGet_out S told hv hu hm]; rfl
theorem above_eq {places : List Str} {above : List Int} (S : Stands places above) (told : List Tell) {ks : List (Int × Int)} (hv : ∀ k ∈ ks, Valid places k) (hn : ks.Nodup) :
    ∀ chain : List Int, (∀ y ∈ chain, ∃ k : Nat, y = (k : Int) ∧ k < places.length) → (chain.map (placeOf places)).filterMap (tabGet (ks.map (tabK places told))) = aboveOf chain (ks.map (rowK told)) := by
  intro chain
  induction chain with
  | nil => intro _; rfl
  | cons y r ih =>
    intro h
    obtain ⟨k, e, hk⟩ := h y (List.mem_cons_self ..)
    have hu : Valid places (y, 0) := ⟨⟨by dsimp only; omega, by dsimp only; omega⟩, by dsimp only; omega, by dsimp only; omega⟩
    have ih := ih fun z hz => h z (List.mem_cons_of_mem _ hz)
    unfold aboveOf at ih ⊢
    rw [List.map_cons, List.flatMap_cons, over_get S told hv hn hu, ← ih, List.filterMap_cons]
    rcases tabGet (ks.map (tabK places told)) (placeOf places y) with _ | v
    · rfl
    · rfl
theorem cover_any {places : List Str} {above : List Int} (S : Stands places above) (told : List Tell) {n : Nat} (hn : n < places.length) {stop : Int} (g0 : 0 ≤ stop) (g1 : stop ≤ 1)
    {chain : List Int} (hc : Chain above (n : Int) chain) (tab : List (Str × Str)) : ∀ ks : List (Int × Int), (∀ k ∈ ks, Valid places k) → (∀ k ∈ ks, tabGet tab (keyOf places k.1 k.2) = some (lastOf told k.1 k.2)) →
    covFound tab (ks.map (tabK places told)) (keyOf places (n : Int) stop) = coverOf chain (n : Int) stop (ks.map (rowK told))
  | [], _, _ => rfl
  | k :: r, hv, hget => by
    have ih := cover_any S told hn g0 g1 hc tab r (fun m hm => hv m (List.mem_cons_of_mem _ hm)) fun m hm => hget m (List.mem_cons_of_mem _ hm)
    have hg := hget k (List.mem_cons_self ..)
    obtain ⟨⟨a, b⟩, c, d⟩ := hv k (List.mem_cons_self ..)
    have e1 : k.1 = (k.1.toNat : Int) := by omega
    have hs := sub_cover S (k := k.1.toNat) (n := n) (by omega) hn c d g0 g1 hc
    rw [← e1] at hs
    unfold covFound coverOf at ih ⊢
    rw [List.map_cons, List.map_cons, List.filter_cons, List.filter_cons]
    show List.map _ (if suburi (hd1 (keyOf places k.1 k.2), tl1 (keyOf places k.1 k.2)) (hd1 (keyOf places (n : Int) stop), tl1 (keyOf places (n : Int) stop)) = true then _ else _) = List.map _ (if (chain.any (· == k.1) && (k.1 != (n : Int) || decide (k.2 ≤ stop))) = true then _ else _)
    rw [hs]
    split
    · rw [List.map_cons, List.map_cons, ih]
      congr 1
      show (tabGet tab (keyOf places k.1 k.2)).getD Str.empty = lastOf told k.1 k.2
      rw [hg]; rfl
    · exact ih
end
section
open Builtin Builtin.Str
theorem mk_app (x : Str) (a b : List Nat) : x ++ ⟨a.toArray⟩ ++ (⟨b.toArray⟩ : Str) = x ++ ⟨(a ++ b).toArray⟩ := by
  refine tx_ext ?_
  rw [tx_app, tx_app, tx_app, tx_mk a, tx_mk b, tx_mk (a ++ b), List.append_assoc]
theorem app_nil (x : Str) : x ++ (⟨([] : List Nat).toArray⟩ : Str) = x := by
  refine tx_ext ?_
  rw [tx_app, tx_mk [], List.append_nil]
theorem run_free (res : List Str) : ∀ (l : List Nat) (part : Str), 34 ∉ l → 44 ∉ l → l.foldl hStep ⟨res, part, false, false⟩ = ⟨res, part ++ ⟨l.toArray⟩, false, false⟩
  | [], part, _, _ => by rw [app_nil]; rfl
  | c :: r, part, h1, h2 => by
    have c1 : c ≠ 34 := fun e => h1 (e ▸ List.mem_cons_self ..)
    have c2 : c ≠ 44 := fun e => h2 (e ▸ List.mem_cons_self ..)
    have e : hStep ⟨res, part, false, false⟩ c = ⟨res, part ++ ⟨#[c]⟩, false, false⟩ := by
      unfold hStep
      dsimp only
      rw [if_neg Bool.false_ne_true, if_neg Bool.false_ne_true, if_neg c2, if_neg c1]
    rw [List.foldl_cons, e, run_free res r _ (fun m => h1 (List.mem_cons_of_mem _ m)) (fun m => h2 (List.mem_cons_of_mem _ m))]
    congr 1
    exact mk_app part [c] r
theorem held_tx (w : Str) (h : (tx w).length ≤ 1) (hb : w ≠ Str.ofString "\\") : tx (held w) = if tx w = [34] then [92, 34] else tx w := by
  have hb' : tx w ≠ [92] := fun e => hb (tx_ext (e.trans tx_bs.symm))
  unfold held
  show (Txt.replace _ _ _).cps.toList = _
  rw [lit_q, lit_bsq, replace_flat, lit_bs, lit_bsbs, replace_flat]
  show ((tx w).flatMap _).flatMap _ = _
  rcases hw : tx w with _ | ⟨c, _ | ⟨d, r⟩⟩
  · rfl
  · rw [hw] at hb'
    have c1 : c ≠ 92 := fun e => hb' (by rw [e])
    simp only [List.flatMap_cons, List.flatMap_nil, List.append_nil, if_neg c1]
    by_cases c2 : c = 34
    · subst c2; rfl
    · rw [if_neg c2, if_neg]
      intro q
      exact c2 (List.cons.inj q).1
  · rw [hw] at h
    simp at h
theorem run_val (res : List Str) (part : Str) (w : Str) (h : (tx w).length ≤ 1) : (tx (valOf w)).foldl hStep ⟨res, part, false, false⟩ = ⟨res, part ++ rawOf w, false, false⟩ := by
  unfold valOf rawOf
  by_cases hb : w = Str.ofString "\\"
  · rw [if_pos hb, if_pos hb, hb, tx_bs, run_free res [92] part (by decide) (by decide)]
    rw [lit_bs]
  · have hb' : tx w ≠ [92] := fun e => hb (tx_ext (e.trans tx_bs.symm))
    rw [if_neg hb, if_neg hb, tx_app, tx_app, tx_q, held_tx w h hb]
    rcases hw : tx w with _ | ⟨c, _ | ⟨d, r⟩⟩
    · rw [if_neg (fun q => nomatch q)]
      show HSt.mk res (part ++ ⟨#[34]⟩ ++ ⟨#[34]⟩) false false = _
      congr 1
      refine tx_ext ?_
      simp only [tx_app, tx_q, hw]; simp [tx]
    · rw [hw] at hb'
      have c1 : c ≠ 92 := fun e => hb' (by rw [e])
      by_cases c2 : c = 34
      · subst c2
        rw [if_pos rfl]
        show HSt.mk res (part ++ ⟨#[34]⟩ ++ ⟨#[34]⟩ ++ ⟨#[34]⟩) false false = _
        congr 1
        refine tx_ext ?_
        simp only [tx_app, tx_q, hw]; simp [tx]
      · rw [if_neg (fun q => c2 (List.cons.inj q).1)]
        show hStep (hStep ⟨res, part ++ ⟨#[34]⟩, false, true⟩ c) 34 = _
        have e : hStep ⟨res, part ++ ⟨#[34]⟩, false, true⟩ c = ⟨res, part ++ ⟨#[34]⟩ ++ ⟨#[c]⟩, false, true⟩ := by
          unfold hStep
          dsimp only
          rw [if_neg Bool.false_ne_true, if_pos rfl, if_neg c1, if_neg c2]
        rw [e]
        show HSt.mk res (part ++ ⟨#[34]⟩ ++ ⟨#[c]⟩ ++ ⟨#[34]⟩) false false = _
        congr 1
        refine tx_ext ?_
        simp only [tx_app, tx_q, hw]; simp [tx]
    · rw [hw] at h
      simp at h
noncomputable def TOk (places : List Str) (t : Tell) : Prop := Valid places (t.1, t.2.1) ∧ t.2.2.length ≤ 1
theorem key_facts {places : List Str} {above : List Int} (S : Stands places above) {k : Int × Int} (hk : Valid places k) : Clean (tx (keyOf places k.1 k.2)) ∧ ∃ c l, tx (keyOf places k.1 k.2) = c :: l ∧ (c = 104 ∨ c = 103) := by
  obtain ⟨⟨a, b⟩, c, d⟩ := hk
  have e1 : k.1 = (k.1.toNat : Int) := by omega
  have g := S.good' (n := k.1.toNat) (by omega)
  have e := key_tx places k.1.toNat k.2 c
  rw [← e1] at e
  rw [e]
  refine ⟨g.clean.app (Clean.rep _), ?_⟩
  obtain ⟨x, l, e2, hx⟩ := g.head
  exact ⟨x, l ++ List.replicate k.2.toNat 47, by rw [e2]; rfl, hx⟩
noncomputable def jOf (places : List Str) (t : Tell) : Str := joinKV (kvOf places t)
theorem run_item {places : List Str} {above : List Int} (S : Stands places above) {t : Tell} (ht : TOk places t) (res : List Str) (part : Str) :
    (tx (itemOf places t)).foldl hStep ⟨res, part, false, false⟩ = ⟨res, part ++ jOf places t, false, false⟩ := by
  obtain ⟨⟨k1, k2, k3⟩, _⟩ := key_facts S ht.1
  have e : tx (itemOf places t) = (tx (keyOf places t.1 t.2.1) ++ [61]) ++ tx (valOf t.2.2) := by
    unfold itemOf keyOf
    rw [tx_app, tx_app, tx_eq]
  rw [e, List.foldl_append, run_free, run_val _ _ _ (by rw [tx_len]; exact ht.2)]
  · congr 1
    refine tx_ext ?_
    unfold jOf joinKV kvOf
    simp only [tx_app]
    simp [tx]
  · intro h
    rcases List.mem_append.mp h with h | h
    · exact k3 h
    · exact absurd (List.mem_singleton.mp h) (by decide)
  · intro h
    rcases List.mem_append.mp h with h | h
    · exact k2 h
    · exact absurd (List.mem_singleton.mp h) (by decide)
theorem raw_end (w : Str) : ∃ m d, tx (rawOf w) = m ++ [d] ∧ (d = 34 ∨ d = 92) := by
  unfold rawOf
  by_cases hb : w = Str.ofString "\\"
  · rw [if_pos hb, hb, tx_bs]; exact ⟨[], 92, rfl, .inr rfl⟩
  · rw [if_neg hb, tx_app, tx_q]; exact ⟨_, 34, rfl, .inl rfl⟩
theorem j_ends {places : List Str} {above : List Int} (S : Stands places above) {t : Tell} (ht : TOk places t) : ∃ c d l m, tx (jOf places t) = c :: l ∧ tx (jOf places t) = m ++ [d] ∧ Unicode.isSpace c = false ∧ Unicode.isSpace d = false := by
  obtain ⟨_, c, l, e, hc⟩ := key_facts S ht.1
  obtain ⟨m, d, e2, hd⟩ := raw_end t.2.2
  have ej : tx (jOf places t) = tx (keyOf places t.1 t.2.1) ++ [61] ++ tx (rawOf t.2.2) := by
    unfold jOf joinKV kvOf
    rw [tx_app, tx_app]; rfl
  have s104 : Unicode.isSpace 104 = false := by decide +kernel
  have s103 : Unicode.isSpace 103 = false := by decide +kernel
  have s34 : Unicode.isSpace 34 = false := by decide +kernel
  have s92 : Unicode.isSpace 92 = false := by decide +kernel
  refine ⟨c, d, l ++ [61] ++ tx (rawOf t.2.2), tx (keyOf places t.1 t.2.1) ++ [61] ++ m, ?_, ?_, ?_, ?_⟩
  · rw [ej]
    have e' : tx (keyOf places t.1 t.2.1) = c :: l := e
    rw [e']; rfl
  · rw [ej, e2]; simp
  · rcases hc with rfl | rfl <;> assumption
  · rcases hd with rfl | rfl <;> assumption
theorem strip_j {places : List Str} {above : List Int} (S : Stands places above) {t : Tell} (ht : TOk places t) : Txt.strip (jOf places t) = jOf places t := by
  obtain ⟨c, d, l, m, e1, e2, hc, hd⟩ := j_ends S ht
  exact strip_stay _ c d l m e1 e2 hc hd
theorem strip_bj {places : List Str} {above : List Int} (S : Stands places above) {t : Tell} (ht : TOk places t) : Txt.strip ((⟨#[32]⟩ : Str) ++ jOf places t) = jOf places t := by
  obtain ⟨c, d, l, m, e1, e2, hc, hd⟩ := j_ends S ht
  exact strip_blank _ _ c d l m (by rw [tx_app]; rfl) e1 e2 hc hd
theorem run_glue {places : List Str} {above : List Int} (S : Stands places above) : ∀ (r : List Tell) (t : Tell) (res : List Str) (part : Str), (∀ u ∈ t :: r, TOk places u) →
    hEnd ((glue [44, 32] ((t :: r).map fun u => tx (itemOf places u))).foldl hStep ⟨res, part, false, false⟩) = res.map Txt.strip ++ [Txt.strip (part ++ jOf places t)] ++ r.map (jOf places)
  | [], t, res, part, h => by
    show hEnd ((tx (itemOf places t)).foldl hStep ⟨res, part, false, false⟩) = _
    rw [run_item S (h t (List.mem_cons_self ..))]
    unfold hEnd
    dsimp only
    rw [if_neg, List.map_append, List.map_nil, List.append_nil]; rfl
    obtain ⟨c, d, l, m, e1, _⟩ := j_ends S (h t (List.mem_cons_self ..))
    rw [← tx_len, tx_app, e1]
    simp
  | u :: r, t, res, part, h => by
    have hu : TOk places u := h u (by simp)
    show hEnd ((tx (itemOf places t) ++ [44, 32] ++ glue [44, 32] ((u :: r).map fun u => tx (itemOf places u))).foldl hStep ⟨res, part, false, false⟩) = _
    rw [List.foldl_append, List.foldl_append, run_item S (h t (List.mem_cons_self ..))]
    have e : ([44, 32] : List Nat).foldl hStep ⟨res, part ++ jOf places t, false, false⟩ = ⟨res ++ [part ++ jOf places t], ⟨#[32]⟩, false, false⟩ := rfl
    rw [e, run_glue S r u _ _ fun v hv => h v (List.mem_cons_of_mem _ hv), strip_bj S hu]
    simp
theorem http_text {places : List Str} {above : List Int} (S : Stands places above) (told : List Tell) (h : ∀ u ∈ told, TOk places u) : httpList (headerOf places told) = (told.map (kvOf places)).map joinKV := by
  have hsep : tx (Str.ofString ", ") = [44, 32] := by
    have : Str.ofString ", " = ⟨#[44, 32]⟩ := by decide +kernel
    rw [this]; rfl
  unfold httpList headerOf
  show hEnd ((tx (Txt.join _ _)).foldl hStep hInit) = _
  rw [join_tx, hsep, List.map_map]
  rcases told with _ | ⟨t, r⟩
  · rfl
  · have := run_glue S r t [] Str.empty h
    have hj := strip_j S (h t (List.mem_cons_self ..))
    have e0 : Str.empty ++ jOf places t = jOf places t := tx_ext (by rw [tx_app]; rfl)
    rw [e0, hj] at this
    refine this.trans ?_
    rw [List.map_map]; rfl
theorem glue_len (z : List Nat) (n : Nat) : ∀ l : List (List Nat), (∀ p ∈ l, p.length ≤ n) → (glue z l).length ≤ l.length * (n + z.length)
  | [], _ => Nat.zero_le _
  | [p], h => by
    have := h p (List.mem_cons_self ..)
    show p.length ≤ 1 * (n + z.length)
    omega
  | p :: q :: r, h => by
    have h1 := h p (List.mem_cons_self ..)
    have ih := glue_len z n (q :: r) fun a ha => h a (List.mem_cons_of_mem _ ha)
    show (p ++ z ++ glue z (q :: r)).length ≤ _
    rw [List.length_append, List.length_append, List.length_cons, Nat.add_mul]
    omega
theorem head_len (places : List Str) (hpsz : ∀ x ∈ places, x.length ≤ 1000) (told : List Tell) (h : ∀ u ∈ told, TOk places u) (hl : told.length ≤ 13) : (headerOf places told).cps.size ≤ 100000 := by
  have hsep : (tx (Str.ofString ", ")).length = 2 := by
    have : Str.ofString ", " = ⟨#[44, 32]⟩ := by decide +kernel
    rw [this]; rfl
  show (headerOf places told).length ≤ _
  rw [← tx_len]
  unfold headerOf
  rw [join_tx]
  have := glue_len (tx (Str.ofString ", ")) 1010 ((told.map (itemOf places)).map tx) (by
    intro p hp
    rw [List.map_map] at hp
    obtain ⟨t, ht, rfl⟩ := List.mem_map.mp hp
    show (tx (itemOf places t)).length ≤ 1010
    rw [tx_len]
    exact itemOf_len places hpsz t (h t ht).1.2 (h t ht).2)
  rw [hsep, List.length_map, List.length_map] at this
  have h2 : told.length * (1010 + 2) ≤ 13 * (1010 + 2) := Nat.mul_le_mul_right _ hl
  omega
end
section
open Builtin Builtin.Str
theorem told_ok (xs : List Int) : ∀ t ∈ (grown xs).told, TOk (grown xs).places t := fun t ht => by
  obtain ⟨⟨a, b⟩, c, d⟩ := (tOk_grown xs).2.2.1 t ht
  exact ⟨⟨⟨a, b⟩, c⟩, d⟩
theorem told_valid (xs : List Int) : ∀ t ∈ (grown xs).told, Valid (grown xs).places (t.1, t.2.1) := fun t ht => (told_ok xs t ht).1
theorem keys_valid (xs : List Int) : ∀ k ∈ keys (grown xs).told, Valid (grown xs).places k := fun k hk => by
  obtain ⟨t, ht, e⟩ := keys_mem _ k hk
  rw [e]; exact told_valid xs t ht
theorem tab_eq (xs : List Int) : tabFor (grown xs) = (keys (grown xs).told).map (tabK (grown xs).places (grown xs).told) := tab_keys (stands_grown xs) _ (told_valid xs)
theorem place_len (xs : List Int) (hlen : xs.length ≤ 13) (k : Int) : ((grown xs).places.getD k.toNat Str.empty).length ≤ 1000 := by
  obtain ⟨_, _, _, _, h⟩ := gOk_fold xs
  exact getD_le (fun y hy => Nat.le_trans (h y hy) (by omega)) _
theorem key_len (xs : List Int) (hlen : xs.length ≤ 13) {k : Int × Int} (hk : Valid (grown xs).places k) : (keyOf (grown xs).places k.1 k.2).length ≤ 1001 := by
  have h1 := place_len xs hlen k.1
  have h2 := mul_len k.2 hk.2.1 hk.2.2
  unfold keyOf
  rw [Str.length_append]; omega
theorem raw_len (w : Str) (h : w.length ≤ 1) : 1 ≤ (rawOf w).length ∧ (rawOf w).length ≤ 3 := by
  have hl : (Str.ofString "\"").length = 1 := by decide +kernel
  have hb : (Str.ofString "\\").length = 1 := by decide +kernel
  unfold rawOf
  split
  · rename_i e
    rw [e]; omega
  · simp only [Str.length_append]; omega
theorem plain_http (xs : List Int) : httpList (headerOf (grown xs).places (grown xs).told) = ((grown xs).told.map (kvOf (grown xs).places)).map joinKV := http_text (stands_grown xs) _ (told_ok xs)
theorem kv_ok {places : List Str} {above : List Int} (S : Stands places above) {t : Tell} (h : TOk places t) (hk : (keyOf places t.1 t.2.1).length ≤ 1001) : (joinKV (kvOf places t)).length ≤ 100000 ∧ 61 ∉ (kvOf places t).1.cps.toList ∧ 1 ≤ (kvOf places t).2.length := by
  have hr := raw_len t.2.2 h.2
  have h61 : (⟨#[61]⟩ : Str).length = 1 := rfl
  have hj : (joinKV (kvOf places t)).length = (keyOf places t.1 t.2.1).length + (⟨#[61]⟩ : Str).length + (rawOf t.2.2).length := by
    unfold joinKV kvOf
    rw [Str.length_append, Str.length_append]
  exact ⟨by omega, (key_facts S h.1).1.1, hr.1⟩
theorem kv_told (xs : List Int) (hlen : xs.length ≤ 13) (t : Tell) (ht : t ∈ (grown xs).told) : (joinKV (kvOf (grown xs).places t)).length ≤ 100000 ∧ 61 ∉ (kvOf (grown xs).places t).1.cps.toList ∧ 1 ≤ (kvOf (grown xs).places t).2.length := by
  have h2 := told_ok xs t ht
  have h3 := key_len xs hlen (told_valid xs t ht)
  have h4 := kv_ok (stands_grown xs) h2 h3
  exact h4
theorem all_map {α β : Type} {f : α → β} {P : β → Prop} {l : List α} (h : ∀ t ∈ l, P (f t)) : ∀ p ∈ l.map f, P p := by
  intro p hp
  obtain ⟨t, ht, e⟩ := List.mem_map.mp hp
  rw [← e]; exact h t ht
theorem plain_kv (xs : List Int) (hlen : xs.length ≤ 13) : ∀ p ∈ (grown xs).told.map (kvOf (grown xs).places), (joinKV p).length ≤ 100000 ∧ 61 ∉ p.1.cps.toList ∧ 1 ≤ p.2.length :=
  all_map (P := fun p => (joinKV p).length ≤ 100000 ∧ 61 ∉ p.1.cps.toList ∧ 1 ≤ p.2.length) (kv_told xs hlen)
theorem plain_head (xs : List Int) (hlen : xs.length ≤ 13) : (headerOf (grown xs).places (grown xs).told).cps.size ≤ 100000 := by
  obtain ⟨h0, _, _, _, h⟩ := gOk_fold xs
  exact head_len _ (fun y hy => Nat.le_trans (h y hy) (by omega)) _ (told_ok xs) (by omega)
theorem plain_tab (xs : List Int) (hlen : xs.length ≤ 13) : (tabFor (grown xs)).length ≤ 1000 ∧ ∀ p ∈ tabFor (grown xs), p.1.length ≤ 1010 := by
  obtain ⟨h0, _⟩ := gOk_fold xs
  constructor
  · have := tabOf_len ((grown xs).told.map (kvOf (grown xs).places))
    rw [List.length_map] at this
    unfold tabFor
    omega
  · rw [tab_eq]
    intro p hp
    obtain ⟨k, hk, rfl⟩ := List.mem_map.mp hp
    have := key_len xs hlen (keys_valid xs k hk)
    show (keyOf (grown xs).places k.1 k.2).length ≤ _
    omega
theorem main_all {places : List Str} {above : List Int} (S : Stands places above) (told : List Tell) (hv : ∀ k ∈ keys told, Valid places k) (hp : places.length ≤ 15) (tab : List (Str × Str)) (ht : tab = (keys told).map (tabK places told)) (node stop : Int) (hn0 : 0 ≤ node) (hn1 : node < places.length)
    (hs0 : 0 ≤ stop) (hs1 : stop ≤ 1) (chain : List Int) (hc : Chain above node chain) :
    ∃ l, Anc (Txt.rstripChars (keyOf places node stop) (Str.ofString "/")) l ∧ l.length ≤ 1000 ∧
      covFound tab tab (keyOf places node stop) = coverOf chain node stop (rowsOf told) ∧
      l.filterMap (tabGet tab) = aboveOf chain (rowsOf told) := by
  obtain ⟨n, rfl⟩ := Int.eq_ofNat_of_zero_le hn0
  have hn : n < places.length := by omega
  have hr := (chain_range S hc n rfl hn).2
  have hl := chain_len S hc n rfl hn
  refine ⟨chain.map (placeOf places), ?_, ?_, ?_, ?_⟩
  · rw [rstrip_key S hn hs0]
    exact anc_chain S hc n rfl hn
  · rw [List.length_map]; omega
  · rw [ht, rows_keys]
    exact cover_any S _ hn hs0 hs1 hc _ _ hv fun k hk => tabGet_in S _ hv hk
  · rw [ht, rows_keys]
    exact above_eq S _ hv (keys_nodup _) chain hr
theorem plain_main (xs : List Int) (hlen : xs.length ≤ 13) (node stop : Int) (hn0 : 0 ≤ node) (hn1 : node < (grown xs).places.length) (hs0 : 0 ≤ stop) (hs1 : stop ≤ 1) (chain : List Int) (hc : Chain (grown xs).above node chain) :
    ∃ l, Anc (Txt.rstripChars (keyOf (grown xs).places node stop) (Str.ofString "/")) l ∧ l.length ≤ 1000 ∧
      covFound (tabFor (grown xs)) (tabFor (grown xs)) (keyOf (grown xs).places node stop) = coverOf chain node stop (rowsOf (grown xs).told) ∧
      l.filterMap (tabGet (tabFor (grown xs))) = aboveOf chain (rowsOf (grown xs).told) :=
  main_all (stands_grown xs) _ (keys_valid xs) (by have := (gOk_fold xs).2.2.1; omega) _ (tab_eq xs) node stop hn0 hn1 hs0 hs1 chain hc
end
section
theorem Fr.see5 {h₀ h : Heap} {L : Addr} {m : Str → Option Value} {x1 x2 x3 x4 x5 : Str} {v1 v2 v3 v4 v5 : Value} (F : Fr h₀ L h m) (e1 : m x1 = some v1) (e2 : m x2 = some v2) (e3 : m x3 = some v3) (e4 : m x4 = some v4) (e5 : m x5 = some v5) :
    Fr h₀ L h (fun y => if y = x1 then some v1 else if y = x2 then some v2 else if y = x3 then some v3 else if y = x4 then some v4 else if y = x5 then some v5 else m y) := by
  have : (fun y => if y = x1 then some v1 else if y = x2 then some v2 else if y = x3 then some v3 else if y = x4 then some v4 else if y = x5 then some v5 else m y) = m := by
    funext y
    repeat' split
    all_goals (first | rfl | (subst_vars; simp_all))
  rw [this]; exact F
section
open PySem.SeqAt
variable {prog : Program} {w : World} {A : Around} {E : Value → Shared → Prop} {s : Shared} {h₀ : Heap} {L : Addr} {news : Led}
theorem strlists_eq {l b : Addr} {vs us : Array Value} {xs : List Str} (hl : s.heap.IsList l vs) (hb : s.heap.IsList b us) (h1 : StrsAre vs.toList xs) (h2 : StrsAre us.toList xs) (hne : l ≠ b) (hu : A.units < cLine) : EqAt A s (.ref l) (.ref b) true := by
  have e1 : vs.size = xs.length := strsAre_length h1
  have e2 : us.size = xs.length := strsAre_length h2
  have key := RcAt.lists (A := A) (e := fun _ => true) hl hb (e1.trans e2.symm) hu (fun j q1 q2 => by
    have q1' : j < vs.toList.length := q1
    have q2' : j < us.toList.length := q2
    obtain ⟨y, t, a1, a2⟩ := strsAre_get h1 (List.getElem?_eq_getElem q1')
    obtain ⟨z, u, b1, b2⟩ := strsAre_get h2 (List.getElem?_eq_getElem q2')
    rw [a2] at b2; cases b2
    have c1 : vs[j] = .str y t := by simpa using a1
    have c2 : us[j] = .str y u := by simpa using b1
    rw [c1, c2]
    have := EqAt.str_str (A := A.in1) (s := s) y t y u
    rw [beq_self_eq_true] at this
    exact this)
  have e3 : ((List.range vs.size).all fun _ => true) = true := by simp
  rw [e3] at key
  exact EqAt.of_refs hne key
theorem ne_same {D1 D2 C1 A1 C2 A2 : Addr} {c1 a1 c2 a2 : Array Value} {k1 k2 k3 k4 d1 d2 : Nat} {xs ys : List Str} {Q : Value → Shared → Prop} (N : News h₀ L s.heap news)
    (m1 : (D1, ({ cls := .type "tuple", data := .seq #[.ref C1, .ref A1] d1 } : Obj)) ∈ news) (m2 : (D2, ({ cls := .type "tuple", data := .seq #[.ref C2, .ref A2] d2 } : Obj)) ∈ news)
    (m3 : (C1, W.listOf c1 k1) ∈ news) (m4 : (A1, W.listOf a1 k2) ∈ news) (m5 : (C2, W.listOf c2 k3) ∈ news) (m6 : (A2, W.listOf a2 k4) ∈ news)
    (h1 : StrsAre c1.toList xs) (h2 : StrsAre a1.toList ys) (h3 : StrsAre c2.toList xs) (h4 : StrsAre a2.toList ys) (n1 : @Ne Nat C1 C2) (n2 : @Ne Nat A1 A2) (hu : A.units + 8 < cLine) (h : Q (.bool false) s) :
    wpAny (model prog w) A (compareOp .NotEq (.ref D1) (.ref D2)) Q E s := by
  have q1 : s.heap.IsTuple D1 #[.ref C1, .ref A1] := ⟨_, (N _ m1).1, rfl, _, rfl⟩
  have q2 : s.heap.IsTuple D2 #[.ref C2, .ref A2] := ⟨_, (N _ m2).1, rfl, _, rfl⟩
  have key := RcNeAt.tuples (A := A) (e := fun _ => true) q1 q2 (by omega) (fun j p1 p2 => by
    have : j = 0 ∨ j = 1 := by
      have : j < 2 := p1
      omega
    rcases this with rfl | rfl
    · exact strlists_eq (A := A.in1) (isListA (News.get N m3)) (isListA (News.get N m5)) h1 h3 n1 (by show A.units + 1 < cLine; omega)
    · exact strlists_eq (A := A.in1) (isListA (News.get N m4)) (isListA (News.get N m6)) h2 h4 n2 (by show A.units + 1 < cLine; omega))
  exact cmp_ofNotEq (key prog w E Q h)
end
end
section
theorem rg_all : (List.range 20).all (fun n => Builtin.Range.small 0 (n : Int) 1 && (Builtin.Range.rangeSize 0 (n : Int) 1 == (n : Int))) = true := by decide +kernel
theorem rg_ok (n : Nat) (h : n < 20) : Builtin.Range.small 0 (n : Int) 1 = true ∧ Builtin.Range.rangeSize 0 (n : Int) 1 = (n : Int) := by
  have := List.all_eq_true.mp rg_all n (List.mem_range.mpr h)
  rw [Bool.and_eq_true, beq_iff_eq] at this
  exact this
end
section
noncomputable def LawEnd (s₁ : Shared) (f : Flow) (s' : Shared) : Prop := (match f with | .ret v => v | _ => .none) = Value.bool true ∧ s'.os = s₁.os ∧ AllBare s'.gens ∧ Ext s₁.heap s'.heap
set_option maxRecDepth 100000 in
set_option maxHeartbeats 8000000 in
theorem law0 : PySem.Challenge.rw_il0007_01.Holds := by
  refine hd ?_
  k_fill
  intro w s₀ s₁ mg mb G Y fa o pm cd doc dV kV ho hd9 hcd hD hmg hg args vals as hpre hlay hrd hwl hlo
  have KX := kIn_of Y
  have X := (Ground.X G).1
  have V := (Ground.X G).2
  refine Ground.open G ?_
  intro T B D TE TW
  try (refine guard_noD D (by decide +kernel) ?_; clear D)
  obtain ⟨_, _, M⟩ := bmod_of_top T
  have TA := at_of_top T
  try (obtain ⟨_, _, he, B0⟩ := based_of_top T rfl hmg ho hd9; have he' : cd = _ := he; subst he'; clear he)
  clear hmg
  wrow_args hpre hlay hrd hwl hlo
  all_goals (
    first | refine callC_kw (enter_call ?_) | refine enter_call ?_ | refine callC_kw (enter_callW ?_) | refine enter_callW ?_ | w_how
    w_top on
    have K0 := below_caller (Top.heap T)
    w_call any ho hd9 hcd hD T F
    clear hd9 TA
    k_drop
    skip)
  all_goals (try k_fold)
  rename_i ns _ _ _ _ _ _ _ sl svs _ hSl _ _ _ hI _ hn63 _ h1 N1
  refine wpAny_mono (Q := LawEnd s₁) (E := fun _ _ => False) ?_ ?_ (fun _ _ x => x.elim)
  · (repeat' ((fail_if_success (with_reducible show wpAny _ _ (exec (Stmt.For _ _ _ _ _) _) _ _ _)); (fail_if_success (with_reducible show wpAny _ _ (exec (Stmt.While _ _ _ _) _) _ _ _)); (fail_if_success (with_reducible show wpAny _ _ (eval (Expr.ListComp _ _ _ _) _) _ _ _)); (fail_if_success (with_reducible show wpAny _ _ (pyIter _) _ _ _)); (fail_if_success (with_reducible show wpAny _ _ (exec (Stmt.Assign _ (Expr.ListComp _ _ _ _) _) _) _ _ _)); (fail_if_success (with_reducible show wpAny _ _ (call (Value.ref _) _) _ _ _)); (fail_if_success (with_reducible show TurnPost _ _ _ _ _ _ _ _ _)); first | (k_unfold; (try dsimp only)) | walk1 | (dsimp only; walk1)))
    rename (IntsAre _ ([0, 2, 35, 33, 59] ++ _)) => hxs
    rename (Fr s₁.heap s₁.heap.objs.size _ _) => F2
    rename (News s₁.heap s₁.heap.objs.size _ _) => N2
    have hlen : ([0, 2, 35, 33, 59] ++ List.take 8 ns).length ≤ 13 := by rw [List.length_append, List.length_take]; simp; omega
    generalize ([0, 2, 35, 33, 59] ++ List.take 8 ns : List Int) = xs at hxs hlen
    have hg1 := gOk_fold xs
    have hg2 := tOk_grown xs
    generalize hgr : grown xs = gr at hg1 hg2
    obtain ⟨above, places, told⟩ := gr
    have ht1 := hg1.1
    have ha1 := hg1.2.1
    have hp1 := hg1.2.2.1
    have hp2 := hg1.2.2.2.1
    have hp3 := hg1.2.2.2.2
    clear hg1
    have hto := hg2.2.2.1
    have hab := hg2.2.2.2
    clear hg2
    dsimp only at ht1 ha1 hp1 hp2 hp3 hto hab
    refine Spec.use (grown_call w _ _ _ hxs hlen) K0 F2 N2 KX T rfl ?_ ?_ (isList_of (News.get N2 (.head _))) ?_
    · ktr_room
    · ktr_units
    intro r h2 tk2 F3 N3 ke hO
    refine ex12 hO ?_
    clear hO
    intro d A P Tt aar par tar an pn tn dn tups hx9
    have qe1 := hx9.1
    have hM := hx9.2.1
    have hA := hx9.2.2.1
    have hP := hx9.2.2.2.1
    have hTo := hx9.2.2.2.2
    clear hx9
    subst qe1
    rw [hgr] at hA hP hTo
    have N4 := Made.news F2 N2 ke hM
    clear N3 hM ke F2 N2
    (repeat' ((fail_if_success (with_reducible show wpAny _ _ (exec (Stmt.For _ _ _ _ _) _) _ _ _)); (fail_if_success (with_reducible show wpAny _ _ (exec (Stmt.While _ _ _ _) _) _ _ _)); (fail_if_success (with_reducible show wpAny _ _ (eval (Expr.ListComp _ _ _ _) _) _ _ _)); (fail_if_success (with_reducible show wpAny _ _ (pyIter _) _ _ _)); (fail_if_success (with_reducible show wpAny _ _ (exec (Stmt.Assign _ (Expr.ListComp _ _ _ _) _) _) _ _ _)); (fail_if_success (with_reducible show wpAny _ _ (call (Value.ref _) _) _ _ _)); (fail_if_success (with_reducible show TurnPost _ _ _ _ _ _ _ _ _)); first | (k_unfold; (try dsimp only)) | walk1 | (dsimp only; walk1)))
    with_reducible rename Fr _ _ _ _ => F3
    with_reducible rename News _ _ _ _ => N5
    have N6 : News s₁.heap s₁.heap.objs.size _ ((A, W.listOf aar an) :: (P, W.listOf par pn) :: (Tt, W.listOf tar tn) :: tups) := fun p hp => N5 p (List.mem_append_left _ (.tail _ hp))
    clear N4 N5
    have pl1 := plain_http xs
    have pl2 := plain_kv xs hlen
    have pl3 := plain_head xs hlen
    have pl4 := plain_tab xs hlen
    have pl5 := plain_main xs hlen
    rw [hgr] at pl1 pl2 pl3 pl4 pl5
    dsimp only at pl1 pl2 pl3 pl5 hA hP hTo
    refine Spec.use (header_call w P Tt par.toList tar.toList places told hP (by omega) (by omega) (fun x hx => Nat.le_trans (hp3 x hx) (by omega)) hto) K0 F3 N6 KX T rfl ?_ ?_ ⟨isList_of (News.get N6 (.tail _ (.head _))), isList_of (News.get N6 (.tail _ (.tail _ (.head _)))), toldAll_of N6 (fun p hp => .tail _ (.tail _ (.tail _ hp))) hTo⟩ ?_
    · ktr_room
    · ktr_units
    rintro r h3 tk3 F4 N7 ke3 ⟨th, rfl⟩
    clear F3 N6 ke3
    (repeat' ((fail_if_success (with_reducible show wpAny _ _ (exec (Stmt.For _ _ _ _ _) _) _ _ _)); (fail_if_success (with_reducible show wpAny _ _ (exec (Stmt.While _ _ _ _) _) _ _ _)); (fail_if_success (with_reducible show wpAny _ _ (eval (Expr.ListComp _ _ _ _) _) _ _ _)); (fail_if_success (with_reducible show wpAny _ _ (pyIter _) _ _ _)); (fail_if_success (with_reducible show wpAny _ _ (exec (Stmt.Assign _ (Expr.ListComp _ _ _ _) _) _) _ _ _)); (fail_if_success (with_reducible show wpAny _ _ (call (Value.ref _) _) _ _ _)); (fail_if_success (with_reducible show TurnPost _ _ _ _ _ _ _ _ _)); first | (k_unfold; (try dsimp only)) | walk1 | (dsimp only; walk1)))
    refine Spec.use (http_call w _ th pl3) K0 F4 N7 KX T rfl ?_ ?_ trivial ?_
    · ktr_room
    · ktr_units
    intro r h4 tk4 F5 N8 ke4 hO
    refine ex3 hO ?_
    clear hO
    intro ha ys hn hx9
    have qe1 := hx9.1
    have hay := hx9.2.1
    have hfr := hx9.2.2.1
    have hys := hx9.2.2.2
    clear hx9
    subst qe1
    have N9 := Made.news F4 N7 ke4 (l := [(ha, W.listOf ys hn)]) (fun p hp => by rw [List.mem_singleton.mp hp]; exact ⟨hay, hfr⟩)
    simp only [List.cons_append, List.nil_append] at N9
    rw [pl1] at hys
    clear F4 N7 N8 ke4
    (repeat' ((fail_if_success (with_reducible show wpAny _ _ (exec (Stmt.For _ _ _ _ _) _) _ _ _)); (fail_if_success (with_reducible show wpAny _ _ (exec (Stmt.While _ _ _ _) _) _ _ _)); (fail_if_success (with_reducible show wpAny _ _ (eval (Expr.ListComp _ _ _ _) _) _ _ _)); (fail_if_success (with_reducible show wpAny _ _ (pyIter _) _ _ _)); (fail_if_success (with_reducible show wpAny _ _ (exec (Stmt.Assign _ (Expr.ListComp _ _ _ _) _) _) _ _ _)); (fail_if_success (with_reducible show wpAny _ _ (call (Value.ref _) _) _ _ _)); (fail_if_success (with_reducible show TurnPost _ _ _ _ _ _ _ _ _)); first | (k_unfold; (try dsimp only)) | walk1 | (dsimp only; walk1)))
    refine Spec.use (keqv_call w ha ys.toList _ hys (by rw [List.length_map]; omega) pl2) K0 F5 N9 KX T rfl ?_ ?_ (isList_of (News.get N9 (.head _))) ?_
    · ktr_room
    · ktr_units
    intro r h5 tk5 F6 N10 ke5 hO
    refine ex2 hO ?_
    clear hO
    intro tb otb hx9
    have qe1 := hx9.1
    have htb := hx9.2.1
    have hfr5 := hx9.2.2.1
    have hTab := hx9.2.2.2
    clear hx9
    subst qe1
    have N11 := Made.news F5 N9 ke5 (l := [(tb, otb)]) (fun p hp => by rw [List.mem_singleton.mp hp]; exact ⟨htb, hfr5⟩)
    simp only [List.cons_append, List.nil_append] at N11
    clear F5 N9 N10 ke5
    (repeat' ((fail_if_success (with_reducible show wpAny _ _ (exec (Stmt.For _ _ _ _ _) _) _ _ _)); (fail_if_success (with_reducible show wpAny _ _ (exec (Stmt.While _ _ _ _) _) _ _ _)); (fail_if_success (with_reducible show wpAny _ _ (eval (Expr.ListComp _ _ _ _) _) _ _ _)); (fail_if_success (with_reducible show wpAny _ _ (pyIter _) _ _ _)); (fail_if_success (with_reducible show wpAny _ _ (exec (Stmt.Assign _ (Expr.ListComp _ _ _ _) _) _) _ _ _)); (fail_if_success (with_reducible show wpAny _ _ (call (Value.ref _) _) _ _ _)); (fail_if_success (with_reducible show TurnPost _ _ _ _ _ _ _ _ _)); first | (k_unfold; (try dsimp only)) | walk1 | (dsimp only; walk1)))
    with_reducible rename Fr _ _ _ _ => F7
    with_reducible rename News _ _ _ _ => N12
    obtain ⟨lo, kvs, hDict, hFlat⟩ := hTab
    obtain ⟨otb', htb', hobj⟩ := Heap.dictOf_iff.mp hDict
    rw [htb] at htb'; cases htb'
    refine Spec.use (rows_call w Tt tar.toList told (by omega)) K0 F7 N12 KX T rfl ?_ ?_ ⟨isList_of (News.get N12 (.tail _ (.tail _ (.tail _ (.tail _ (.head _)))))), toldAll_of N12 (fun p hp => .tail _ (.tail _ (.tail _ (.tail _ (.tail _ hp))))) hTo⟩ ?_
    · ktr_room
    · ktr_units
    intro r h6 tk6 F8 N13 ke6 hO
    refine ex4 hO ?_
    clear hO
    intro R rar rn tups2 hx9
    have qe1 := hx9.1
    have hM := hx9.2.1
    have hRo := hx9.2.2
    clear hx9
    subst qe1
    have N14 := Made.news F7 N12 ke6 hM
    have N15 : News s₁.heap s₁.heap.objs.size h6 ((R, W.listOf rar rn) :: (tb, otb) :: (A, W.listOf aar an) :: (P, W.listOf par pn) :: (Tt, W.listOf tar tn) :: (tups2 ++ tups)) := all_put (N14 _ (List.mem_append_left _ (.head _))) (all_put (N14 _ (List.mem_append_right _ (.head _))) (all_put (N14 _ (List.mem_append_right _ (.tail _ (.tail _ (.head _))))) (all_put (N14 _ (List.mem_append_right _ (.tail _ (.tail _ (.tail _ (.head _)))))) (all_put (N14 _ (List.mem_append_right _ (.tail _ (.tail _ (.tail _ (.tail _ (.head _))))))) (all_app (fun p hp => N14 p (List.mem_append_left _ (.tail _ hp))) (fun p hp => N14 p (List.mem_append_right _ (.tail _ (.tail _ (.tail _ (.tail _ (.tail _ (hp)))))))))))))
    clear F7 N12 N13 ke6 N14 hM
    (repeat' ((fail_if_success (with_reducible show wpAny _ _ (exec (Stmt.For _ _ _ _ _) _) _ _ _)); (fail_if_success (with_reducible show wpAny _ _ (exec (Stmt.While _ _ _ _) _) _ _ _)); (fail_if_success (with_reducible show wpAny _ _ (eval (Expr.ListComp _ _ _ _) _) _ _ _)); (fail_if_success (with_reducible show wpAny _ _ (pyIter _) _ _ _)); (fail_if_success (with_reducible show wpAny _ _ (exec (Stmt.Assign _ (Expr.ListComp _ _ _ _) _) _) _ _ _)); (fail_if_success (with_reducible show wpAny _ _ (call (Value.ref _) _) _ _ _)); (fail_if_success (with_reducible show TurnPost _ _ _ _ _ _ _ _ _)); first | (k_unfold; (try dsimp only)) | walk1 | (dsimp only; walk1)))
    refine wpAny_For ?_
    (repeat' ((fail_if_success (with_reducible show wpAny _ _ (exec (Stmt.For _ _ _ _ _) _) _ _ _)); (fail_if_success (with_reducible show wpAny _ _ (exec (Stmt.While _ _ _ _) _) _ _ _)); (fail_if_success (with_reducible show wpAny _ _ (eval (Expr.ListComp _ _ _ _) _) _ _ _)); (fail_if_success (with_reducible show wpAny _ _ (pyIter _) _ _ _)); (fail_if_success (with_reducible show wpAny _ _ (exec (Stmt.Assign _ (Expr.ListComp _ _ _ _) _) _) _ _ _)); (fail_if_success (with_reducible show wpAny _ _ (call (Value.ref _) _) _ _ _)); (fail_if_success (with_reducible show TurnPost _ _ _ _ _ _ _ _ _)); first | (k_unfold; (try dsimp only)) | walk1 | (dsimp only; walk1)))
    with_reducible rename Fr _ _ _ _ => F9
    with_reducible rename News _ _ _ _ => N16
    rename (IsRange _ _ _ _ _ _ _ _) => hRg
    refine iter_range (n := places.length) (fun i m nx g => nx = (R, W.listOf rar rn) :: (tb, otb) :: (A, W.listOf aar an) :: (P, W.listOf par pn) :: (Tt, W.listOf tar tn) :: (tups2 ++ tups) ∧ AllBare g ∧ m (Str.ofString "above") = some (.ref A) ∧ m (Str.ofString "places") = some (.ref P) ∧ m (Str.ofString "table") = some (.ref tb) ∧ m (Str.ofString "rows") = some (.ref R)) rfl hRg ?_ ?_ F9 N16 ⟨rfl, by rw [hg]; exact AllBare.empty, rfl, rfl, rfl, rfl⟩ rfl ?_ ?_
    · exact (rg_ok places.length (by omega)).1
    · exact (rg_ok places.length (by omega)).2
    · rintro i u I oI m₁ nx h tk g hge hi hJ hn F N Post hPost
      have qe1 := hJ.1
      have hbare := hJ.2.1
      have hma := hJ.2.2.1
      have hmp := hJ.2.2.2.1
      have hmt := hJ.2.2.2.2.1
      have hmr := hJ.2.2.2.2.2
      clear hJ
      subst qe1
      replace F := Fr.see4 F hma hmp hmt hmr
      clear F9 N16
      (repeat' ((fail_if_success (with_reducible show wpAny _ _ (exec (Stmt.For _ _ _ _ _) _) _ _ _)); (fail_if_success (with_reducible show wpAny _ _ (exec (Stmt.While _ _ _ _) _) _ _ _)); (fail_if_success (with_reducible show wpAny _ _ (eval (Expr.ListComp _ _ _ _) _) _ _ _)); (fail_if_success (with_reducible show wpAny _ _ (pyIter _) _ _ _)); (fail_if_success (with_reducible show wpAny _ _ (exec (Stmt.Assign _ (Expr.ListComp _ _ _ _) _) _) _ _ _)); (fail_if_success (with_reducible show wpAny _ _ (call (Value.ref _) _) _ _ _)); (fail_if_success (with_reducible show TurnPost _ _ _ _ _ _ _ _ _)); first | (k_unfold; (try dsimp only)) | walk1 | (dsimp only; walk1)))
      refine wpAny_For ?_
      (repeat' ((fail_if_success (with_reducible show wpAny _ _ (exec (Stmt.For _ _ _ _ _) _) _ _ _)); (fail_if_success (with_reducible show wpAny _ _ (exec (Stmt.While _ _ _ _) _) _ _ _)); (fail_if_success (with_reducible show wpAny _ _ (eval (Expr.ListComp _ _ _ _) _) _ _ _)); (fail_if_success (with_reducible show wpAny _ _ (pyIter _) _ _ _)); (fail_if_success (with_reducible show wpAny _ _ (exec (Stmt.Assign _ (Expr.ListComp _ _ _ _) _) _) _ _ _)); (fail_if_success (with_reducible show wpAny _ _ (call (Value.ref _) _) _ _ _)); (fail_if_success (with_reducible show TurnPost _ _ _ _ _ _ _ _ _)); first | (k_unfold; (try dsimp only)) | walk1 | (dsimp only; walk1)))
      with_reducible rename Fr _ _ _ _ => F9
      with_reducible rename News _ _ _ _ => N9
      clear hRg
      rename (IsRange _ _ _ _ _ _ _ _) => hRg
      refine iter_range (n := 2) (fun i2 m nx g => nx = (I, oI) :: (R, W.listOf rar rn) :: (tb, otb) :: (A, W.listOf aar an) :: (P, W.listOf par pn) :: (Tt, W.listOf tar tn) :: (tups2 ++ tups) ∧ AllBare g ∧ (m (Str.ofString "node") = some (.int (i : Int) u) ∧ m (Str.ofString "above") = some (.ref A)) ∧ m (Str.ofString "places") = some (.ref P) ∧ m (Str.ofString "table") = some (.ref tb) ∧ m (Str.ofString "rows") = some (.ref R)) rfl hRg ?_ ?_ F9 N9 ⟨rfl, hbare, ⟨rfl, rfl⟩, rfl, rfl, rfl⟩ rfl ?_ ?_
      · rfl
      · rfl
      · rintro i2 u2 I2 oI2 m₂ nx h tk g hge hi2 hJ hn2 F N Post2 hPost2
        have qe1 := hJ.1
        have hbare := hJ.2.1
        have hmn := hJ.2.2.1.1
        have hma := hJ.2.2.1.2
        have hmp := hJ.2.2.2.1
        have hmt := hJ.2.2.2.2.1
        have hmr := hJ.2.2.2.2.2
        clear hJ
        subst qe1
        replace F := Fr.see5 F hmn hma hmp hmt hmr
        clear F9 N9
        have hpl9 : (places.getD ((i : Int)).toNat Str.empty).length ≤ 1000 := getD_le (fun x hx => Nat.le_trans (hp3 x hx) (by omega)) _
        have hml9 := mul_len (i2 : Int) (by omega) (by omega)
        have hq : (keyOf places (i : Int) (i2 : Int)).length ≤ 1010 := by unfold keyOf; rw [Str.length_append]; omega
        refine ex1 (chain_ex above hab _ (i : Int) (Nat.le_refl _) (by omega) (by omega)) ?_
        intro chain hch
        refine ex1 (pl5 (i : Int) (i2 : Int) (by omega) (by omega) (by omega) (by omega) chain hch) ?_
        intro l hx9
        have hAnc := hx9.1
        have hll := hx9.2.1
        have hcov := hx9.2.2.1
        have habv := hx9.2.2.2
        clear hx9
        (repeat' ((fail_if_success (with_reducible show wpAny _ _ (exec (Stmt.For _ _ _ _ _) _) _ _ _)); (fail_if_success (with_reducible show wpAny _ _ (exec (Stmt.While _ _ _ _) _) _ _ _)); (fail_if_success (with_reducible show wpAny _ _ (eval (Expr.ListComp _ _ _ _) _) _ _ _)); (fail_if_success (with_reducible show wpAny _ _ (pyIter _) _ _ _)); (fail_if_success (with_reducible show wpAny _ _ (exec (Stmt.Assign _ (Expr.ListComp _ _ _ _) _) _) _ _ _)); (fail_if_success (with_reducible show wpAny _ _ (call (Value.ref _) _) _ _ _)); (fail_if_success (with_reducible show TurnPost _ _ _ _ _ _ _ _ _)); first | (k_unfold; (try dsimp only)) | walk1 | (dsimp only; walk1)))
        with_reducible rename Fr _ _ _ _ => F9
        with_reducible rename News _ _ _ _ => N9
        refine SpecG.use (found_call w tb (keyOf places (i : Int) (i2 : Int)) _ _ hq l hAnc hll pl4.1 pl4.2) K0 F9 N9 KX T rfl ?_ ?_ (TabAt.ofObj lo (News.get N9 (.tail _ (.tail _ (.tail _ (.head _))))) hobj hFlat) ?_
        · ktr_room
        · ktr_units
        intro r h7 tk7 g7 hg7 F10 N10 ke7 hO
        refine ex8 hO ?_
        clear hO
        intro D1 C1 A1 c1 a1 k1 k2 d1 hx9
        have qe1 := hx9.1
        have hM1 := hx9.2.1
        have hc1 := hx9.2.2.1
        have ha1' := hx9.2.2.2
        clear hx9
        subst qe1
        have N11 := Made.news F9 N9 ke7 hM1
        simp only [List.cons_append, List.nil_append] at N11
        clear F9 N9 N10 ke7
        (repeat' ((fail_if_success (with_reducible show wpAny _ _ (exec (Stmt.For _ _ _ _ _) _) _ _ _)); (fail_if_success (with_reducible show wpAny _ _ (exec (Stmt.While _ _ _ _) _) _ _ _)); (fail_if_success (with_reducible show wpAny _ _ (eval (Expr.ListComp _ _ _ _) _) _ _ _)); (fail_if_success (with_reducible show wpAny _ _ (pyIter _) _ _ _)); (fail_if_success (with_reducible show wpAny _ _ (exec (Stmt.Assign _ (Expr.ListComp _ _ _ _) _) _) _ _ _)); (fail_if_success (with_reducible show wpAny _ _ (call (Value.ref _) _) _ _ _)); (fail_if_success (with_reducible show TurnPost _ _ _ _ _ _ _ _ _)); first | (k_unfold; (try dsimp only)) | walk1 | (dsimp only; walk1)))
        with_reducible rename Fr _ _ _ _ => F9
        with_reducible rename News _ _ _ _ => N9
        rename (IntsAre aar.toList above) => hA
        refine Spec.use (due_call w A R aar.toList rar.toList above (rowsOf told) (i : Int) (i2 : Int) u u2 hA (by omega) (Nat.le_trans (rows_len told told []) (by rw [List.length_nil]; omega)) hab (by omega) (by omega)) K0 F9 N9 KX T rfl ?_ ?_
          ⟨isList_of (News.get N9 (.tail _ (.tail _ (.tail _ (.tail _ (.tail _ (.tail _ (.tail _ (.head _))))))))), isList_of (News.get N9 (.tail _ (.tail _ (.tail _ (.tail _ (.tail _ (.head _))))))), toldAll_of2 N9 (fun p hp => .tail _ (.tail _ (.tail _ (.tail _ (.tail _ (.tail _ (.tail _ (.tail _ (.tail _ (.tail _ (List.mem_append_left _ hp))))))))))) hRo⟩ ?_
        · ktr_room
        · ktr_units
        intro r h8 tk8 F10 N10 ke8 hO
        refine ex9 hO ?_
        clear hO
        intro D2 C2 A2 c2 a2 k3 k4 d2 chain' hx9
        have qe1 := hx9.1
        have hM2 := hx9.2.1
        have hch' := hx9.2.2.1
        have hc2 := hx9.2.2.2.1
        have ha2 := hx9.2.2.2.2
        clear hx9
        subst qe1
        rw [chain_one hch' hch] at hc2 ha2
        rw [← hcov] at hc2
        rw [← habv] at ha2
        have nC : @Ne Nat C1 C2 := fun q => by
          have z1 := (hM2 (C2, W.listOf c2 k3) (.tail _ (.head _))).2
          have z2 := (N9 (C1, W.listOf c1 k1) (.tail _ (.head _))).1
          rw [q] at z2
          exact nomatch (z2.symm.trans z1)
        have nA : @Ne Nat A1 A2 := fun q => by
          have z1 := (hM2 (A2, W.listOf a2 k4) (.tail _ (.tail _ (.head _)))).2
          have z2 := (N9 (A1, W.listOf a1 k2) (.tail _ (.tail _ (.head _)))).1
          rw [q] at z2
          exact nomatch (z2.symm.trans z1)
        have N11 := Made.news F9 N9 ke8 hM2
        simp only [List.cons_append, List.nil_append] at N11
        clear F9 N9 N10 ke8
        refine ne_same N11 (.tail _ (.tail _ (.tail _ (.head _)))) (.head _) (.tail _ (.tail _ (.tail _ (.tail _ (.head _))))) (.tail _ (.tail _ (.tail _ (.tail _ (.tail _ (.head _)))))) (.tail _ (.head _)) (.tail _ (.tail _ (.head _))) hc1 ha1' hc2 ha2 nC nA ?_ ?_
        · ktr_units
        have N12 : News s₁.heap s₁.heap.objs.size _ ((I2, oI2) :: (I, oI) :: (R, W.listOf rar rn) :: (tb, otb) :: (A, W.listOf aar an) :: (P, W.listOf par pn) :: (Tt, W.listOf tar tn) :: (tups2 ++ tups)) := fun p hp => N11 p (.tail _ (.tail _ (.tail _ (.tail _ (.tail _ (.tail _ hp))))))
        clear N11
        (repeat' ((fail_if_success (with_reducible show wpAny _ _ (exec (Stmt.For _ _ _ _ _) _) _ _ _)); (fail_if_success (with_reducible show wpAny _ _ (exec (Stmt.While _ _ _ _) _) _ _ _)); (fail_if_success (with_reducible show wpAny _ _ (eval (Expr.ListComp _ _ _ _) _) _ _ _)); (fail_if_success (with_reducible show wpAny _ _ (pyIter _) _ _ _)); (fail_if_success (with_reducible show wpAny _ _ (exec (Stmt.Assign _ (Expr.ListComp _ _ _ _) _) _) _ _ _)); (fail_if_success (with_reducible show wpAny _ _ (call (Value.ref _) _) _ _ _)); (fail_if_success (with_reducible show TurnPost _ _ _ _ _ _ _ _ _)); first | (k_unfold; (try dsimp only)) | walk1 | (dsimp only; walk1)))
        with_reducible rename Fr _ _ _ _ => F9
        with_reducible rename News _ _ _ _ => N9
        refine hPost2 _ _ ?_
        simp only [TurnPost]
        exact TurnEnd.intro _ F9 N9 hn2 ⟨rfl, hg7 hbare, ⟨rfl, rfl⟩, rfl, rfl, rfl⟩
      · intro m₂ nx h tk g hge hJ F N
        have qe1 := hJ.1
        have hbare := hJ.2.1
        have hmn := hJ.2.2.1.1
        have hma := hJ.2.2.1.2
        have hmp := hJ.2.2.2.1
        have hmt := hJ.2.2.2.2.1
        have hmr := hJ.2.2.2.2.2
        clear hJ
        subst qe1
        replace F := Fr.see4 F hma hmp hmt hmr
        clear F9 N9
        (repeat' ((fail_if_success (with_reducible show wpAny _ _ (exec (Stmt.For _ _ _ _ _) _) _ _ _)); (fail_if_success (with_reducible show wpAny _ _ (exec (Stmt.While _ _ _ _) _) _ _ _)); (fail_if_success (with_reducible show wpAny _ _ (eval (Expr.ListComp _ _ _ _) _) _ _ _)); (fail_if_success (with_reducible show wpAny _ _ (pyIter _) _ _ _)); (fail_if_success (with_reducible show wpAny _ _ (exec (Stmt.Assign _ (Expr.ListComp _ _ _ _) _) _) _ _ _)); (fail_if_success (with_reducible show wpAny _ _ (call (Value.ref _) _) _ _ _)); (fail_if_success (with_reducible show TurnPost _ _ _ _ _ _ _ _ _)); first | (k_unfold; (try dsimp only)) | walk1 | (dsimp only; walk1)))
        with_reducible rename Fr _ _ _ _ => F9
        with_reducible rename News _ _ _ _ => N9
        refine hPost _ _ ?_
        simp only [TurnPost]
        exact TurnEnd.intro _ F9 N9 hn ⟨rfl, hbare, rfl, rfl, rfl, rfl⟩
    · intro m₂ nx h tk g hge hJ F N
      have qe1 := hJ.1
      have hbare := hJ.2.1
      have hma := hJ.2.2.1
      have hmp := hJ.2.2.2.1
      have hmt := hJ.2.2.2.2.1
      have hmr := hJ.2.2.2.2.2
      clear hJ
      subst qe1
      clear F9 N16
      (repeat' ((fail_if_success (with_reducible show wpAny _ _ (exec (Stmt.For _ _ _ _ _) _) _ _ _)); (fail_if_success (with_reducible show wpAny _ _ (exec (Stmt.While _ _ _ _) _) _ _ _)); (fail_if_success (with_reducible show wpAny _ _ (eval (Expr.ListComp _ _ _ _) _) _ _ _)); (fail_if_success (with_reducible show wpAny _ _ (pyIter _) _ _ _)); (fail_if_success (with_reducible show wpAny _ _ (exec (Stmt.Assign _ (Expr.ListComp _ _ _ _) _) _) _ _ _)); (fail_if_success (with_reducible show wpAny _ _ (call (Value.ref _) _) _ _ _)); (fail_if_success (with_reducible show TurnPost _ _ _ _ _ _ _ _ _)); first | (k_unfold; (try dsimp only)) | walk1 | (dsimp only; walk1)))
      exact ⟨rfl, rfl, hbare, F.keep⟩
  · rintro f s' ⟨hv, hos, hbare, hext⟩
    have goal : ∀ v, v = Value.bool true → GoodWG PySem.Challenge.rw_il0007_01.row.claim (classAt s₀.heap) (ExcName.means s₀.heap) [ofPy (PyData.list (List.map PyData.int ns))] s₁ (Except.ok (Flow.ret v)) s' := by
      rintro v rfl
      exact ⟨.inl ⟨_, .bool true, [], rfl, fun _ => rfl, .bool true, (by wrow_post), fun _ => ⟨List.nodup_nil, fun _ h => nomatch h⟩⟩, .of_keep hext, hos, hbare⟩
    exact goal _ hv
end
end Mine
theorem PySem.Challenge.cw_il0007_01_holds : PySem.Challenge.rw_il0007_01.Holds :=
  Mine.law0
