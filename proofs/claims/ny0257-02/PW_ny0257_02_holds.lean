import PyProof.Rows.All
import Wide.All
import OpenK.AllK
import Wide.FinOn
import PySem.Challenge.RW_ny0257_02
open PySem PySem.W PyProof.Rows PySem.Spec PySem.Calls
set_option Elab.async false
set_option maxRecDepth 100000
set_option maxHeartbeats 8000000
namespace Mine
open_top hd for PySem.Challenge.rw_ny0257_02
theorem off0 : True := by
  w_top off
  trivial
section
open PySem PySem.W PyProof.Rows PySem.Spec PySem.Calls
abbrev PR := Challenge.rw_ny0257_02.row.prog
noncomputable abbrev KF (w : World) : Frag := hd.heap_39 w.params
def runP {α : Type} (look : Addr → Option Obj) : Nat → Sem α → Option α
  | 0, _ => none
  | n + 1, t => match t with
    | .pure a => some a
    | .rule _ k => runP look n (k ())
    | .at _ k => runP look n (k ())
    | .point _ k => runP look n (k ())
    | .load a _ k => match look a with
      | some o => runP look n (k o)
      | none => none
    | _ => none
theorem runP_sound {α : Type} {M : Model} {A : Around} {E : Value → Shared → Prop} {s : Shared} {look : Addr → Option Obj} (hl : ∀ a o, look a = some o → s.heap.get? a = some o) {Q : α → Shared → Prop} :
    ∀ (n : Nat) (t : Sem α) (a : α), runP look n t = some a → Q a s → wpAny M A t Q E s := by
  intro n
  induction n with
  | zero => intro t a h; cases h
  | succ n ih =>
    intro t a h q
    unfold runP at h
    split at h
    · cases h; exact wpAny_pure q
    · rename_i tag k
      exact wpAny_bind (m := rule tag) (f := k) (wpAny_rule (ih _ _ h q))
    · rename_i pos k
      exact wpAny_bind (m := standAt pos) (f := k) (wpAny_standAt (ih _ _ h q))
    · rename_i l k
      exact fun Γ p hΓ => ih _ _ h q Γ p hΓ
    · rename_i ad part k
      split at h
      · rename_i o ho
        exact wpAny_bind (m := loadPart ad part) (f := k) (wpAny_loadPart (hl _ _ ho) (ih _ _ h q))
      · cases h
    · cases h
/-- the names' letters, the values' figures -/
def ltr (i : Nat) (b : Bool) : Str := ⟨#[(if b then 65 else 97) + i]⟩
def dgt (i : Nat) : Str := ⟨#[48 + i]⟩
noncomputable def lookK (P : Params) (a : Addr) : Option Obj := (hd.heap_39 P).lookup a
theorem search_name (P : Params) (t : Tok) (i : Nat) (b : Bool) (hi : i < 5) : runP (lookK P) 400 (Builtin.«re.Pattern.search» ⟨[.ref 48, .str (ltr i b) t], []⟩) = some (.done (.ret .none)) := by
  match i, hi, b with
  | 0, _, true => kernel_rfl
  | 1, _, true => kernel_rfl
  | 2, _, true => kernel_rfl
  | 3, _, true => kernel_rfl
  | 4, _, true => kernel_rfl
  | 0, _, false => kernel_rfl
  | 1, _, false => kernel_rfl
  | 2, _, false => kernel_rfl
  | 3, _, false => kernel_rfl
  | 4, _, false => kernel_rfl
theorem search_value (P : Params) (t : Tok) (i : Nat) (hi : i < 5) : runP (lookK P) 400 (Builtin.«re.Pattern.search» ⟨[.ref 53, .str (dgt i) t], []⟩) = some (.done (.ret .none)) := by
  match i, hi with
  | 0, _ => kernel_rfl
  | 1, _ => kernel_rfl
  | 2, _ => kernel_rfl
  | 3, _ => kernel_rfl
  | 4, _ => kernel_rfl
theorem slot_search : Slot "re.Pattern" "search" "re.Pattern.search" :=
  .of (owner := "re.Pattern") (n := "search") (by rw [typeLookup_type, builtinLookup_eq_fast]; kernel_rfl) (by decide +kernel) (by decide +kernel) (by decide +kernel)
    (by first | exact .inl (by decide +kernel) | exact .inr (by decide +kernel)) (by rw [isSubtype_type]; kernel_rfl)
theorem entry_search : entryFor table "re.Pattern.search" = some Builtin.«re.Pattern.search» := entryFor_of_fast (by kernel_rfl)
theorem args_search (a b : Value) : argsOk "re.Pattern.search" ⟨[a, b], []⟩ := by
  unfold argsOk; kernel_rfl
theorem plainAttrs_re : PlainAttrs "re.Pattern" :=
  ⟨⟨"object.__getattribute__", by rw [typeLookup_type, builtinLookup_eq_fast]; kernel_rfl, by decide +kernel⟩, by rw [typeLookup_type, builtinLookup_eq_fast]; kernel_rfl⟩
theorem type_search : typeOf (.builtin "re.Pattern.search") = pure (.type "method_descriptor") := by show builtinType _ = _; rw [builtinType_eq_fast]; kernel_rfl
end
section
open PySem PySem.W PyProof.Rows PySem.Spec PySem.Calls
/-- all but the objects at adr stays as it was -/
def Keep (adr : List Addr) (h h' : Heap) : Prop := ∀ b o, h.get? b = some o → b ∉ adr → h'.get? b = some o
theorem keep_of {h g h' : Heap} {L' : Addr} {m' : Str → Option Value} {adr : List Addr} (G : GSub h g adr) (F' : Fr g L' h' m') : Keep adr h h' := fun b o e n => F'.keep b o (G b o e n)
theorem Keep.fr {adr : List Addr} {h₀ h h' : Heap} {L : Addr} {m : Str → Option Value} (k : Keep adr h h') (F : Fr h₀ L h m) (hn : ∀ a ∈ adr, a ≠ L ∧ h₀.get? a = none) : Fr h₀ L h' m := by
  obtain ⟨oL, a1, a2, hL, a3⟩ := F.ns
  refine ⟨⟨oL, a1, a2, k _ _ hL fun q => (hn _ q).1 rfl, a3⟩, fun b o e => k _ _ (F.keep b o e) fun q => ?_, F.above⟩
  rw [(hn _ q).2] at e; cases e
theorem Keep.fr0 {h₀ h h' : Heap} {L : Addr} {m : Str → Option Value} (k : Keep [] h h') (F : Fr h₀ L h m) : Fr h₀ L h' m := k.fr F fun _ q => nomatch q
theorem Keep.news {adr : List Addr} {h₀ h h' : Heap} {L : Addr} {news : List (Addr × Obj)} (k : Keep adr h h') (N : News h₀ L h news) (hn : ∀ p ∈ news, p.1 ∉ adr) : News h₀ L h' news := fun p hp => ⟨k _ _ (N p hp).1 (hn p hp), (N p hp).2⟩
theorem Keep.news0 {h₀ h h' : Heap} {L : Addr} {news : List (Addr × Obj)} (k : Keep [] h h') (N : News h₀ L h news) : News h₀ L h' news := k.news N fun _ _ q => nomatch q
theorem Keep.trans {adr : List Addr} {h h' h'' : Heap} (k : Keep adr h h') (k' : Keep adr h' h'') : Keep adr h h'' := fun b o e n => k' b o (k b o e n) n
theorem Keep.mono {adr adr' : List Addr} {h h' : Heap} (k : Keep adr h h') (hs : ∀ a ∈ adr, a ∈ adr') : Keep adr' h h' := fun b o e n => k b o e fun q => n (hs _ q)
section
variable {w : World} {prog : Program} {A : Around} {E : Value → Shared → Prop} {s : Shared} {h₀ : Heap} {L : Addr} {m : Str → Option Value}
theorem gm_search {k : Addr} {o : Obj} {pl : Sem Bool} {M : Model} {Q : Value × List Value → Shared → Prop} (F : Fr h₀ L s.heap m) (X : (KF w).In h₀) (ho : (KF w).lookup k = some o) (hc : o.cls = .type "re.Pattern") (hd : o.dict = none) (h : Q (.builtin "re.Pattern.search", [.ref k]) s) :
    wpAny M A (getMethod (.ref k) (Str.ofString "search") pl) Q E s :=
  getMethod_builtin (T := "re.Pattern") ⟨o, F.keep _ _ (X _ _ ho), hc⟩ plainAttrs_re slot_search type_search (fun a e => by cases e; exact ⟨o, F.keep _ _ (X _ _ ho), hd⟩) h
theorem call_search_name {t : Tok} {i : Nat} {b : Bool} {Q : Value → Shared → Prop} (F : Fr h₀ L s.heap m) (X : (KF w).In h₀) (hi : i < 5) (h : Q .none s) :
    wpAny (model prog w) A (call (.builtin "re.Pattern.search") [.ref 48, .str (ltr i b) t]) Q E s :=
  wpAny_call_entry slot_search ⟨_, F.keep _ _ (X 48 _ rfl), rfl⟩ entry_search (runP_sound (look := lookK w.params) (fun a o e => F.keep _ _ (X a o e)) 400 _ _ (search_name _ t i b hi) ⟨_, rfl, h⟩) (args_search _ _)
theorem call_search_value {t : Tok} {i : Nat} {Q : Value → Shared → Prop} (F : Fr h₀ L s.heap m) (X : (KF w).In h₀) (hi : i < 5) (h : Q .none s) :
    wpAny (model prog w) A (call (.builtin "re.Pattern.search") [.ref 53, .str (dgt i) t]) Q E s :=
  wpAny_call_entry slot_search ⟨_, F.keep _ _ (X 53 _ rfl), rfl⟩ entry_search (runP_sound (look := lookK w.params) (fun a o e => F.keep _ _ (X a o e)) 400 _ _ (search_value _ t i hi) ⟨_, rfl, h⟩) (args_search _ _)
end
end
local macro_rules | `(tactic| walk_at "getMethod ref") => `(tactic| (k_here; (with_reducible show wpAny _ _ (getMethod (Value.ref _) (Str.ofString "search") _) _ _ _); (refine gm_search (by k_asm) (by k_asm) (by rfl) (by rfl) (by rfl) ?_); (try dsimp only)))
local macro_rules | `(tactic| walk_at "call builtin:re.Pattern.search") => `(tactic| (k_here; (first | (refine call_search_name (by k_asm) (by k_asm) (by assumption) ?_) | (refine call_search_value (by k_asm) (by k_asm) (by assumption) ?_)); (try dsimp only)))
local macro_rules | `(tactic| walk_at "my enter") => `(tactic| (refine' code_defG ?k1 ?k2 ?k3 ?k4 ?k5 ?kA ?kF ?kK ?k6 ?k7 ?k8 ?k9 ?kB ?_ ?c2 ?c3 ?c4 ?c5; (case kA => exact rfl); (case kF => exact rfl); (case kK => first | exact rfl | assumption); (case k1 => k_asm); (case k2 => k_asm); (case k3 => k_asm); (case k4 => k_asm); (case k5 => k_asm); (case k6 => k_is); (case k7 => k_is); (case k8 => ktr_room); (case k9 => first | exact BindsTo.of_eq rfl | exact binds_K (by k_in) rfl (by k_is) rfl rfl rfl); (case c5 => decide); (case kB => exact locs rfl); (case c2 => exact rfl); (case c3 => exact rfl); (case c4 => exact rfl); k_whole; intro g' L' h' FG' F' N' B' X' T' GS'; (try dsimp only); (try k_lift B'); (try k_fold)))
section
open PySem PySem.W PyProof.Rows PySem.Spec PySem.Calls
section
variable {w : World} {p : Program} {loose : List Str} {mean : ExcName → Option Value} {mg mb : Str → Option Value} {dp un : Nat} {gd : Option (List Code)} {cn : Str} {cs : Scope} {a : Addr} {ccd : Value} {cl : List (Str × Addr)} {outer : List Env} {A₀ : Around} {base h₀ : Heap} {L : Addr} {m : Str → Option Value} {s : Shared} {Q E : Value → Shared → Prop}
theorem conv_name {x : Addr} {i : Nat} {b : Bool} {t0 : Tok} (B : Below A₀ base outer h₀) (F : Fr h₀ L s.heap m) (X : (hd.heap_39 w.params).In h₀) (T : Top p loose mean mg mb h₀) (hk : cs.kind = .function) (hd : dp + 1 < recursionLimit) (hu : un + 8 < cLine) (hi : i < 5)
    (ret : ∀ h' tk', Keep [] s.heap h' → Q (.str (ltr i b) t0) { s with heap := h', toks := tk' }) :
    wpAny (model PR w) (ktrTop dp un gd cn cs L a ccd cl outer) (call (.ref 83) [.ref x, .str (ltr i b) t0] [("name", .bool true)]) Q E s := by
  have N : News h₀ L s.heap [] := News.nil
  refine wpAny_call ?_
  k_dflt (walk_at "my enter")
  k_steps
  exact ret _ _ (keep_of (by assumption) (by assumption))
theorem conv_value {x : Addr} {i : Nat} {t0 : Tok} (B : Below A₀ base outer h₀) (F : Fr h₀ L s.heap m) (X : (hd.heap_39 w.params).In h₀) (T : Top p loose mean mg mb h₀) (hk : cs.kind = .function) (hd : dp + 1 < recursionLimit) (hu : un + 8 < cLine) (hi : i < 5)
    (ret : ∀ h' tk', Keep [] s.heap h' → Q (.str (dgt i) t0) { s with heap := h', toks := tk' }) :
    wpAny (model PR w) (ktrTop dp un gd cn cs L a ccd cl outer) (call (.ref 83) [.ref x, .str (dgt i) t0] [("name", .bool false)]) Q E s := by
  have N : News h₀ L s.heap [] := News.nil
  refine wpAny_call ?_
  k_dflt (walk_at "my enter")
  k_steps
  exact ret _ _ (keep_of (by assumption) (by assumption))
end
end
section
open PySem PySem.W PyProof.Rows PySem.Spec PySem.Calls
/-- vs are the table's pairs, as st says -/
inductive Rows (h : Heap) : List Value → List (Nat × Bool) → Prop where
  | nil : Rows h [] []
  | cons {t : Addr} {i : Nat} {b : Bool} {t1 t2 : Tok} {vs : List Value} {st : List (Nat × Bool)} : i < 5 → h.IsTuple t #[.str (ltr i b) t1, .str (dgt i) t2] → Rows h vs st → Rows h (.ref t :: vs) ((i, b) :: st)
theorem Rows.length {h : Heap} {vs : List Value} {st : List (Nat × Bool)} (r : Rows h vs st) : vs.length = st.length := by
  induction r with
  | nil => rfl
  | cons _ _ _ ih => simp [ih]
theorem Rows.keeps {h h' : Heap} {vs : List Value} {st : List (Nat × Bool)} (r : Rows h vs st) (k : ∀ t vals, h.IsTuple t vals → h'.IsTuple t vals) : Rows h' vs st := by
  induction r with
  | nil => exact .nil
  | cons a b _ ih => exact .cons a (k _ _ b) ih
theorem Rows.get {h : Heap} {vs : List Value} {st : List (Nat × Bool)} (r : Rows h vs st) : ∀ {i : Nat} {v : Value}, vs[i]? = some v → ∃ t p b t1 t2, v = .ref t ∧ p < 5 ∧ st[i]? = some (p, b) ∧ h.IsTuple t #[.str (ltr p b) t1, .str (dgt p) t2] := by
  induction r with
  | nil => intro i v e; simp at e
  | cons a b _ ih =>
    intro i v e
    cases i with
    | zero => simp at e; subst e; exact ⟨_, _, _, _, _, rfl, a, rfl, b⟩
    | succ i => simp at e; simpa using ih e
theorem isTuple_keep {adr : List Addr} {h h' : Heap} {t : Addr} {vals : Array Value} (k : Keep adr h h') (ht : h.IsTuple t vals) (hn : t ∉ adr) : h'.IsTuple t vals := let ⟨o, ho, r⟩ := ht; ⟨o, k _ _ ho hn, r⟩
theorem isTuple_ne {h : Heap} {t a : Addr} {vals : Array Value} {o : Obj} (ht : h.IsTuple t vals) (ho : h.get? a = some o) (hc : o.cls ≠ .type "tuple") : t ≠ a := by
  rintro rfl
  obtain ⟨o', ho', hc', _⟩ := ht
  rw [ho] at ho'; cases ho'
  exact hc hc'
theorem isTuple_ns {h : Heap} {t a : Addr} {vals : Array Value} {m : Str → Option Value} (ht : h.IsTuple t vals) (hn : h.Ns a m) : t ≠ a := by
  rintro rfl
  obtain ⟨o', ho', _, n, hd'⟩ := ht
  obtain ⟨o, es, ep, ho, hd, _⟩ := hn
  rw [ho] at ho'; cases ho'
  rw [hd] at hd'; cases hd'
theorem isTuple_iter {h : Heap} {t I l : Addr} {i : Nat} {vals : Array Value} (ht : h.IsTuple t vals) (hn : h.IsListIter I l i) : t ≠ I := by
  rintro rfl
  obtain ⟨o', ho', _, n, hd'⟩ := ht
  obtain ⟨o, ho, _, hd⟩ := hn
  rw [ho] at ho'; cases ho'
  rw [hd] at hd'; cases hd'
section
variable {prog : Program} {w : World} {A : Around} {R : Result → Shared → Prop} {env : Env} {l I : Addr} {vs : List Value} {st : List (Nat × Bool)} {pk pv pt : Pos} {x1 : Nat} {body : List Stmt} {m : Str → Option Value} {h₀ : Heap} {s : Shared} {xk xv : Str}
theorem forRows (G : Nat → Prop) (hh : A.handled = none) (hk : env.kindOf xk = some .local) (hv : env.kindOf xv = some .local)
    (hp : (env.scope.kind == .class || (env.scope.kind == .module && env.locals != env.globals)) = false)
    (F : Fr h₀ env.locals s.heap m) (hit : s.heap.IsListIter I l 0) (hl : s.heap.IsList l vs.toArray) (rows : Rows s.heap vs st)
    (hIL : env.locals ≠ I) (hlL : l ≠ env.locals) (hlI : l ≠ I) (hI0 : h₀.get? I = none)
    (turn : ∀ (i p : Nat) (b : Bool) (t1 t2 : Tok) (h : Heap) (tk : Nat), st[i]? = some (p, b) → p < 5 → (∀ (j q : Nat) (c : Bool), j < i → st[j]? = some (q, c) → G q) → Keep [env.locals, I] s.heap h → Fr h₀ env.locals h (fun y => if y = xv then some (.str (dgt p) t2) else if y = xk then some (.str (ltr p b) t1) else m y) →
      wpAny (model prog w) A (execs body env) (fun f s' => match f with | .next => G p ∧ ∃ h' tk', s' = { s with heap := h', toks := tk' } ∧ Keep [] h h' | .ret v => R (.ok (.ret v)) s' | _ => False) (fun _ _ => False) { s with heap := h, toks := tk })
    (done : ∀ (h : Heap) (tk : Nat), (∀ (j q : Nat) (c : Bool), st[j]? = some (q, c) → G q) → R (.ok .next) { s with heap := h, toks := tk }) :
    codeAny (model prog w) A (.forLoop (.Tuple [.Name xk pk, .Name xv pv] x1 pt) (.ref I) body [] env) R s := by
  have hlen := rows.length
  have hT : ∀ t vals, s.heap.IsTuple t vals → t ≠ env.locals ∧ t ≠ I := fun t vals ht => ⟨isTuple_ns ht F.ns, isTuple_iter ht hit⟩
  refine codeAny_forLoop_any (fun k s' => ∃ h tk i m', s' = { s with heap := h, toks := tk } ∧ h.IsListIter I l i ∧ Fr h₀ env.locals h m' ∧ (∀ y, y ≠ xk → y ≠ xv → m' y = m y) ∧ Keep [env.locals, I] s.heap h ∧ i ≤ vs.length ∧ k = vs.length + 1 - i ∧ (∀ (j q : Nat) (c : Bool), j < i → st[j]? = some (q, c) → G q)) ?_ (vs.length + 1)
    ⟨s.heap, s.toks, 0, m, rfl, hit, F, fun _ _ _ => rfl, fun _ _ e _ => e, Nat.zero_le _, rfl, fun j _ _ hj => absurd hj (Nat.not_lt_zero _)⟩
  rintro k s' ⟨h, tk, i, m', rfl, hit', F', hm', kp, hi, rfl, hG⟩
  have hl' : h.IsList l vs.toArray := hl.at fun o e => kp _ _ e (by simp [hlL, hlI])
  by_cases hlt : i < vs.length
  · have hx : vs.toArray[i]? = some vs[i] := by simp [hlt]
    refine wpAny_pyNext_list_item hit' hl' hx fun h₁ hit₁ hs₁ => ?_
    obtain ⟨t, p, b, t1, t2, ev, hp5, est, ht⟩ := rows.get (i := i) (v := vs[i]) (by simp [hlt])
    show wpAny _ _ (letOwnedTupleGo _ (.ref I) vs[i]) _ _ _
    rw [ev]
    refine wpAny_letOwnedTupleGo_listiter hit₁ ?_
    have k1 : Keep [env.locals, I] s.heap h₁ := fun b o e n => (hs₁.2 b (fun q => n (by simp [q]))).trans (kp b o e n)
    have ht₁ : h₁.IsTuple t #[.str (ltr p b) t1, .str (dgt p) t2] := isTuple_keep k1 ht (by simp [(hT _ _ ht).1, (hT _ _ ht).2])
    have F₁ : Fr h₀ env.locals h₁ m' := Keep.fr (adr := [I]) (fun b o e n => (hs₁.2 b (fun q => n (by simp [q]))).trans e) F' (by simpa using ⟨Ne.symm hIL, hI0⟩)
    refine wpAny_assign_Tuple hh ht₁ rfl rfl fun h₃ hx₃ => ?_
    replace hx₃ : Heap.ExtBut h₁.objs.size h₁ h₃ := hx₃
    have up₃ : ∀ b o, h₁.get? b = some o → h₃.get? b = some o := fun b o x => hx₃ b o (Nat.ne_of_lt (Heap.lt_size x)) x
    have F₃ : Fr h₀ env.locals h₃ m' := Keep.fr0 (fun b o e _ => up₃ b o e) F₁
    show wpAny _ A (do holding [Value.str (dgt p) t2] (assign (.Name xk pk) env (.str (ltr p b) t1)); do holding [] (assign (.Name xv pv) env (.str (dgt p) t2)); pure ()) _ _ _
    refine wpAny_bind (wpAny_holding (wpAny_assign_Name (wpAny_storeName_local hk F₃.ns (fun h₄ hn₄ hs₄ => ?_) hp)))
    replace hs₄ : Heap.SameBut env.locals h₃ h₄ := hs₄
    have F₄ := F₃.set hn₄ hs₄
    refine wpAny_bind (wpAny_holding (wpAny_assign_Name (wpAny_storeName_local hv F₄.ns (fun h₅ hn₅ hs₅ => wpAny_pure ?_) hp)))
    replace hs₅ : Heap.SameBut env.locals h₄ h₅ := hs₅
    have F₅ := F₄.set hn₅ hs₅
    have hit₅ : h₅.IsListIter I l (i + 1) := hit₁.at fun o e => hs₅.extBut _ _ (Ne.symm hIL) (hs₄.extBut _ _ (Ne.symm hIL) (up₃ _ _ e))
    have k5 : Keep [env.locals, I] s.heap h₅ := fun b o e n => hs₅.extBut _ _ (fun q => n (by simp [q])) (hs₄.extBut _ _ (fun q => n (by simp [q])) (up₃ _ _ (k1 b o e n)))
    have em : (fun y => if y = xv then some (Value.str (dgt p) t2) else if y = xk then some (Value.str (ltr p b) t1) else m' y) = fun y => if y = xv then some (Value.str (dgt p) t2) else if y = xk then some (Value.str (ltr p b) t1) else m y := by
      funext y
      by_cases h1 : y = xv
      · simp [h1]
      · by_cases h2 : y = xk
        · simp [h2]
        · simp [h1, h2, hm' y h2 h1]
    rw [em] at F₅
    refine wpAny_mono (turn i p b t1 t2 h₅ _ est hp5 hG k5 F₅) (fun f s₃ h₆ => ?_) fun _ _ e => e.elim
    cases f with
    | ret v => exact h₆
    | brk => exact h₆.elim
    | cont => exact h₆.elim
    | next =>
      obtain ⟨hg, h', tk', rfl, kk⟩ := h₆
      refine ⟨vs.length + 1 - (i + 1), by omega, h', tk', i + 1, _, rfl, hit₅.at fun o e => kk _ _ e (by simp), Keep.fr0 kk F₅, fun y h1 h2 => by simp [h1, h2], fun b o e n => kk _ _ (k5 b o e n) (by simp), hlt, rfl, fun j q c hj e => ?_⟩
      by_cases hji : j = i
      · subst hji; rw [est] at e; cases e; exact hg
      · exact hG j q c (by omega) e
  · have hin : i = vs.length := by omega
    subst hin
    refine wpAny_pyNext_list_end hh hit' hl' (by simp) fun h₁ _ => wpAny_execs_nil ?_
    exact done h₁ _ fun j q c e => hG j q c (by
      have := (List.getElem?_eq_some_iff.mp e).1; omega) e
theorem pyIter_rows {news : List (Addr × Obj)} {n : Nat} {E : Value → Shared → Prop} (G : Nat → Prop) (F : Fr h₀ env.locals s.heap m) (N : News h₀ env.locals s.heap news) (hm : (l, listOf vs.toArray n) ∈ news) (rows : Rows h₀ vs st)
    (turn : ∀ (i p : Nat) (b : Bool) (t1 t2 : Tok) (h : Heap) (tk : Nat), st[i]? = some (p, b) → p < 5 → (∀ (j q : Nat) (c : Bool), j < i → st[j]? = some (q, c) → G q) → Fr h₀ env.locals h (fun y => if y = xv then some (.str (dgt p) t2) else if y = xk then some (.str (ltr p b) t1) else m y) → News h₀ env.locals h news →
      wpAny (model prog w) A (execs body env) (fun f s' => match f with | .next => G p ∧ ∃ h' tk', s' = { s with heap := h', toks := tk' } ∧ Keep [] h h' | .ret v => R (.ok (.ret v)) s' | _ => False) (fun _ _ => False) { s with heap := h, toks := tk })
    (done : ∀ (h : Heap) (tk : Nat), (∀ (j q : Nat) (c : Bool), st[j]? = some (q, c) → G q) → R (.ok .next) { s with heap := h, toks := tk })
    (hh : A.handled = none := by rfl) (hk : env.kindOf xk = some .local := by rfl) (hv : env.kindOf xv = some .local := by rfl)
    (hp : (env.scope.kind == .class || (env.scope.kind == .module && env.locals != env.globals)) = false := by rfl) :
    wpAny (model prog w) A (pyIter (.ref l)) (fun it s₂ => codeAny (model prog w) A (.forLoop (.Tuple [.Name xk pk, .Name xv pv] x1 pt) it body [] env) R s₂) E s := by
  have hl : s.heap.IsList l vs.toArray := ⟨_, N.get hm, rfl, n, rfl⟩
  refine wpAny_pyIter_list hl ?_
  have hLlt : env.locals < s.heap.objs.size := F.ns.lt
  have hllt : l < s.heap.objs.size := Heap.lt_size (N.get hm)
  have fresh : ∀ o, s.heap.get? s.heap.objs.size ≠ some o := fun o e => Nat.lt_irrefl _ (Heap.lt_size e)
  have kp0 : Keep [] s.heap (s.heap.push { cls := .type "list_iterator", data := .fields #[.ref l, .int 0 0] }) := fun b o e _ => Heap.get?_push_of_some _ e
  refine forRows (s := { s with heap := s.heap.push { cls := .type "list_iterator", data := .fields #[.ref l, .int 0 0] } }) (st := st) (h₀ := h₀) (m := m) G hh hk hv hp (F.push _) ⟨_, Heap.get?_push_size _ rfl, rfl, rfl⟩ (hl.at fun o e => kp0 _ _ e (by simp))
    (rows.keeps fun t vals ht => let ⟨o, ho, r⟩ := ht; ⟨o, kp0 _ _ (F.keep _ _ ho) (by simp), r⟩) (Nat.ne_of_lt hLlt) (N _ hm).2.1 (Nat.ne_of_lt hllt) ?_ ?_ done
  · cases e : h₀.get? s.heap.objs.size with
    | none => rfl
    | some o => exact absurd (F.keep _ _ e) (fresh o)
  · intro i p b t1 t2 h tk e1 e2 e3 kp e4
    refine turn i p b t1 t2 h tk e1 e2 e3 e4 fun q hq => ⟨kp _ _ (kp0 _ _ (N q hq).1 (by simp)) ?_, (N q hq).2⟩
    have := (N q hq).2.1
    have h2 : q.1 ≠ s.heap.objs.size := Nat.ne_of_lt (Heap.lt_size (N q hq).1)
    simp [this, h2]
end
theorem keep_all {h g h' h₀ : Heap} {L L' : Addr} {m' : Str → Option Value} {news : List (Addr × Obj)} (G : GSub h g (news.map (·.1))) (F' : Fr g L' h' m') (N : News h₀ L h news) (N' : News g L' h' news) : Keep [] h h' := fun b o e _ => by
  by_cases hb : b ∈ news.map (·.1)
  · obtain ⟨q, hq, rfl⟩ := List.mem_map.mp hb
    have h1 := (N q hq).1
    rw [e] at h1; cases h1
    exact (N' q hq).1
  · exact F'.keep b o (G b o e hb)
theorem Keep.none {h h' : Heap} {D : Addr} (k : Keep [] h h') (e : h'.get? D = none) : h.get? D = none := by
  cases q : h.get? D with
  | none => rfl
  | some o => rw [k _ _ q (by simp)] at e; cases e
theorem Keep.refl {adr : List Addr} {h : Heap} : Keep adr h h := fun _ _ e _ => e
theorem ltr_eq {p q : Nat} {b : Bool} : (ltr p b == ltr q b) = true → p = q := by
  intro h
  have := eq_of_beq h
  unfold ltr at this
  simp only [Str.mk.injEq, Array.mk.injEq, List.cons.injEq, and_true] at this
  omega
theorem ltr_ne {p q : Nat} {b : Bool} : (ltr p b == ltr q b) = false → p ≠ q := by
  rintro h rfl
  simp at h
theorem tab_cls {h₀ h : Heap} {L l x dx : Addr} {items : Array Value} {n k : Nat} {es : List DictEntry} (N : News h₀ L h [(l, listOf items n), (x, instObj 184 dx), (dx, dictOf es k)]) :
    ∀ a ∈ [(l, listOf items n), (x, instObj 184 dx), (dx, dictOf es k)].map (·.1), ∃ o, h.get? a = some o ∧ o.cls ≠ .type "tuple" := by
  intro a ha
  obtain ⟨q, hq, rfl⟩ := List.mem_map.mp ha
  refine ⟨q.2, (N q hq).1, ?_⟩
  simp only [List.mem_cons, List.not_mem_nil, or_false] at hq
  rcases hq with rfl | rfl | rfl <;> simp
theorem rows_sub {h g : Heap} {adr : List Addr} {vs : List Value} {st : List (Nat × Bool)} (r : Rows h vs st) (G : GSub h g adr) (hn : ∀ a ∈ adr, ∃ o, h.get? a = some o ∧ o.cls ≠ .type "tuple") : Rows g vs st :=
  r.keeps fun t vals ht => by
    obtain ⟨o, ho, rr⟩ := id ht
    refine ⟨o, G t o ho fun q => ?_, rr⟩
    obtain ⟨o', ho', hc⟩ := hn t q
    exact isTuple_ne ht ho' hc rfl
end
section
open PySem PySem.W PyProof.Rows PySem.Spec PySem.Calls
/-- the list's items are these texts -/
inductive Texts : List Value → List Str → Prop where
  | nil : Texts [] []
  | cons {x : Str} {t : Tok} {vs : List Value} {xs : List Str} : Texts vs xs → Texts (.str x t :: vs) (x :: xs)
theorem Texts.snoc {vs : List Value} {xs : List Str} (h : Texts vs xs) (x : Str) (t : Tok) : Texts (vs ++ [.str x t]) (xs ++ [x]) := by
  induction h with
  | nil => exact .cons .nil
  | cons _ ih => exact .cons ih
theorem Texts.length {vs : List Value} {xs : List Str} (h : Texts vs xs) : vs.length = xs.length := by
  induction h with
  | nil => rfl
  | cons _ ih => simp [ih]
theorem take_snoc {α : Type} {l : List α} {i : Nat} {a : α} (h : l[i]? = some a) : l.take (i + 1) = l.take i ++ [a] := by
  rw [List.take_add_one, h]; rfl
section
variable {prog : Program} {w : World} {A : Around} {env : Env} {l : Addr} {vs : List Value} {st : List (Nat × Bool)} {pk pv pt py pos : Pos} {x1 : Nat} {iter : Expr} {scope : Scope} {m : Str → Option Value} {h₀ : Heap} {s : Shared} {xk xv y : Str}
theorem comp_rows {news : List (Addr × Obj)} {n : Nat} {E : Value → Shared → Prop} {Q : Value → Shared → Prop} (f : Nat × Bool → Str) (F : Fr h₀ env.locals s.heap m) (N : News h₀ env.locals s.heap news) (hm : (l, listOf vs.toArray n) ∈ news) (rows : Rows h₀ vs st) (hsz : vs.length ≤ 100)
    (hf : ∀ p b, (y = xv ∧ f (p, b) = dgt p) ∨ (y = xk ∧ f (p, b) = ltr p b))
    (ret : ∀ D k ys h' tk, s.heap.get? D = none → h'.get? D = some (listOf ys.toArray k) → Texts ys (st.map f) → Keep [] s.heap h' → Q (.ref D) { s with heap := h', toks := tk })
    (hh : A.handled = none := by rfl) (hkind : scope.kind = .function := by rfl) (hcell : ∀ x ∈ scope.names, x.2 ≠ .cell := by decide) (hk : scope.names.lookup xk = some .local := by rfl) (hv : scope.names.lookup xv = some .local := by rfl) (hkv : xk ≠ xv := by decide) (hyd : (y == ("__debug__" : Str)) = false := by decide) :
    wpAny (model prog w) A (pyIter (.ref l)) (fun it s₂ => wpAny (model prog w) A (newList []) (fun acc s₃ =>
      wpAny (model prog w) A (newFunctionEnv scope env.globals [] [] env.qual none .none (some env)) (fun cenv s₄ =>
        codeAny (model prog w) A (.compStart (.ListComp (.Name y py) [⟨.Tuple [.Name xk pk, .Name xv pv] x1 pt, iter, [], 0⟩] scope pos) 0 it acc { cenv with scope := scope })
          (fun r s' => ∃ m, s'.heap.Ns cenv.locals m ∧ ∀ h', Heap.SameBut cenv.locals s'.heap h' →
            match r with | .ok _ => Q acc { s' with heap := h' } | .error x => wpAny (model prog w) A (passOn "comprehension.variables-let-go" x { cenv with scope := scope }) Q E { s' with heap := h' }) s₄) E s₃) E s₂) E s := by
  have hl : s.heap.IsList l vs.toArray := ⟨_, N.get hm, rfl, n, rfl⟩
  have hlen := rows.length
  refine wpAny_pyIter_list hl ?_
  refine wpAny_newObj_type ?_
  refine wpAny_newFunctionEnv hcell (by intro y hy; simp at hy) (fun h₁ hns₁ hsb₁ => ?_) hkind
  dsimp only at hns₁ hsb₁ ⊢
  generalize hH1 : s.heap.push { cls := .type "list_iterator", data := .fields #[.ref l, .int 0 0] } = H1 at hns₁ hsb₁ ⊢
  generalize hH2 : H1.push { cls := .type "list", data := .seq ([] : List Value).toArray } = H2 at hns₁ hsb₁ ⊢
  have z1 : H1.objs.size = s.heap.objs.size + 1 := by rw [← hH1, Heap.size_push]
  have z2 : H2.objs.size = s.heap.objs.size + 2 := by rw [← hH2, Heap.size_push, z1]
  have lt0 : ∀ (b : Nat) o, s.heap.get? b = some o → b < s.heap.objs.size := fun b o e => Heap.lt_size e
  have up : ∀ b o, s.heap.get? b = some o → h₁.get? b = some o := fun b o e => hsb₁.extBut b o (neN (by have := lt0 b o e; omega)) (Heap.get?_push_of_some _ (hH2 ▸ Heap.get?_push_of_some _ (hH1 ▸ Heap.get?_push_of_some _ e)))
  have gI : h₁.get? s.heap.objs.size = some { cls := .type "list_iterator", data := .fields #[.ref l, .int 0 0] } :=
    hsb₁.extBut _ _ (neN (by omega)) (Heap.get?_push_of_some _ (hH2 ▸ Heap.get?_push_of_some _ (hH1 ▸ Heap.get?_push_size _ rfl)))
  have gD : h₁.get? H1.objs.size = some { cls := .type "list", data := .seq ([] : List Value).toArray } :=
    hsb₁.extBut _ _ (neN (by omega)) (Heap.get?_push_of_some _ (hH2 ▸ Heap.get?_push_size _ rfl))
  have fD : s.heap.get? H1.objs.size = none := by
    cases e : s.heap.get? H1.objs.size with
    | none => rfl
    | some o => have := lt0 _ _ e; omega
  have fC : s.heap.get? H2.objs.size = none := by
    cases e : s.heap.get? H2.objs.size with
    | none => rfl
    | some o => have := lt0 _ _ e; omega
  have hllt := ltN (lt0 _ _ (N.get hm))
  have rows' : Rows h₁ vs st := rows.keeps fun t vals ht => let ⟨o, ho, r⟩ := ht; ⟨o, up _ _ (F.keep _ _ ho), r⟩
  have hT : ∀ t vals, h₁.IsTuple t vals → t ≠ H1.objs.size ∧ t ≠ H2.objs.size ∧ t ≠ s.heap.objs.size := fun t vals ht => ⟨isTuple_ne ht gD (by simp), isTuple_ns ht hns₁, isTuple_ne ht gI (by simp)⟩
  have loop : codeAny (model prog w) A (.compLoop (.ListComp (.Name y py) [⟨.Tuple [.Name xk pk, .Name xv pv] x1 pt, iter, [], 0⟩] scope pos) 0 (.ref s.heap.objs.size) (.ref H1.objs.size) { (newEnv scope H2.objs.size env.globals [] env.qual none .none (some env) builtinsNs) with scope := scope })
      (fun r s' => ∃ m, s'.heap.Ns H2.objs.size m ∧ ∀ h', Heap.SameBut H2.objs.size s'.heap h' →
            match r with | .ok _ => Q (.ref H1.objs.size) { s' with heap := h' } | .error x => wpAny (model prog w) A (passOn "comprehension.variables-let-go" x { (newEnv scope H2.objs.size env.globals [] env.qual none .none (some env) builtinsNs) with scope := scope }) Q E { s' with heap := h' }) { s with heap := h₁, toks := s.toks + ([] : List (Str × Value)).length } := by
    refine PyProof.Rows.LCp.codeAny_compLoop_pair (fun k s' => ∃ h tk i ys m' nd, s' = { s with heap := h, toks := tk } ∧ h.IsListIter s.heap.objs.size l i ∧ h.Ns H2.objs.size m' ∧ Keep [H2.objs.size, H1.objs.size, s.heap.objs.size] h₁ h ∧ h.get? H1.objs.size = some (listOf ys.toArray nd) ∧ Texts ys ((st.take i).map f) ∧ i ≤ vs.length ∧ k = vs.length + 1 - i) ?_ (vs.length + 1)
      ⟨h₁, _, 0, [], _, 0, rfl, ⟨_, gI, rfl, rfl⟩, hns₁, Keep.refl, gD, .nil, Nat.zero_le _, rfl⟩
    rintro k s' ⟨h, tk, i, ys, m', nd, rfl, hit, hn, kp, hD, hys, hi, rfl⟩
    have hl' : h.IsList l vs.toArray := hl.at fun o e => kp _ _ (up _ _ e) (by simp only [List.mem_cons, List.not_mem_nil, or_false, not_or]; exact ⟨neN (by omega), neN (by omega), neN (by omega)⟩)
    by_cases hlt : i < vs.length
    · have hx : vs.toArray[i]? = some vs[i] := by simp [hlt]
      refine wpAny_pyNext_list_item hit hl' hx fun h₂ hit₂ hs₂ => ?_
      obtain ⟨t, p, b, t1, t2, ev, hp5, est, ht⟩ := rows'.get (i := i) (v := vs[i]) (by simp [hlt])
      show wpAny _ _ (letOwnedTupleGo _ (.ref s.heap.objs.size) vs[i]) _ _ _
      rw [ev]
      refine wpAny_letOwnedTupleGo_listiter hit₂ ?_
      have kp2 : Keep [H2.objs.size, H1.objs.size, s.heap.objs.size] h₁ h₂ := fun b o e n => (hs₂.2 b (fun q => n (by simp [q]))).trans (kp b o e n)
      have ht₂ : h₂.IsTuple t #[.str (ltr p b) t1, .str (dgt p) t2] := isTuple_keep kp2 ht (by obtain ⟨q1, q2, q3⟩ := hT _ _ ht; simp [q1, q2, q3])
      refine wpAny_assign_Tuple hh ht₂ rfl rfl fun h₃ hx₃ => ?_
      replace hx₃ : Heap.ExtBut h₂.objs.size h₂ h₃ := hx₃
      have up₃ : ∀ b o, h₂.get? b = some o → h₃.get? b = some o := fun b o x => hx₃ b o (Nat.ne_of_lt (Heap.lt_size x)) x
      have hn₃ : h₃.Ns H2.objs.size m' := (hn.sameBut hs₂ (neN (by omega))).at' fun o e => up₃ _ _ e
      refine wpAny_bind (wpAny_holding (wpAny_assign_Name (wpAny_storeName_local hk hn₃ (fun h₄ hn₄ hs₄ => ?_) (by simp [newEnv, hkind]))))
      replace hs₄ : Heap.SameBut H2.objs.size h₃ h₄ := hs₄
      refine wpAny_bind (wpAny_holding (wpAny_assign_Name (wpAny_storeName_local hv hn₄ (fun h₅ hn₅ hs₅ => wpAny_pure ?_) (by simp [newEnv, hkind]))))
      replace hs₅ : Heap.SameBut H2.objs.size h₄ h₅ := hs₅
      have old5 : ∀ b o, b ≠ H2.objs.size → h₂.get? b = some o → h₅.get? b = some o := fun b o hb e => hs₅.extBut b o hb (hs₄.extBut b o hb (up₃ b o e))
      have hD₂ : h₂.get? H1.objs.size = some (listOf ys.toArray nd) := (hs₂.2 _ (neN (by omega))).trans hD
      have hD₅ := old5 _ _ (neN (by omega)) hD₂
      have hit₅ : h₅.IsListIter s.heap.objs.size l (i + 1) := hit₂.at fun o e => old5 _ _ (neN (by omega)) e
      obtain ⟨tv, hy, hyv⟩ : ∃ tv, scope.names.lookup y = some .local ∧ (fun z => if z = xv then some (Value.str (dgt p) t2) else if z = xk then some (Value.str (ltr p b) t1) else m' z) y = some (.str (f (p, b)) tv) := by
        rcases hf p b with ⟨rfl, e⟩ | ⟨rfl, e⟩
        · exact ⟨t2, hv, by simp [e]⟩
        · exact ⟨t1, hk, by simp [e, hkv]⟩
      refine wpAny_Name (wpAny_loadName_local hkind hy hn₅ hyv ?_) hyd
      refine wpAny_list_append_plain (l := H1.objs.size) (items := ys.toArray) ⟨_, hD₅⟩ (fun h₆ hl₆ hs₆ => ?_) (by have := hys.length; simp at this ⊢; rw [sizeLine_eq]; omega)
      obtain ⟨nd₆, hD₆⟩ : ∃ k, h₆.get? H1.objs.size = some (listOf (ys ++ [Value.str (f (p, b)) tv]).toArray k) := by
        obtain ⟨k, hd⟩ := hl₆
        exact ⟨k, by rw [hd]; simp⟩
      refine ⟨vs.length + 1 - (i + 1), by omega, h₆, _, i + 1, ys ++ [Value.str (f (p, b)) tv], _, nd₆, rfl, hit₅.at fun o e => hs₆.extBut _ _ (neN (by omega)) e, Heap.Ns.sameBut (a := H2.objs.size) hn₅ hs₆ (neN (by omega)), fun b o e n => hs₆.extBut _ _ (fun q => n (by simp [q])) (old5 b o (fun q => n (by simp [q])) (kp2 b o e n)), hD₆, ?_, hlt, rfl⟩
      rw [take_snoc est, List.map_append]
      exact hys.snoc _ _
    · have hin : i = vs.length := by omega
      subst hin
      refine wpAny_pyNext_list_end hh hit hl' (by simp) fun h₂ he₂ => ?_
      have he₂ : Heap.ExtBut s.heap.objs.size h h₂ := he₂
      refine ⟨m', hn.extBut he₂ (neN (by omega)), fun h' hs' => ?_⟩
      refine ret H1.objs.size nd ys h' _ fD (hs'.extBut _ _ (neN (by omega)) (he₂ _ _ (neN (by omega)) hD)) ?_ fun b o e _ => ?_
      · rw [hlen, List.take_length] at hys
        exact hys
      · have := ltN (lt0 b o e)
        exact hs'.extBut _ _ (neN (by omega)) (he₂ _ _ (neN (by omega)) (kp _ _ (up _ _ e) (by simp only [List.mem_cons, List.not_mem_nil, or_false, not_or]; exact ⟨neN (by omega), neN (by omega), neN (by omega)⟩)))
  exact codeAny_compStart_list loop (wpAny_pyIter_listiter ⟨_, gI, rfl, rfl⟩ loop)
/-- what the source of such a block must be -/
def RowsAt (h₀ : Heap) (L : Addr) (st : List (Nat × Bool)) (f : Nat × Bool → Str) (Q : Value → Shared → Prop) (v : Value) (s₁ : Shared) : Prop :=
  ∃ l vs n m news, v = .ref l ∧ Fr h₀ L s₁.heap m ∧ News h₀ L s₁.heap news ∧ (l, listOf vs.toArray n) ∈ news ∧ Rows h₀ vs st ∧ vs.length ≤ 100 ∧
    ∀ D k ys h' tk, s₁.heap.get? D = none → h'.get? D = some (listOf ys.toArray k) → Texts ys (st.map f) → Keep [] s₁.heap h' → Q (.ref D) { s₁ with heap := h', toks := tk }
theorem eval_rows {E : Value → Shared → Prop} {Q : Value → Shared → Prop} (h₀ : Heap) (st : List (Nat × Bool)) (f : Nat × Bool → Str)
    (h : wpAny (model prog w) A (eval iter env) (RowsAt h₀ env.locals st f Q) E s)
    (hf : ∀ p b, (y = xv ∧ f (p, b) = dgt p) ∨ (y = xk ∧ f (p, b) = ltr p b))
    (hh : A.handled = none) (hfree : ∀ x ∈ scope.names, x.2 ≠ .free) (hkind : scope.kind = .function) (hnames : ∀ x ∈ scope.names, x.2 = .local → scope.names.lookup x.1 = some .local) (hcell : ∀ x ∈ scope.names, x.2 ≠ .cell) (hk : scope.names.lookup xk = some .local) (hv : scope.names.lookup xv = some .local) (hkv : xk ≠ xv) (hyd : (y == ("__debug__" : Str)) = false)
    (hs : ∀ x, foldedSetIterable iter env x = pure x) :
    wpAny (model prog w) A (eval (.ListComp (.Name y py) [⟨.Tuple [.Name xk pk, .Name xv pv] x1 pt, iter, [], 0⟩] scope pos) env) Q E s := by
  refine wpAny_ListComp hfree hkind hnames (wpAny_mono h (fun v s₁ h₁ => ?_) fun _ _ e => e) hs
  obtain ⟨l, vs, n, m, news, rfl, F, N, hm, rows, hsz, ret⟩ := h₁
  exact comp_rows f F N hm rows hsz hf ret hh hkind hcell hk hv hkv hyd
end
end
section
open PySem PySem.W PyProof.Rows PySem.Spec PySem.Calls PySem.Builtin PySem.Builtin.Str
theorem low_ltr : ∀ (i : Nat) (b : Bool), i < 5 → PySem.Txt.lower (ltr i b) = ltr i false
  | 0, true, _ | 1, true, _ | 2, true, _ | 3, true, _ | 4, true, _ | 0, false, _ | 1, false, _ | 2, false, _ | 3, false, _ | 4, false, _ => by decide +kernel
theorem swap_ltr : ∀ (i : Nat) (b : Bool), i < 5 → PySem.Txt.swapcase (ltr i b) = ltr i (!b)
  | 0, true, _ | 1, true, _ | 2, true, _ | 3, true, _ | 4, true, _ | 0, false, _ | 1, false, _ | 2, false, _ | 3, false, _ | 4, false, _ => by decide +kernel
theorem short_ltr (i : Nat) (b : Bool) : tooLong (ltr i b).length = false := rfl
end
local macro_rules | `(tactic| walk_at "call builtin:str.lower") => `(tactic| (k_here; (with_reducible show wpAny _ _ (call (Value.builtin "str.lower") [Value.str (ltr _ _) _]) _ _ _); (refine KXw.lower (low_ltr _ _ (by assumption)) (by rw [low_ltr _ _ (by assumption)]; rfl) ?_); intro t' k'; (try dsimp only)))
local macro_rules | `(tactic| walk_at "call builtin:str.swapcase") => `(tactic| (k_here; (with_reducible show wpAny _ _ (call (Value.builtin "str.swapcase") [Value.str (ltr _ _) _]) _ _ _); (refine KXw.swapcase (swap_ltr _ _ (by assumption)) (by rw [swap_ltr _ _ (by assumption)]; rfl) ?_); intro t' k'; (try dsimp only)))
local macro_rules | `(tactic| walk_at "call ref") => `(tactic| (k_here; (first | (with_reducible show wpAny _ _ (call (Value.ref 83) [Value.ref _, Value.str (ltr _ _) _] _) _ _ _); k_dflt (refine' conv_name ?k1 ?k2 ?k3 ?k4 ?k5 ?k6 ?k7 ?k8 ?_) | (with_reducible show wpAny _ _ (call (Value.ref 83) [Value.ref _, Value.str (dgt _) _] _) _ _ _); k_dflt (refine' conv_value ?k1 ?k2 ?k3 ?k4 ?k5 ?k6 ?k7 ?k8 ?_)); (case k1 => k_asm); (case k2 => k_asm); (case k3 => k_asm); (case k4 => k_asm); (case k5 => first | exact rfl | assumption); (case k6 => ktr_room); (case k7 => ktr_units); (case k8 => assumption); intro h9 tk9 KP9; (have F9 := Keep.fr0 KP9 (by k_asm)); (have N9 := Keep.news0 KP9 (by k_asm)); (try dsimp only)))
section
open PySem PySem.W PyProof.Rows PySem.Spec PySem.Calls PySem.Builtin PySem.Builtin.Str
section
variable {w : World} {p : Program} {loose : List Str} {mean : ExcName → Option Value} {mg mb : Str → Option Value} {dp un : Nat} {gd : Option (List Code)} {cn : Str} {cs : Scope} {a : Addr} {ccd : Value} {cl : List (Str × Addr)} {outer : List Env} {A₀ : Around} {base h₀ : Heap} {L : Addr} {m : Str → Option Value} {s : Shared} {Q E : Value → Shared → Prop}
theorem get_C {x dx l : Addr} {vs : List Value} {n k : Nat} {hs : Int} {tk : Tok} {st : List (Nat × Bool)} {i : Nat} {b : Bool} {t0 : Tok} (B : Below A₀ base outer h₀) (F : Fr h₀ L s.heap m) (X : (hd.heap_39 w.params).In h₀) (T : Top p loose mean mg mb h₀) (hk : cs.kind = .function) (hd : dp + 2 < recursionLimit) (hu : un + 16 < cLine)
    (N : News h₀ L s.heap [(l, listOf vs.toArray n), (x, instObj 184 dx), (dx, dictOf [⟨hs, .str (Str.ofString "_headers") tk, .ref l⟩] k)])
    (hst : Rows s.heap vs st) (hi : i < 5) (hin : ∃ c, (i, c) ∈ st)
    (ret : ∀ t h' tk', Keep [] s.heap h' → Q (.str (dgt i) t) { s with heap := h', toks := tk' }) :
    wpAny (model PR w) (ktrTop dp un gd cn cs L a ccd cl outer) (call (.ref 131) [.ref x, .str (ltr i b) t0]) Q E s := by
  refine wpAny_call ?_
  k_dflt (walk_at "my enter")
  refine wpAny_mono (E := fun _ _ => False) ?_ (fun _ _ h => h) (fun _ _ h => h.elim)
  k_steps
  refine wpAny_For ?_ (by intro _; rfl)
  k_steps
  have rows := rows_sub hst (by assumption) (tab_cls N)
  refine' pyIter_rows (fun q => q ≠ i) ?f1 ?f2 ?f3 rows ?f4 ?f5
  case f1 => k_asm
  case f2 => k_asm
  case f3 => k_mem
  case f5 =>
    intro h tk hno
    obtain ⟨c, hc⟩ := hin
    obtain ⟨j, hj⟩ := List.getElem?_of_mem hc
    exact absurd rfl (hno j i c hj)
  case f4 =>
    intro j q c t1 t2 h9 tk9 e1 hq5 e3 F9 N9
    k_steps
    · have hqi := ltr_eq (by assumption)
      subst hqi
      exact ret _ _ _ (keep_all (by assumption) F9 N N9)
    · exact ltr_ne (by assumption)
    · exact Keep.refl
end
end
section
open PySem PySem.W PyProof.Rows PySem.Spec PySem.Calls PySem.Builtin PySem.Builtin.Str
section
variable {w : World} {p : Program} {loose : List Str} {mean : ExcName → Option Value} {mg mb : Str → Option Value} {dp un : Nat} {gd : Option (List Code)} {cn : Str} {cs : Scope} {a : Addr} {ccd : Value} {cl : List (Str × Addr)} {outer : List Env} {A₀ : Around} {base h₀ : Heap} {L : Addr} {m : Str → Option Value} {s : Shared} {Q E : Value → Shared → Prop}
theorem keys_C {x dx l : Addr} {vs : List Value} {n k : Nat} {hs : Int} {tk : Tok} {st : List (Nat × Bool)} (B : Below A₀ base outer h₀) (F : Fr h₀ L s.heap m) (X : (hd.heap_39 w.params).In h₀) (T : Top p loose mean mg mb h₀) (hk : cs.kind = .function) (hd : dp + 1 < recursionLimit) (hu : un + 8 < cLine)
    (N : News h₀ L s.heap [(l, listOf vs.toArray n), (x, instObj 184 dx), (dx, dictOf [⟨hs, .str (Str.ofString "_headers") tk, .ref l⟩] k)])
    (hst : Rows s.heap vs st) (hsz : vs.length ≤ 100)
    (ret : ∀ D k ys h' tk', s.heap.get? D = none → h'.get? D = some (listOf ys.toArray k) → Texts ys (st.map fun e => ltr e.1 e.2) → Keep [] s.heap h' → Q (.ref D) { s with heap := h', toks := tk' }) :
    wpAny (model PR w) (ktrTop dp un gd cn cs L a ccd cl outer) (call (.ref 136) [.ref x]) Q E s := by
  refine wpAny_call ?_
  k_dflt (walk_at "my enter")
  rename_i g9 L9 h9 FG9 F9 N9 B9 X9 T9 GS9
  refine wpAny_mono (E := fun _ _ => False) ?_ (fun _ _ h => h) (fun _ _ h => h.elim)
  walk1
  walk1
  walk1
  refine eval_rows g9 st (fun e => ltr e.1 e.2) ?_ (fun p b => .inr ⟨rfl, rfl⟩) rfl (by decide) rfl (by decide) (by decide) rfl rfl (by decide) (by decide) (by intro _; rfl)
  walk1
  walk1
  walk1
  have rows := rows_sub hst GS9 (tab_cls N)
  refine ⟨l, vs, n, _, _, rfl, by k_asm, by k_asm, by k_mem, rows, hsz, ?_⟩
  clear rows
  intro D k' ys h8 tk8 hD hg hT kp
  have F8 := Keep.fr0 kp F9
  have N8 := Keep.news0 kp N9
  k_steps
  exact ret D k' ys _ _ (Keep.none (keep_all GS9 F9 N N9) hD) hg hT (keep_all GS9 F8 N N8)
theorem values_C {x dx l : Addr} {vs : List Value} {n k : Nat} {hs : Int} {tk : Tok} {st : List (Nat × Bool)} (B : Below A₀ base outer h₀) (F : Fr h₀ L s.heap m) (X : (hd.heap_39 w.params).In h₀) (T : Top p loose mean mg mb h₀) (hk : cs.kind = .function) (hd : dp + 1 < recursionLimit) (hu : un + 8 < cLine)
    (N : News h₀ L s.heap [(l, listOf vs.toArray n), (x, instObj 184 dx), (dx, dictOf [⟨hs, .str (Str.ofString "_headers") tk, .ref l⟩] k)])
    (hst : Rows s.heap vs st) (hsz : vs.length ≤ 100)
    (ret : ∀ D k ys h' tk', s.heap.get? D = none → h'.get? D = some (listOf ys.toArray k) → Texts ys (st.map fun e => dgt e.1) → Keep [] s.heap h' → Q (.ref D) { s with heap := h', toks := tk' }) :
    wpAny (model PR w) (ktrTop dp un gd cn cs L a ccd cl outer) (call (.ref 141) [.ref x]) Q E s := by
  refine wpAny_call ?_
  k_dflt (walk_at "my enter")
  rename_i g9 L9 h9 FG9 F9 N9 B9 X9 T9 GS9
  refine wpAny_mono (E := fun _ _ => False) ?_ (fun _ _ h => h) (fun _ _ h => h.elim)
  walk1
  walk1
  walk1
  refine eval_rows g9 st (fun e => dgt e.1) ?_ (fun p b => .inl ⟨rfl, rfl⟩) rfl (by decide) rfl (by decide) (by decide) rfl rfl (by decide) (by decide) (by intro _; rfl)
  walk1
  walk1
  walk1
  have rows := rows_sub hst GS9 (tab_cls N)
  refine ⟨l, vs, n, _, _, rfl, by k_asm, by k_asm, by k_mem, rows, hsz, ?_⟩
  clear rows
  intro D k' ys h8 tk8 hD hg hT kp
  have F8 := Keep.fr0 kp F9
  have N8 := Keep.news0 kp N9
  k_steps
  exact ret D k' ys _ _ (Keep.none (keep_all GS9 F9 N N9) hD) hg hT (keep_all GS9 F8 N N8)
end
end
section
open PySem PySem.W PyProof.Rows PySem.Spec PySem.Calls
section
variable {prog : Program} {w : World} {A₀ A : Around} {s : Shared} {base h₀ : Heap} {outer : List Env} {L : Addr} {m : Str → Option Value} {env : Env} {news : List (Addr × Obj)} {K : Frag} {p : Program} {loose : List Str} {mean : ExcName → Option Value} {mg mb : Str → Option Value}
  {R : Result → Shared → Prop} {name qual : Str} {params : Arguments} {body : List Stmt} {scope : Scope} {dV kV doc pm cdv ct oc : Value} {an od : Option Addr} {osl : Array (Option Value)} {f : Addr} {args : Args} {binds : List (Str × Value)}
/-- a def with cells is entered; what is not in the ledger lies in the ground -/
theorem enterCG (B : Below A₀ base outer h₀) (F : Fr h₀ L s.heap m) (X₀ : K.In h₀) (N : News h₀ L s.heap news) (T : Top p loose mean mg mb h₀) (hA : A.frames = some (env :: outer)) (hf : env.frame = some L) (hke : env.scope.kind = .function)
    (ho : K.lookup f = some ⟨oc, od, .func (fnOf name qual params body scope dV kV doc pm an cdv ct), osl⟩) (hcd : codeIn K cdv qual = true) (hroom : A.depth < recursionLimit)
    (hbind : BindsTo s (fnOf name qual params body scope dV kV doc pm an cdv ct) args binds) (hkind : (binds.all fun y => scope.names.lookup y.1 == some .local || scope.names.lookup y.1 == some .cell) = true)
    (hnd : ((cellsFrom 0 scope.names []).map (·.1)).Nodup)
    (h : ∀ g L' h₁ tk cells, Fr h₀ L g m → Fr g L' h₁ (bindL (envOfC qual scope L' f cdv).kindOf binds fun _ => none) → News g L' h₁ (cells ++ news) →
      CellsAre (bindC (envOfC qual scope L' f cdv).kindOf binds fun _ => none) (cellsFrom (L' + 1) scope.names []) cells → Below A base (env :: outer) g → K.In g → Top p loose mean mg mb g → (∀ p ∈ news, p.1 < L') → GSub s.heap g (news.map (·.1)) →
      wpAny (model prog w) (A.deeper (envOfC qual scope L' f cdv)) (execs body (envOfC qual scope L' f cdv))
        (fun fl s' => LeaveK h₀ L m g R (match fl with | .ret v => v | _ => .none) s')
        (fun e s' => wpAny (model prog w) (A.deeper (envOfC qual scope L' f cdv)) (leaving (envOfC qual scope L' f cdv) e) (fun _ s'' => R (.error e) s'') (fun e' s'' => R (.error e') s'') s')
        { s with heap := h₁, toks := tk })
    (hco : scope.isCoroutine = false) (hgen : scope.isGenerator = false) (hk : scope.kind = .function) : codeAny (model prog w) A (.call (.ref f) args) R s := by
  obtain ⟨FG, BG, st, lv⟩ := groundX (R := R) B F N hA hf hke
  have X := X₀.keeps F.keep
  refine codeAny_call_function hroom (X _ _ ho) rfl hco hgen rfl (codeRec_of X hcd) (hbind _ _ _ _ ?_)
  refine wpAny_newFunctionEnv_cells hk (kindsX hkind _) fun env' he s' x => ?_
  subst he
  refine ⟨(T.nolimit.keeps F.keep).keeps x.toInCall.keep, codeAny_func ?_⟩
  obtain ⟨h₁, tk, rfl, _⟩ := x.done
  have hk₁ := x.toInCall.keep
  obtain ⟨cells, NC, Y⟩ := Cl.news (h₀ := s.heap) (Nat.le_refl _) fun n c hm => ⟨x.cell n c (lookup_of_mem_nodup (cellsFrom_names scope.names 0 (s.heap.objs.size + 1) [] [] rfl ▸ hnd) hm), x.above n c hm⟩
  refine wpAny_mono (h _ s.heap.objs.size h₁ tk cells FG ⟨x.toInCall.ns, fun b o e => hk₁ b o (of_hideAll _ e), Nat.le_of_eq (hideAll_size _ _)⟩ (fun q hq => ?_) Y BG (X₀.keeps st) (T.keeps st) (fun q hq => Heap.lt_size (N q hq).1) (fun b o e n => hideAll_get _ e n)) (fun fl s' hl => lv _ _ hl) fun _ _ y => y
  rcases List.mem_append.mp hq with hq | hq
  · refine ⟨(NC q hq).1, (NC q hq).2.1, ?_⟩
    cases z : (hideAll s.heap (news.map (·.1))).get? q.1 with
    | none => rfl
    | some o => have := of_hideAll _ z; rw [(NC q hq).2.2] at this; cases this
  · exact ⟨hk₁ _ _ (N q hq).1, Nat.ne_of_lt (Heap.lt_size (N q hq).1), hideAll_none _ (List.mem_map_of_mem hq)⟩
end
end
section
open PySem PySem.W PyProof.Rows PySem.Spec PySem.Calls
/-- the first text of the pair at v -/
def nameAt (h : Heap) (v : Value) : Option Str := match v with
  | .ref t => match h.get? t with
    | some o => match o.data with
      | .seq items _ => match (items[0]? : Option Value) with
        | some (Value.str x _) => some x
        | _ => none
      | _ => none
    | none => none
  | _ => none
def notNamed (h : Heap) (i : Nat) (v : Value) : Bool := match nameAt h v with
  | some x => x != ltr i true && x != ltr i false
  | none => true
theorem ltr_inj {i j : Nat} {b c : Bool} (hi : i < 5) (hj : j < 5) (h : ltr i b = ltr j c) : i = j ∧ b = c := by
  unfold ltr at h
  simp only [Str.mk.injEq, Array.mk.injEq, List.cons.injEq, and_true] at h
  cases b <;> cases c <;> simp at h ⊢ <;> omega
theorem ltr_bne {q i : Nat} {b : Bool} : (ltr q b != ltr i b) = (q != i) := by
  cases h : (q != i) with
  | false => simp at h; subst h; simp
  | true =>
    have hn : q ≠ i := by simpa using h
    refine bne_iff_ne.mpr fun e => hn ?_
    unfold ltr at e
    simp only [Str.mk.injEq, Array.mk.injEq, List.cons.injEq, and_true] at e
    omega
theorem notNamed_is {h : Heap} {t : Addr} {q i : Nat} {c : Bool} {t1 t2 : Tok} (hq : q < 5) (hi : i < 5) (ht : h.IsTuple t #[.str (ltr q c) t1, .str (dgt q) t2]) : notNamed h i (.ref t) = (q != i) := by
  obtain ⟨o, ho, _, n, hd⟩ := ht
  have e : nameAt h (.ref t) = some (ltr q c) := by simp [nameAt, ho, hd]
  unfold notNamed
  rw [e]
  by_cases hqi : q = i
  · subst hqi
    cases c <;> simp
  · have n1 : ∀ d, ltr q c ≠ ltr i d := fun d z => hqi (ltr_inj hq hi z).1
    dsimp only
    rw [bne_iff_ne.mpr (n1 true), bne_iff_ne.mpr (n1 false), bne_iff_ne.mpr hqi]; rfl
theorem Rows.filter2 {h h' : Heap} {vs : List Value} {st : List (Nat × Bool)} (r : Rows h vs st) (r' : Rows h' vs st) {i : Nat} (hi : i < 5) : Rows h' (vs.filter (notNamed h i)) (st.filter fun e => e.1 != i) := by
  induction r with
  | nil => exact .nil
  | cons a b _ ih =>
    cases r' with
    | cons a' b' c' =>
      rw [List.filter_cons, List.filter_cons, notNamed_is a hi b]
      split
      · exact .cons a' b' (ih c')
      · exact ih c'
theorem Rows.snoc {h : Heap} {vs : List Value} {st : List (Nat × Bool)} (r : Rows h vs st) {t : Addr} {i : Nat} {b : Bool} {t1 t2 : Tok} (hi : i < 5) (ht : h.IsTuple t #[.str (ltr i b) t1, .str (dgt i) t2]) : Rows h (vs ++ [.ref t]) (st ++ [(i, b)]) := by
  induction r with
  | nil => exact .cons hi ht .nil
  | cons a c _ ih => exact .cons a c ih
theorem paired_eq {vs ys : List Value} (h : Paired (fun v y => y = v) vs ys) : ys = vs := by
  induction h with
  | nil => rfl
  | cons a _ ih => rw [a, ih]
section
variable {prog : Program} {w : World} {A : Around} {env : Env} {st : List (Nat × Bool)} {px py pos : Pos} {iter test : Expr} {scope : Scope} {h₀ : Heap} {s : Shared} {x : Str} {cl : List (Str × Addr)}
/-- the source of the block that drops one name -/
def DropAt (prog : Program) (w : World) (A : Around) (env : Env) (scope : Scope) (cl : List (Str × Addr)) (x : Str) (test : Expr) (h₀ : Heap) (L : Addr) (st : List (Nat × Bool)) (i : Nat) (Q : Value → Shared → Prop) (v : Value) (s₁ : Shared) : Prop :=
  ∃ l vs n m news, v = .ref l ∧ Fr h₀ L s₁.heap m ∧ News h₀ L s₁.heap news ∧ (l, listOf vs.toArray n) ∈ news ∧ Rows h₀ vs st ∧ vs.length ≤ 100 ∧
    (∀ C q c t t1 t2 (s₃ : Shared) m₃, q < 5 → h₀.IsTuple t #[.str (ltr q c) t1, .str (dgt q) t2] → s₃.heap.Ns C m₃ → m₃ x = some (.ref t) → Fr h₀ L s₃.heap m → News h₀ L s₃.heap news → C ≠ L → (∀ p ∈ news, p.1 ≠ C) →
      wpAny (model prog w) A (isTrue test (compEnvC scope cl C env) (eval test (compEnvC scope cl C env))) (fun b s₄ => b = (q != i) ∧ Keeps s₃ s₄) (fun _ _ => False) s₃) ∧
    ∀ D k vs' h' tk, s₁.heap.get? D = none → l ≠ D → h'.get? D = some (listOf vs'.toArray k) → (∀ h'', Rows h'' vs st → Rows h'' vs' (st.filter fun e => e.1 != i)) → vs'.length ≤ vs.length → Keep [] s₁.heap h' → Q (.ref D) { s₁ with heap := h', toks := tk }
theorem eval_drop {E : Value → Shared → Prop} {Q : Value → Shared → Prop} (h₀ : Heap) (st : List (Nat × Bool)) (i : Nat) (hi : i < 5)
    (h : wpAny (model prog w) A (eval iter env) (DropAt prog w A env scope cl x test h₀ env.locals st i Q) E s)
    (hh : A.handled = none) (hclos : closureFor scope env = pure cl) (hcell : ∀ y ∈ scope.names, y.2 ≠ .cell) (hkind : scope.kind = .function)
    (hnames : ∀ y ∈ scope.names, y.2 = .local → scope.names.lookup y.1 = some .local) (hx : scope.names.lookup x = some .local) (hyd : (x == ("__debug__" : Str)) = false)
    (hs : ∀ x, foldedSetIterable iter env x = pure x) :
    wpAny (model prog w) A (eval (.ListComp (.Name x py) [⟨.Name x px, iter, [test], 0⟩] scope pos) env) Q E s := by
  refine wpAny_ListComp_free (p := notNamed h₀ i) (F := fun v y => y = v) hclos hcell hkind hnames hx (wpAny_mono h (fun v s₁ h₁ => ?_) fun _ _ e => e) hs
  obtain ⟨l, vs, n, m, news, rfl, F, N, hm, rows, hsz, tst, ret⟩ := h₁
  have hl : s₁.heap.IsList l vs.toArray := ⟨_, N.get hm, rfl, n, rfl⟩
  refine wpAny_pyIter_list hl ?_
  have hllt := ltN (Heap.lt_size (N.get hm))
  have hLlt := ltN F.ns.lt
  have kp0 : Keep [] s₁.heap (s₁.heap.push { cls := .type "list_iterator", data := .fields #[.ref l, .int 0 0] }) := fun b o e _ => Heap.get?_push_of_some _ e
  have fr0 : ∀ D, s₁.heap.objs.size ≤ D → s₁.heap.get? D = none := fun D hD => by
    cases e : s₁.heap.get? D with
    | none => rfl
    | some o => exact absurd (Heap.lt_size e) (Nat.not_lt.mpr hD)
  refine ⟨_, _, _, _, _, _, rfl, Walks.list (prog := prog) (w := w) hh s₁.heap.objs.size l (Nat.ne_of_lt hllt) vs.toArray, ?_, ⟨⟨_, Heap.get?_push_size _ rfl, rfl, rfl⟩, hl.at fun o e => kp0 _ _ e (by simp)⟩, ?_, ⟨?_, ?_⟩, ?_⟩
  · simp only [List.size_toArray]; rw [sizeLine_eq]; omega
  · intro b hb
    simp only [Heap.size_push]
    simp only [List.mem_cons, List.not_mem_nil, or_false] at hb
    rcases hb with rfl | rfl
    · exact Nat.lt_succ_self _
    · exact Nat.lt_succ_of_lt hllt
  · intro C j v s₃ m₃ E' hC hP hn hmv hk htk
    have hP' : vs[j]? = some v := by simpa using hP
    obtain ⟨t, q, c, t1, t2, rfl, hq, est, ht⟩ := rows.get hP'
    have hk' : Keep [] s₁.heap s₃.heap := fun b o e _ => hk b o (by have := ltN (Heap.lt_size e); simp only [List.mem_singleton]; exact neN (by omega)) (kp0 b o e (by simp))
    have hC' : @LT.lt Nat _ s₁.heap.objs.size C := by
      have h2 : (s₁.heap.push { cls := .type "list_iterator", data := .fields #[.ref l, .int 0 0] }).objs.size ≤ C := hC
      rw [Heap.size_push] at h2; exact h2
    have lp := tst C q c t t1 t2 s₃ m₃ hq ht hn hmv (hk'.fr0 F) (hk'.news0 N) (neN (by omega)) (fun p hp => neN (by have := ltN (Heap.lt_size (N p hp).1); omega))
    rw [notNamed_is hq hi ht]
    exact wpAny_tests_one (wpAny_mono lp (fun _ _ hb => hb) fun _ _ h => h.elim)
  · intro C j v s₃ m₃ E' hC hP hpv hn hmv hk htk
    refine wpAny_Name (wpAny_loadName_local (env := compEnvC scope cl C env) hkind (lookup_relabel_local hx) hn hmv ⟨rfl, s₃.heap, s₃.toks, rfl, fun _ _ e => e⟩) hyd
  · intro D h' tk ys us hD hlD hplD hlen hP hF hk
    have hus : us = vs := List.ext_getElem? fun j => by
      by_cases hj : j < us.length
      · have := hP j us[j] (by simp [hj])
        simp only [List.getElem?_toArray] at this
        rw [this]; simp [hj]
      · rw [List.getElem?_eq_none (by omega), List.getElem?_eq_none (by simp at hlen; omega)]
    subst hus
    have e := paired_eq hF
    have fl := Keep.none kp0 hD
    obtain ⟨k, hg⟩ := hplD
    refine ret D k (us.filter (notNamed h₀ i)) h' tk (Keep.none kp0 hD) (fun q => by subst q; rw [N.get hm] at fl; cases fl) (by rw [hg, ← e]) (fun h'' r => rows.filter2 r hi) (List.length_filter_le _ _) fun b o eb _ => hk b o (by have := ltN (Heap.lt_size eb); simp only [List.mem_singleton]; exact neN (by omega)) (kp0 b o eb (by simp))
end
end
section
open PySem PySem.W PyProof.Rows PySem.Spec PySem.Calls
theorem ne_of_get {h : Heap} {a b : Addr} {o o' : Obj} (h1 : h.get? a = some o) (h2 : h.get? b = some o') (hc : o.cls ≠ o'.cls) : a ≠ b := by
  rintro rfl
  rw [h1] at h2; cases h2
  exact hc rfl
theorem tab_set {h₀ h h' : Heap} {L l x dx : Addr} {items items' : Array Value} {n n' k : Nat} {es : List DictEntry} (N : News h₀ L h [(l, listOf items n), (x, instObj 184 dx), (dx, dictOf es k)]) (kp : Keep [l] h h') (e : h'.get? l = some (listOf items' n')) :
    News h₀ L h' [(l, listOf items' n'), (x, instObj 184 dx), (dx, dictOf es k)] := by
  have hl := N.get (List.Mem.head _)
  have hx := N.get (.tail _ (.head _))
  have hd := N.get (.tail _ (.tail _ (.head _)))
  intro p hp
  simp only [List.mem_cons, List.not_mem_nil, or_false] at hp
  rcases hp with rfl | rfl | rfl
  · exact ⟨e, (N _ (List.Mem.head _)).2⟩
  · exact ⟨kp _ _ hx (by simpa using ne_of_get hx hl (by simp)), (N _ (.tail _ (.head _))).2⟩
  · exact ⟨kp _ _ hd (by simpa using ne_of_get hd hl (by simp)), (N _ (.tail _ (.tail _ (.head _)))).2⟩
theorem keep_but {h g h' h₀ : Heap} {L L' : Addr} {m' : Str → Option Value} {news news' : List (Addr × Obj)} {adr : List Addr} (G : GSub h g (news.map (·.1))) (F' : Fr g L' h' m') (N : News h₀ L h news) (N' : News g L' h' news') (hs : ∀ p ∈ news, p.1 ∉ adr → p ∈ news') : Keep adr h h' := fun b o e n => by
  by_cases hb : b ∈ news.map (·.1)
  · obtain ⟨q, hq, rfl⟩ := List.mem_map.mp hb
    have h1 := (N q hq).1
    rw [e] at h1; cases h1
    exact (N' q (hs q hq n)).1
  · exact F'.keep b o (G b o e hb)
theorem tab_but {l x dx : Addr} {items items' : Array Value} {n n' k : Nat} {es : List DictEntry} : ∀ p ∈ [(l, listOf items n), (x, instObj 184 dx), (dx, dictOf es k)], p.1 ∉ [l] → p ∈ [(l, listOf items' n'), (x, instObj 184 dx), (dx, dictOf es k)] := by
  intro p hp hn
  simp only [List.mem_cons, List.not_mem_nil, or_false] at hp hn ⊢
  rcases hp with rfl | rfl | rfl
  · exact absurd rfl hn
  · exact .inr (.inl rfl)
  · exact .inr (.inr rfl)
theorem news_sub {h₀ h : Heap} {L : Addr} {news news' : List (Addr × Obj)} (N : News h₀ L h news') (hs : ∀ p ∈ news, p ∈ news') : News h₀ L h news := fun p hp => N p (hs p hp)
theorem own_delItem {M : Model} {A : Around} {E : Value → Shared → Prop} {s : Shared} {K : Frag} {x C L f : Addr} {h₀ : Heap} {m : Str → Option Value} {ox : Obj} {od : Option Obj} {i : Value} {Q : Unit → Shared → Prop} (F : Fr h₀ L s.heap m) (X₀ : K.In h₀) (I : InstAt s.heap x ox C od) (hq : noSeq K C = true) (hs : findIn K (.ref C) "__delitem__" = some (some (.ref f))) (hf : isFn K (.ref f) = true)
    (h : wpAny M A (call (.ref f) [.ref x, i]) (fun _ s' => Q () s') E s) : wpAny M A (delItem (.ref x) i) Q E s := by
  have X := X₀.keeps F.keep
  unfold delItem sequenceKey
  refine wpAny_holding (wpAny_bind (wpAny_bind (I.type.here ?_)))
  refine wpAny_bind ((anyM_none X hq).here ?_)
  rw [if_pos (show (!false) = true from rfl)]
  exact wpAny_pure (wpAny_bind (special_fn X I hs (beq_iff_eq.mp hf) (wpAny_mono h (fun _ _ z => wpAny_pure z) fun _ _ z => z)))
theorem wpAny_letGo {M : Model} {A : Around} {E : Value → Shared → Prop} {s : Shared} {Q : Unit → Shared → Prop} (h : Q () s) : ∀ (l : List Value) (k : List Value), wpAny M A (letGo l k) Q E s
  | [], _ => wpAny_pure h
  | _ :: r, k => by
    unfold letGo
    exact wpAny_bind (wpAny_holding (wpAny_point (wpAny_letGo h r k)))
section
variable {prog : Program} {w : World} {A : Around} {E : Value → Shared → Prop} {s : Shared}
theorem setItem_all {l sl D : Addr} {items new : Array Value} {n : Nat} {Q : Unit → Shared → Prop} (hl : s.heap.get? l = some (listOf items n)) (hs : s.heap.IsSliceOf sl .none .none .none) (hD : s.heap.IsList D new) (hne : l ≠ D) (hsz : items.size + new.size ≤ sizeLine)
    (hQ : ∀ h' n', h'.get? l = some (listOf new n') → Heap.SameBut l s.heap h' → Q () { s with heap := h' }) : wpAny (model prog w) A (setItem (.ref l) (.ref sl) (.ref D)) Q E s := by
  have hL : s.heap.IsList l items := ⟨_, hl, rfl, n, rfl⟩
  obtain ⟨oD, hoD, hcD, nD, hdD⟩ := id hD
  obtain ⟨os, hos, hcs, hds⟩ := id hs
  have hTs : s.TypeIs (.ref sl) "slice" := ⟨os, hos, hcs⟩
  unfold setItem
  refine wpAny_holding ?_
  refine wpAny_bind (wpAny_sequenceKey hL.typeIs (by decide) ?_)
  refine wpAny_bind (wpAny_callSpecial?_slot (name := Str.ofString "__setitem__") hL.typeIs slot_list_setitem
    (wpAny_call_entry slot_list_setitem hL.typeIs entry_list_setitem ?_ (args_list_setitem _ _ _)))
  show wpAny _ _ (Builtin.List.listSubscript? (.ref sl) >>= _) _ _ s
  refine wpAny_bind ?_
  unfold Builtin.List.listSubscript?
  refine wpAny_bind (wpAny_specialOf hTs slice_no_index ?_)
  simp only [Option.isNone_none, if_true]
  refine wpAny_pure ?_
  show wpAny _ _ (typeOf (.ref sl) >>= _) _ _ s
  refine wpAny_bind (wpAny_typeOf hTs ?_)
  rw [if_neg (by decide)]
  rw [listSliceParts_eq]
  refine wpAny_bind (wpAny_bind (wpAny_field hos hds (x := .none) rfl (wpAny_bind (wpAny_listPart .none ?_))))
  rw [if_neg (by decide)]
  refine wpAny_bind (wpAny_field hos hds (x := .none) rfl (wpAny_bind (wpAny_listPart .none ?_)))
  refine wpAny_bind (wpAny_field hos hds (x := .none) rfl (wpAny_bind (wpAny_listPart .none (wpAny_pure ?_))))
  rw [if_neg (by simp [Builtin.List.listSameRef, hne])]
  refine wpAny_bind ?_
  unfold Builtin.List.listAllItems
  refine wpAny_bind (wpAny_typeOf hD.typeIs ?_)
  rw [if_pos (by decide)]
  unfold Builtin.List.listItems
  refine wpAny_bind (wpAny_seqItems hoD hdD (wpAny_pure ?_))
  refine wpAny_bind (wpAny_bind (wpAny_seqItems hl rfl (wpAny_pure ?_)))
  refine wpAny_bind (wpAny_of_eq (sliceIndices_raw none none none items.size (by simp)) ?_)
  have eb : sliceBounds none none none items.size = (0, (items.size : Int), 1) := rfl
  rw [eb]
  dsimp only
  rw [if_pos (by decide)]
  refine wpAny_bind (wpAny_rule ?_)
  rw [if_neg (by simp [Builtin.List.listTooLong]; omega)]
  have ef : ∀ xs : Array Value, xs.size = items.size → xs.extract 0 (0 : Int).toNat ++ new ++ xs.extract (max (0 : Int) (items.size : Int)).toNat = new := fun xs hx => by
    have : (max (0 : Int) (items.size : Int)).toNat = items.size := by omega
    rw [this, ← hx]; simp
  refine wpAny_bind (m := Builtin.List.listUpdate _ _) ?_
  unfold Builtin.List.listUpdate
  refine wpAny_updateSeq hl rfl ?_ (by omega) (by rw [ef items rfl]; omega)
  refine wpAny_bind (wpAny_letGo ?_ _ _)
  refine wpAny_pure ⟨_, rfl, wpAny_pure ?_⟩
  refine hQ _ (if new.size == items.size then n else n + 1) ?_ (Heap.SameBut.update ..)
  rw [Heap.get?_update_self _ hl rfl]
  simp only [Obj.mapSeq, ef items rfl]
end
end
local macro_rules | `(tactic| walk_at "my enterC") => `(tactic| (refine' enterCG ?k1 ?k2 ?k3 ?k4 ?k5 ?kA ?kF ?kK ?k6 ?k7 ?k8 ?k9 ?kB ?kD ?_ ?c2 ?c3 ?c4; (case kA => exact rfl); (case kF => exact rfl); (case kK => first | exact rfl | assumption); (case k1 => k_asm); (case k2 => k_asm); (case k3 => k_asm); (case k4 => k_asm); (case k5 => k_asm); (case k6 => k_is); (case k7 => k_is); (case k8 => ktr_room); (case k9 => first | exact BindsTo.of_eq rfl | exact binds_K (by k_in) rfl (by k_is) rfl rfl rfl); (case kB => exact rfl); (case kD => decide +kernel); (case c2 => exact rfl); (case c3 => exact rfl); (case c4 => exact rfl); k_whole; intro g' L' h' tk' cells' FG' F' N' Y' B' X' T' l1 GS'; (try k_lt l1); k_cells Y'; (try simp only [List.cons_append, List.nil_append] at N'); (try dsimp only); (try k_lift B'); (try k_fold)))
section
open PySem PySem.W PyProof.Rows PySem.Spec PySem.Calls PySem.Builtin PySem.Builtin.Str
section
variable {w : World} {p : Program} {loose : List Str} {mean : ExcName → Option Value} {mg mb : Str → Option Value} {dp un : Nat} {gd : Option (List Code)} {cn : Str} {cs : Scope} {a : Addr} {ccd : Value} {cl : List (Str × Addr)} {outer : List Env} {A₀ : Around} {base h₀ : Heap} {L : Addr} {m : Str → Option Value} {s : Shared} {Q E : Value → Shared → Prop}
theorem del_C {x dx l : Addr} {vs : List Value} {n k : Nat} {hs : Int} {tk : Tok} {st : List (Nat × Bool)} {i : Nat} {b : Bool} {t0 : Tok} (B : Below A₀ base outer h₀) (F : Fr h₀ L s.heap m) (X : (hd.heap_39 w.params).In h₀) (T : Top p loose mean mg mb h₀) (hk : cs.kind = .function) (hd : dp + 2 < recursionLimit) (hu : un + 16 < cLine)
    (N : News h₀ L s.heap [(l, listOf vs.toArray n), (x, instObj 184 dx), (dx, dictOf [⟨hs, .str (Str.ofString "_headers") tk, .ref l⟩] k)])
    (hst : Rows s.heap vs st) (hsz : vs.length ≤ 100) (hi : i < 5)
    (ret : ∀ n' vs' h' tk', h'.get? l = some (listOf vs'.toArray n') → (∀ h'', Rows h'' vs st → Rows h'' vs' (st.filter fun e => e.1 != i)) → vs'.length ≤ vs.length → Keep [l] s.heap h' → Q .none { s with heap := h', toks := tk' }) :
    wpAny (model PR w) (ktrTop dp un gd cn cs L a ccd cl outer) (call (.ref 102) [.ref x, .str (ltr i b) t0]) Q E s := by
  refine wpAny_call ?_
  k_dflt (walk_at "my enterC")
  rename_i g9 L9 h9 tk9 FG9 F9 B9 X9 T9 GS9 l9 o9 d9 N9
  refine wpAny_mono (E := fun _ _ => False) ?_ (fun _ _ h => h) (fun _ _ h => h.elim)
  iterate 22 (first | walk1 | (dsimp only; walk1) | (k_unfold; (try dsimp only); walk1))
  refine eval_drop g9 st i hi ?_ rfl rfl (by decide) rfl (by decide) rfl (by decide) (by intro _; rfl)
  iterate 3 walk1
  have rows := rows_sub hst GS9 (tab_cls N)
  refine ⟨l, vs, n, _, _, rfl, by k_asm, by k_asm, by k_mem, rows, hsz, ?_, ?_⟩
  · clear rows
    intro C q c t t1 t2 s₃ m₃ hq ht hn hmv F8 N8 hCL hCN
    k_steps
    · exact ltr_bne
    · exact ⟨_, _, rfl, fun _ _ e => e⟩
  · clear rows
    intro D k' vs' h8 tk8 hD hlD hg hr hlen kp
    have F8 := Keep.fr0 kp (by k_asm)
    have N8 := Keep.news0 kp (by k_asm)
    k_steps
    refine setItem_all (n := n) (items := vs.toArray) (new := vs'.toArray) ?g1 ?g2 ?g3 ?g4 ?g5 ?g6
    case g1 => exact Heap.get?_push_of_some _ (N8.get (by k_mem))
    case g2 => exact Heap.IsSliceOf.new ..
    case g3 => exact ⟨_, Heap.get?_push_of_some _ hg, rfl, k', rfl⟩
    case g4 => exact hlD
    case g5 => simp only [List.size_toArray]; rw [sizeLine_eq]; omega
    case g6 =>
      intro h7 n' hl7 hs7
      have kp7 : Keep [l] h8 h7 := fun b o e n => (hs7.2 b (by simpa using n)).trans (Heap.get?_push_of_some _ e)
      have N8' := news_sub (news := [(l, listOf vs.toArray n), (x, instObj 184 dx), (dx, dictOf [⟨hs, .str (Str.ofString "_headers") _, .ref l⟩] k)]) N8 (fun p hp => .tail _ hp)
      have F7 := kp7.fr F8 (fun a ha => by simp only [List.mem_singleton] at ha; subst ha; exact (N8' _ (List.Mem.head _)).2)
      have N7 := tab_set N8' kp7 hl7
      k_steps
      exact ret n' vs' _ _ hl7 hr hlen (keep_but GS9 F7 N N7 tab_but)
end
end
local macro_rules | `(tactic| walk_at "delItem ref str") => `(tactic| (k_here; (with_reducible show wpAny _ _ (delItem (Value.ref _) _) _ _ _); k_dflt (refine' own_delItem ?F ?X ?I ?hQ ?hS ?hF ?_; (case F => k_asm); (case X => k_asm); (case I => k_inst); (case hS => k_is); (case hF => k_is); (case hQ => k_is); k_whole)))
section
open PySem PySem.W PyProof.Rows PySem.Spec PySem.Calls PySem.Builtin PySem.Builtin.Str
section
variable {w : World} {p : Program} {loose : List Str} {mean : ExcName → Option Value} {mg mb : Str → Option Value} {dp un : Nat} {gd : Option (List Code)} {cn : Str} {cs : Scope} {a : Addr} {ccd : Value} {cl : List (Str × Addr)} {outer : List Env} {A₀ : Around} {base h₀ : Heap} {L : Addr} {m : Str → Option Value} {s : Shared} {Q E : Value → Shared → Prop}
theorem set_C {x dx l : Addr} {vs : List Value} {n k : Nat} {hs : Int} {tk : Tok} {st : List (Nat × Bool)} {i : Nat} {b : Bool} {t0 t1 : Tok} (B : Below A₀ base outer h₀) (F : Fr h₀ L s.heap m) (X : (hd.heap_39 w.params).In h₀) (T : Top p loose mean mg mb h₀) (hk : cs.kind = .function) (hd : dp + 3 < recursionLimit) (hu : un + 24 < cLine)
    (N : News h₀ L s.heap [(l, listOf vs.toArray n), (x, instObj 184 dx), (dx, dictOf [⟨hs, .str (Str.ofString "_headers") tk, .ref l⟩] k)])
    (hst : Rows s.heap vs st) (hsz : vs.length ≤ 100) (hi : i < 5)
    (ret : ∀ n' vs' h' tk', h'.get? l = some (listOf vs'.toArray n') → Rows h' vs' ((st.filter fun e => e.1 != i) ++ [(i, b)]) → Keep [l] s.heap h' → Q .none { s with heap := h', toks := tk' }) :
    wpAny (model PR w) (ktrTop dp un gd cn cs L a ccd cl outer) (call (.ref 97) [.ref x, .str (ltr i b) t0, .str (dgt i) t1]) Q E s := by
  refine wpAny_call ?_
  k_dflt (walk_at "my enter")
  rename_i g9 L9 h9 FG9 F9 N9 B9 X9 T9 GS9
  refine wpAny_mono (E := fun _ _ => False) ?_ (fun _ _ h => h) (fun _ _ h => h.elim)
  k_steps
  have kp9 := keep_all GS9 F9 N N9
  refine' del_C B9 F9 X9 T9 rfl (by ktr_room) (by ktr_units) N9 (hst.keeps fun t vals ht => isTuple_keep kp9 ht (by simp)) hsz hi ?_
  intro n' vs' h8 tk8 hl8 hr' hln kp8
  have F8 := kp8.fr F9 (fun a ha => by simp only [List.mem_singleton] at ha; subst ha; exact (N9 _ (List.Mem.head _)).2)
  have N8 := tab_set N9 kp8 hl8
  clear hl8
  k_steps
  rename_i h7 tk7 kp7 h6 tk6 kp6 D h5 F5 N5 l5
  refine wpAny_list_append_plain (items := vs'.toArray) ⟨n', N5.get (.tail _ (.head _))⟩ (fun h4 hl4 hs4 => ?_) (by simp only [List.size_toArray]; rw [sizeLine_eq]; omega)
  obtain ⟨n4, hl4⟩ := hl4
  rw [List.push_toArray] at hl4
  have kp4 : Keep [l] h5 h4 := fun b o e n => (hs4.2 b (by simpa using n)).trans e
  have F4 := kp4.fr F5 (fun a ha => by simp only [List.mem_singleton] at ha; subst ha; exact (N5 _ (.tail _ (.head _))).2)
  have N4 := tab_set (news_sub N5 fun p hp => .tail _ hp) kp4 hl4
  have hD4 := kp4 _ _ (N5.get (.head _)) (by have := N5.get (.tail _ (.head _)); simp only [List.mem_singleton]; exact ne_of_get (N5.get (.head _)) this (by simp))
  k_steps
  exact ret n4 (vs' ++ [.ref D]) _ _ hl4 (Rows.snoc ((hr' _ (rows_sub hst GS9 (tab_cls N))).keeps fun t vals ht => let ⟨o, ho, r⟩ := ht; ⟨o, F4.keep _ _ ho, r⟩) hi ⟨_, hD4, rfl, _, rfl⟩) (keep_but GS9 F4 N N4 tab_but)
end
end
section
open PySem PySem.W PyProof.Rows PySem.Spec PySem.Calls
theorem peek_alloc {α : Type} {K : Frag} {M : Model} {A : Around} {E : Value → Shared → Prop} {Q : α → Shared → Prop} {s : Shared} {o : Obj} (X : K.In s.heap) (t : Sem α) :
    ∀ (g : Addr → Sem α), peekA K ⟨M.prog, M.w.params⟩ t = some (o, g) → wpAny M A (g s.heap.objs.size) Q E { s with heap := s.heap.push o } → wpAny M A t Q E s := by
  induction t with
  | rule _ k ih => exact fun g e q Γ p hΓ => ih () g e q Γ p hΓ
  | point _ k ih => exact fun g e q Γ p hΓ => ih () g e q Γ p hΓ
  | ask k ih => exact fun g e q Γ p hΓ => ih _ g e q Γ p hΓ
  | load a _ k ih =>
    intro g e q Γ p hΓ
    simp only [peekA] at e
    split at e
    · rename_i ob ho; exact ⟨ob, X _ _ ho, ih ob g e q Γ p hΓ⟩
    · cases e
  | alloc ob k _ =>
    intro g e q
    obtain ⟨e1, e2⟩ := Prod.mk.inj (Option.some.inj (show some (ob, k) = some (o, g) from e))
    subst e1 e2
    exact wpAny_bind (m := PySem.alloc ob) (f := k) (wpAny_alloc q)
  | _ => intro g e; cases e
section
variable {prog : Program} {w : World} {A A₀ : Around} {s : Shared} {K : Frag} {L : Addr} {h₀ base : Heap} {m mg mb : Str → Option Value} {news : List (Addr × Obj)} {p : Program} {loose : List Str} {mean : ExcName → Option Value}
/-- a def with a ** parameter is entered, nothing handed to it -/
theorem enterKwG {env : Env} {outer : List Env} {R : Result → Shared → Prop} {name qual : Str} {params : Arguments} {body : List Stmt} {scope : Scope} {dV kV doc pm cdv ct oc : Value} {an od : Option Addr} {osl : Array (Option Value)} {f : Addr} {args : Args} {nm : Str} {front : List (Str × Value)} {g₁ : Addr → Sem (List (Str × Value))}
    (B : Below A₀ base outer h₀) (F : Fr h₀ L s.heap m) (X₀ : K.In h₀) (N : News h₀ L s.heap news) (T : Top p loose mean mg mb h₀) (hA : A.frames = some (env :: outer)) (hf : env.frame = some L) (hke : env.scope.kind = .function)
    (ho : K.lookup f = some ⟨oc, od, .func (fnOf name qual params body scope dV kV doc pm an cdv ct), osl⟩) (hcd : codeIn K cdv qual = true) (hroom : A.depth < recursionLimit)
    (hp : peekA K ⟨prog, w.params⟩ (bindArgs (fnOf name qual params body scope dV kV doc pm an cdv ct) args) = some (dictOf [] 0, g₁))
    (hk₁ : ∀ D, g₁ D = pure (front ++ [(nm, Value.ref D)]))
    (hloc : ∀ D, ∀ y ∈ front ++ [(nm, Value.ref D)], scope.names.lookup y.1 = some .local)
    (h : ∀ D o g L' h₁ tk, (∀ p ∈ news, p.1 < D) → (D == sysModules) = false → o.IsDictOf (strKind prog w) [] → PyProof.V.FlatPairs PyData.str [] [] → Fr h₀ L g m → Fr g L' h₁ (fun y => (front ++ [(nm, Value.ref D)]).reverse.lookup y) → News g L' h₁ ((D, o) :: news) → Below A base (env :: outer) g → K.In g → Top p loose mean mg mb g → GSub s.heap g (news.map (·.1)) →
      wpAny (model prog w) (A.deeper (envOf qual scope L' f cdv)) (execs body (envOf qual scope L' f cdv))
        (fun fl s' => LeaveK h₀ L m g R (match fl with | .ret v => v | _ => .none) s')
        (fun e s' => wpAny (model prog w) (A.deeper (envOf qual scope L' f cdv)) (leaving (envOf qual scope L' f cdv) e) (fun _ s'' => R (.error e) s'') (fun e' s'' => R (.error e') s'') s')
        { s with heap := h₁, toks := tk })
    (hco : scope.isCoroutine = false) (hgen : scope.isGenerator = false) (hk : scope.kind = .function)
    (hcell : ∀ x ∈ scope.names, x.2 ≠ .cell) : codeAny (model prog w) A (.call (.ref f) args) R s := by
  have X := X₀.keeps F.keep
  refine codeAny_call_function (fd := fnOf name qual params body scope dV kV doc pm an cdv ct) (body := body) hroom (X _ _ ho) rfl hco hgen rfl (codeRec_of X hcd) ?_
  refine peek_alloc X _ g₁ hp ?_
  rw [hk₁]
  refine wpAny_pure ?_
  have F' := F.push (dictOf [] 0)
  have N' := News.push F N (dictOf [] 0)
  obtain ⟨FG, BG, st, lv⟩ := groundX (s := { s with heap := s.heap.push (dictOf [] 0) }) (R := R) B F' N' hA hf hke
  refine wpAny_newFunctionEnv hcell (hloc _) (fun h₁ hns hsb => ⟨(T.nolimit.keeps F'.keep).fresh _ hsb, codeAny_func ?_⟩) hk
  have hk₂ : ∀ b o, (s.heap.push (dictOf [] 0)).get? b = some o → h₁.get? b = some o := fun b o e => hsb.extBut b o (Nat.ne_of_lt (Heap.lt_size e)) (Heap.get?_push_of_some _ e)
  show wpAny (model prog w) (A.deeper (envX qual scope (s.heap.push (dictOf [] 0)).objs.size f cdv [])) (execs body (envX qual scope (s.heap.push (dictOf [] 0)).objs.size f cdv [])) _ _ _
  refine wpAny_mono (h s.heap.objs.size (dictOf [] 0) _ (s.heap.push (dictOf [] 0)).objs.size h₁ _ (fun p hp => Heap.lt_size (N p hp).1) (F.notModules (modules_low T.nolimit)) (kp_isDict (ex := []) 0 0 (by simp)) .nil FG ⟨hns, fun b o e => hk₂ b o (of_hideAll _ e), Nat.le_of_eq (hideAll_size _ _)⟩
    (fun q hq => ⟨hk₂ _ _ (N' q hq).1, Nat.ne_of_lt (Heap.lt_size (N' q hq).1), hideAll_none _ (List.mem_map_of_mem hq)⟩) BG (X₀.keeps st) (T.keeps st) ?_) (fun fl s' hl => lv _ _ hl) fun _ _ y => y
  intro b o e n
  refine hideAll_get _ (Heap.get?_push_of_some _ e) fun q => ?_
  rcases List.mem_cons.mp q with q | q
  · exact absurd (Heap.lt_size e) (by rw [q]; exact Nat.lt_irrefl _)
  · exact n q
end
end
section
open PySem PySem.W PyProof.Rows PySem.Spec PySem.Calls
/-- a tree that only reads: the objects that it reads are handed to it in their order; it says where it read each -/
def runQ {α : Type} : Nat → Sem α → List Obj → List (Addr × Obj) → Option (α × List (Addr × Obj))
  | 0, _, _, _ => none
  | n + 1, t, os, acc => match t with
    | .pure a => some (a, acc)
    | .rule _ k => runQ n (k ()) os acc
    | .at _ k => runQ n (k ()) os acc
    | .point _ k => runQ n (k ()) os acc
    | .load a _ k => match os with
      | o :: os => runQ n (k o) os ((a, o) :: acc)
      | [] => none
    | _ => none
theorem runQ_sound {α : Type} {M : Model} {A : Around} {E : Value → Shared → Prop} {s : Shared} {Q : α → Shared → Prop} :
    ∀ (n : Nat) (t : Sem α) (os : List Obj) (acc ps : List (Addr × Obj)) (a : α), runQ n t os acc = some (a, ps) → (∀ p ∈ ps, s.heap.get? p.1 = some p.2) → Q a s → (∀ p ∈ acc, p ∈ ps) ∧ wpAny M A t Q E s := by
  intro n
  induction n with
  | zero => intro t os acc ps a h; cases h
  | succ n ih =>
    intro t os acc ps a h hp q
    unfold runQ at h
    split at h
    · cases h; exact ⟨fun _ h => h, wpAny_pure q⟩
    · rename_i tag k
      obtain ⟨h1, h2⟩ := ih _ _ _ _ _ h hp q
      exact ⟨h1, wpAny_bind (m := rule tag) (f := k) (wpAny_rule h2)⟩
    · rename_i pos k
      obtain ⟨h1, h2⟩ := ih _ _ _ _ _ h hp q
      exact ⟨h1, wpAny_bind (m := standAt pos) (f := k) (wpAny_standAt h2)⟩
    · rename_i l k
      obtain ⟨h1, h2⟩ := ih _ _ _ _ _ h hp q
      exact ⟨h1, fun Γ p hΓ => h2 Γ p hΓ⟩
    · rename_i ad part k
      split at h
      · rename_i o os'
        obtain ⟨h1, h2⟩ := ih _ _ _ _ _ h hp q
        exact ⟨fun p hp => h1 p (.tail _ hp), wpAny_bind (m := loadPart ad part) (f := k) (wpAny_loadPart (hp _ (h1 _ (.head _))) h2)⟩
      · cases h
    · cases h
theorem join_one {prog : Program} {w : World} {A : Around} {E : Value → Shared → Prop} {s : Shared} {sep v : Str} {t0 t : Tok} {l : Addr} {n : Nat} {Q : Value → Shared → Prop} (hl : s.heap.get? l = some (listOf #[.str v t] n)) (h : Q (.str v t) s) :
    wpAny (model prog w) A (call (.builtin "str.join") [.str sep t0, .ref l]) Q E s := by
  refine wpAny_call_entry F.slot_str_join (typeIs_str _ _ _) F.entry_str_join ?_ (F.args_str_join_2 _ _)
  refine (runQ_sound 100 _ [listOf #[.str v t] n, listOf #[.str v t] n] [] [(l, listOf #[.str v t] n), (l, listOf #[.str v t] n)] (.done (.ret (.str v t))) (by kernel_rfl) ?_ ⟨_, rfl, h⟩).2
  intro p hp
  simp only [List.mem_cons, List.not_mem_nil, or_false, or_self] at hp
  subst hp
  exact hl
end
local macro_rules | `(tactic| walk_at "my enterKw") => `(tactic| ((case kA => exact rfl); (case kF => exact rfl); (case kK => first | exact rfl | assumption); (case k1 => k_asm); (case k2 => k_asm); (case k3 => k_asm); (case k4 => k_asm); (case k5 => k_asm); (case k6 => k_is); (case k7 => k_is); (case k8 => ktr_room); (case kP => exact rfl); (case kG => exact fun _ => rfl); (case c5 => decide); (case kB => exact fun _ => locs rfl); (case c2 => exact rfl); (case c3 => exact rfl); (case c4 => exact rfl); k_whole; intro D' o' g' L' h' tk' l1 lo' hs' fs' FG' F' N' B' X' T' GS'; (try k_lt l1); (try dsimp only); (try k_lift B'); (try k_fold)))
local macro_rules | `(tactic| walk_at "call builtin:str.join") => `(tactic| (k_here; (refine join_one (News.get (by k_asm) (by k_mem)) ?_); (try dsimp only)))
section
open PySem PySem.W PyProof.Rows PySem.Spec PySem.Calls PySem.Builtin PySem.Builtin.Str
section
variable {w : World} {p : Program} {loose : List Str} {mean : ExcName → Option Value} {mg mb : Str → Option Value} {dp un : Nat} {gd : Option (List Code)} {cn : Str} {cs : Scope} {a : Addr} {ccd : Value} {cl : List (Str × Addr)} {outer : List Env} {A₀ : Around} {base h₀ : Heap} {L : Addr} {m : Str → Option Value} {s : Shared} {Q E : Value → Shared → Prop}
theorem add_C {x dx l : Addr} {vs : List Value} {n k : Nat} {hs : Int} {tk : Tok} {st : List (Nat × Bool)} {i : Nat} {b : Bool} {t0 t1 : Tok} (B : Below A₀ base outer h₀) (F : Fr h₀ L s.heap m) (X : (hd.heap_39 w.params).In h₀) (T : Top p loose mean mg mb h₀) (hk : cs.kind = .function) (hd : dp + 2 < recursionLimit) (hu : un + 16 < cLine)
    (N : News h₀ L s.heap [(l, listOf vs.toArray n), (x, instObj 184 dx), (dx, dictOf [⟨hs, .str (Str.ofString "_headers") tk, .ref l⟩] k)])
    (hst : Rows s.heap vs st) (hsz : vs.length ≤ 100) (hi : i < 5)
    (ret : ∀ n' vs' h' tk', h'.get? l = some (listOf vs'.toArray n') → Rows h' vs' (st ++ [(i, b)]) → Keep [l] s.heap h' → Q .none { s with heap := h', toks := tk' }) :
    wpAny (model PR w) (ktrTop dp un gd cn cs L a ccd cl outer) (call (.ref 181) [.ref x, .str (ltr i b) t0, .str (dgt i) t1]) Q E s := by
  refine wpAny_call ?_
  refine' enterKwG (nm := Str.ofString "_params") (front := [(Str.ofString "self", .ref x), (Str.ofString "_name", .str (ltr i b) t0), (Str.ofString "_value", .str (dgt i) t1)]) ?k1 ?k2 ?k3 ?k4 ?k5 ?kA ?kF ?kK ?k6 ?k7 ?k8 ?kP ?kG ?kB ?_ ?c2 ?c3 ?c4 ?c5
  k_dflt (walk_at "my enterKw")
  refine wpAny_mono (E := fun _ _ => False) ?_ (fun _ _ h => h) (fun _ _ h => h.elim)
  (rename GSub _ _ _ => GS9)
  k_steps
  rename_i D h5 F5 N5 l5
  refine wpAny_list_append_plain (items := vs.toArray) ⟨n, N5.get (by k_mem)⟩ (fun h4 hl4 hs4 => ?_) (by simp only [List.size_toArray]; rw [sizeLine_eq]; omega)
  obtain ⟨n4, hl4⟩ := hl4
  rw [List.push_toArray] at hl4
  have kp4 : Keep [l] h5 h4 := fun b o e n => (hs4.2 b (by simpa using n)).trans e
  have N5' := news_sub N5 (fun p hp => .tail _ (.tail _ (.tail _ hp)))
  have F4 := kp4.fr F5 (fun a ha => by simp only [List.mem_singleton] at ha; subst ha; exact (N5' _ (.head _)).2)
  have N4 := tab_set N5' kp4 hl4
  have hD4 := kp4 _ _ (N5.get (.head _)) (by have := N5'.get (.head _); simp only [List.mem_singleton]; exact ne_of_get (N5.get (.head _)) this (by simp))
  k_steps
  exact ret n4 (vs ++ [.ref D]) _ _ hl4 (Rows.snoc ((rows_sub hst GS9 (tab_cls N)).keeps fun t vals ht => let ⟨o, ho, r⟩ := ht; ⟨o, F4.keep _ _ ho, r⟩) hi ⟨_, hD4, rfl, _, rfl⟩) (keep_but GS9 F4 N N4 tab_but)
end
end
section
open PySem PySem.W PyProof.Rows PySem.Spec PySem.Calls
/-- one move: the pair at place d is stored anew, its letter's case turned -/
def move (st : List (Nat × Bool)) (d : Nat) : List (Nat × Bool) := match st[d]? with
  | some e => (st.filter fun q => q.1 != e.1) ++ [(e.1, !e.2)]
  | none => st
def runAll (st : List (Nat × Bool)) (ds : List Int) : List (Nat × Bool) := ds.foldl (fun st d => move st d.toNat) st
/-- each digit finds its pair -/
def okRun : List (Nat × Bool) → List Int → Bool
  | _, [] => true
  | st, d :: ds => decide (0 ≤ d) && decide (d.toNat < st.length) && decide (st.length ≤ 100) && okRun (move st d.toNat) ds
theorem okRun_at : ∀ {st : List (Nat × Bool)} {ds : List Int} {i : Nat} {d : Int}, okRun st ds = true → ds[i]? = some d → 0 ≤ d ∧ d.toNat < (runAll st (ds.take i)).length ∧ (runAll st (ds.take i)).length ≤ 100
  | st, [], i, d, _, e => by simp at e
  | st, c :: ds, i, d, h, e => by
    simp only [okRun, Bool.and_eq_true, decide_eq_true_eq] at h
    cases i with
    | zero => simp at e; subst e; exact ⟨h.1.1.1, h.1.1.2, h.1.2⟩
    | succ i =>
      simp at e
      exact okRun_at (st := move st c.toNat) h.2 e
theorem runAll_succ {st : List (Nat × Bool)} {ds : List Int} {i : Nat} {d : Int} (e : ds[i]? = some d) : runAll st (ds.take (i + 1)) = move (runAll st (ds.take i)) d.toNat := by
  rw [take_snoc e]; simp [runAll]
theorem frame_pick {h₀ h : Heap} {L : Addr} {m m' : Str → Option Value} {x z : Str} {v : Option Value} (F : Fr h₀ L h (fun y => if y = x then v else m' y)) (hm : ∀ y, y ∉ [x, z] → m' y = m y) : Fr h₀ L h (fun y => if y = x then v else if y = z then m' z else m y) := by
  have e : (fun y => if y = x then v else m' y) = fun y => if y = x then v else if y = z then m' z else m y := by
    funext y
    by_cases h1 : y = x
    · simp [h1]
    · by_cases h2 : y = z
      · simp [h2]
      · simp [h1, h2, hm y (by simp [h1, h2])]
  rw [← e]; exact F
theorem news_add {h₀ h h' : Heap} {L D : Addr} {m : Str → Option Value} {o : Obj} {news : List (Addr × Obj)} (N : News h₀ L h' news) (F : Fr h₀ L h m) (hD : h.get? D = none) (hg : h'.get? D = some o) : News h₀ L h' ((D, o) :: news) := by
  intro p hp
  rcases List.mem_cons.mp hp with rfl | hp
  · refine ⟨hg, fun q => ?_, ?_⟩
    · obtain ⟨oL, _, _, hL, _⟩ := F.ns
      have q : D = L := q
      rw [q, hL] at hD; cases hD
    · cases e : h₀.get? D with
      | none => rfl
      | some o' => rw [F.keep _ _ e] at hD; cases hD
  · exact N p hp
/-- the pairs, as part of the ledger -/
theorem Rows.split {g h : Heap} {L : Addr} {m : Str → Option Value} {vs : List Value} {st : List (Nat × Bool)} (r : Rows h vs st) (F : Fr g L h m) : ∃ tl, News g L h tl ∧ ∀ h' m', Fr g L h' m' → News g L h' tl → Rows h' vs st := by
  induction r with
  | nil => exact ⟨[], News.nil, fun _ _ _ _ => .nil⟩
  | cons a b _ ih =>
    obtain ⟨tl, Nt, hb⟩ := ih
    rename_i t _ _ _ _ _ _ _
    obtain ⟨o, ho, hc, hd⟩ := id b
    cases e : g.get? t with
    | some o' =>
      have : o' = o := by have := F.keep _ _ e; rw [ho] at this; exact (Option.some.inj this).symm
      subst this
      exact ⟨tl, Nt, fun h' m' F' N' => .cons a ⟨o', F'.keep _ _ e, hc, hd⟩ (hb h' m' F' N')⟩
    | none =>
      refine ⟨(t, o) :: tl, fun p hp => ?_, fun h' m' F' N' => .cons a ⟨o, N'.get (.head _), hc, hd⟩ (hb h' m' F' fun p hp => N' p (.tail _ hp))⟩
      rcases List.mem_cons.mp hp with rfl | hp
      · exact ⟨ho, isTuple_ns b F.ns, e⟩
      · exact Nt p hp
theorem news_app {h₀ h : Heap} {L : Addr} {n1 n2 : List (Addr × Obj)} (a : News h₀ L h n1) (b : News h₀ L h n2) : News h₀ L h (n1 ++ n2) := fun p hp => (List.mem_append.mp hp).elim (a p) (b p)
theorem tab_of {h₀ h : Heap} {L l x dx : Addr} {items : Array Value} {n k : Nat} {es : List DictEntry} {tl : List (Addr × Obj)} (N : News h₀ L h ((l, listOf items n) :: (x, instObj 184 dx) :: (dx, dictOf es k) :: tl)) : News h₀ L h [(l, listOf items n), (x, instObj 184 dx), (dx, dictOf es k)] := by
  intro p hp
  simp only [List.mem_cons, List.not_mem_nil, or_false] at hp
  rcases hp with rfl | rfl | rfl
  · exact N _ (.head _)
  · exact N _ (.tail _ (.head _))
  · exact N _ (.tail _ (.tail _ (.head _)))
theorem tab_tl {h₀ h : Heap} {L : Addr} {a b c : Addr × Obj} {tl : List (Addr × Obj)} (N : News h₀ L h (a :: b :: c :: tl)) : News h₀ L h tl := fun p hp => N p (.tail _ (.tail _ (.tail _ hp)))
theorem Rows.keepsIn {h h' : Heap} {vs : List Value} {st : List (Nat × Bool)} (r : Rows h vs st) (k : ∀ t vals, Value.ref t ∈ vs → h.IsTuple t vals → h'.IsTuple t vals) : Rows h' vs st := by
  induction r with
  | nil => exact .nil
  | cons a b _ ih => exact .cons a (k _ _ (.head _) b) (ih fun t vals hm ht => k t vals (.tail _ hm) ht)
theorem Rows.mem {h : Heap} {vs : List Value} {st : List (Nat × Bool)} (r : Rows h vs st) {t : Addr} (hm : Value.ref t ∈ vs) : ∃ vals, h.IsTuple t vals := by
  induction r with
  | nil => cases hm
  | cons a b _ ih =>
    rcases List.mem_cons.mp hm with e | hm
    · cases e; exact ⟨_, b⟩
    · exact ih hm
theorem Texts.get {vs : List Value} {xs : List Str} (h : Texts vs xs) : ∀ {i : Nat} {x : Str}, xs[i]? = some x → ∃ t, vs[i]? = some (.str x t) := by
  induction h with
  | nil => intro i x e; simp at e
  | cons _ ih =>
    intro i x e
    cases i with
    | zero => simp at e; subst e; exact ⟨_, rfl⟩
    | succ i => simpa using ih (by simpa using e)
theorem item_texts {prog : Program} {w : World} {A : Around} {E : Value → Shared → Prop} {s : Shared} {value slice : PySem.Expr} {D : Addr} {ys : List Value} {xs : List Str} {v : Str} {d : Int} {t : Tok} {k : Nat} {Q : Value → Shared → Prop} (hD : s.heap.get? D = some (listOf ys.toArray k)) (hT : Texts ys xs) (h0 : 0 ≤ d) (hi : xs[d.toNat]? = some v) (h63 : d < 2 ^ 63)
    (h : ∀ t', Q (.str v t') s) (hs : subscripted slice false (.ref D) (.int d t) = operate [.ref D, .int d t] (getItem (.ref D) (.int d t))) :
    wpAny (model prog w) A (subscriptTail value slice (.ref D) (.int d t)) Q E s := by
  obtain ⟨t', ht⟩ := hT.get hi
  have hl : s.heap.IsList D ys.toArray := ⟨_, hD, rfl, k, rfl⟩
  exact tail_any hl.typeIs slot_list_getitem.lookup (wpAny_getItem_list hl h0 h63 (by simpa using ht) (h t')) hs
section
variable {prog : Program} {w : World} {A : Around} {E : Value → Shared → Prop} {R : Result → Shared → Prop} {env : Env} {dl : Addr} {dvs : List Value} {ds : List Int} {px : Pos} {body : List Stmt} {m : Str → Option Value} {h₀ : Heap} {s : Shared} {x : Str}
/-- a loop over a list of ints of the ground -/
theorem forInts (J : Nat → Heap → Prop) (V : List Str) (F : Fr h₀ env.locals s.heap m) (hl : h₀.IsList dl dvs.toArray) (hi : IntsAre dvs ds) (h0 : J 0 s.heap)
    (hJ : ∀ i h h', J i h → Keep [env.locals, s.heap.objs.size] h h' → J i h')
    (turn : ∀ (i : Nat) (d : Int) (t : Tok) (h : Heap) (tk : Nat) (m' : Str → Option Value) (oI : Obj), oI.cls = .type "list_iterator" → ds[i]? = some d → J i h → (∀ y, y ∉ V → m' y = m y) → Fr h₀ env.locals h (fun y => if y = x then some (.int d t) else m' y) → News h₀ env.locals h [(s.heap.objs.size, oI)] →
      wpAny (model prog w) A (execs body env) (fun f s' => match f with | .next => ∃ h' tk' m'', s' = { s with heap := h', toks := tk' } ∧ Fr h₀ env.locals h' m'' ∧ (∀ y, y ∉ V → m'' y = m y) ∧ J (i + 1) h' ∧ h'.get? s.heap.objs.size = some oI | _ => False) (fun _ _ => False) { s with heap := h, toks := tk })
    (done : ∀ (h : Heap) (tk : Nat) (m' : Str → Option Value), J ds.length h → (∀ y, y ∉ V → m' y = m y) → Fr h₀ env.locals h m' → R (.ok .next) { s with heap := h, toks := tk })
    (hh : A.handled = none) (hx : env.kindOf x = some .local) (hp : (env.scope.kind == .class || (env.scope.kind == .module && env.locals != env.globals)) = false) :
    wpAny (model prog w) A (pyIter (.ref dl)) (fun it s₂ => codeAny (model prog w) A (.forLoop (.Name x px) it body [] env) R s₂) E s := by
  have hls : s.heap.IsList dl dvs.toArray := hl.at fun o e => F.keep _ _ e
  refine wpAny_pyIter_list hls ?_
  have hLlt := ltN F.ns.lt
  have hlen : dvs.length = ds.length := hi.length
  generalize hI : s.heap.push { cls := .type "list_iterator", data := .fields #[.ref dl, .int 0 0] } = H1
  have kp0 : Keep [] s.heap H1 := fun b o e _ => hI ▸ Heap.get?_push_of_some _ e
  have gI : H1.get? s.heap.objs.size = some { cls := .type "list_iterator", data := .fields #[.ref dl, .int 0 0] } := hI ▸ Heap.get?_push_size _ rfl
  have hI0 : h₀.get? s.heap.objs.size = none := by
    cases e : h₀.get? s.heap.objs.size with
    | none => rfl
    | some o => exact absurd (Heap.lt_size (F.keep _ _ e)) (Nat.lt_irrefl _)
  have hIL : s.heap.objs.size ≠ env.locals := neN (by omega)
  refine codeAny_forLoop_any (fun k s' => ∃ h tk i m', s' = { s with heap := h, toks := tk } ∧ h.IsListIter s.heap.objs.size dl i ∧ Fr h₀ env.locals h m' ∧ (∀ y, y ∉ V → m' y = m y) ∧ J i h ∧ i ≤ dvs.length ∧ k = dvs.length + 1 - i) ?_ (dvs.length + 1)
    ⟨H1, s.toks, 0, m, by rw [← hI], ⟨_, gI, rfl, rfl⟩, kp0.fr0 F, fun _ _ => rfl, hJ _ _ _ h0 (kp0.mono (by simp)), Nat.zero_le _, rfl⟩
  rintro k s' ⟨h, tk, i, m', rfl, hit, F', hm', hj, hle, rfl⟩
  have hl' : h.IsList dl dvs.toArray := hl.at fun o e => F'.keep _ _ e
  by_cases hlt : i < dvs.length
  · have hx' : dvs.toArray[i]? = some dvs[i] := by simp [hlt]
    refine wpAny_pyNext_list_item hit hl' hx' fun h₁ hit₁ hs₁ => ?_
    have hd : ds[i]? = some ds[i] := by simp [hlen ▸ hlt]
    obtain ⟨t, ht⟩ := hi.get i ds[i] hd
    have ev : dvs[i] = .int ds[i] t := by
      have := List.getElem?_eq_getElem hlt; rw [ht] at this; exact (Option.some.inj this).symm
    refine wpAny_pure ?_
    rw [ev]
    have k1 : Keep [s.heap.objs.size] h h₁ := fun b o e n => (hs₁.2 b (by simpa using n)).trans e
    have F₁ : Fr h₀ env.locals h₁ m' := k1.fr F' (by simpa using ⟨hIL, hI0⟩)
    refine wpAny_assign_Name (wpAny_storeName_local hx F₁.ns (fun h₂ hn₂ hs₂ => ?_) hp)
    replace hs₂ : Heap.SameBut env.locals h₁ h₂ := hs₂
    have F₂ := F₁.set hn₂ hs₂
    have k2 : Keep [env.locals, s.heap.objs.size] h h₂ := fun b o e n => (hs₂.2 b (fun q => n (by simp [q]))).trans (k1 b o e (fun q => n (by simp at q; simp [q])))
    have hit₂ : h₂.IsListIter s.heap.objs.size dl (i + 1) := hit₁.at fun o e => hs₂.extBut _ _ hIL e
    obtain ⟨oI, hoI, hcI, hdI⟩ := hit₂
    refine wpAny_mono (turn i ds[i] t h₂ _ m' oI hcI hd (hJ _ _ _ hj k2) hm' F₂ (fun p hp => by simp only [List.mem_singleton] at hp; subst hp; exact ⟨hoI, hIL, hI0⟩)) (fun f s₃ h₆ => ?_) fun _ _ e => e.elim
    cases f with
    | ret v => exact h₆.elim
    | brk => exact h₆.elim
    | cont => exact h₆.elim
    | next =>
      obtain ⟨h', tk', m'', rfl, F'', hm'', hj'', kk⟩ := h₆
      exact ⟨dvs.length + 1 - (i + 1), by omega, h', tk', i + 1, m'', rfl, ⟨oI, kk, hcI, hdI⟩, F'', hm'', hj'', hlt, rfl⟩
  · have hin : i = dvs.length := by omega
    subst hin
    refine wpAny_pyNext_list_end hh hit hl' (by simp) fun h₁ he₁ => wpAny_execs_nil ?_
    replace he₁ : Heap.ExtBut s.heap.objs.size h h₁ := he₁
    have k1 : Keep [s.heap.objs.size] h h₁ := fun b o e n => he₁ b o (by simpa using n) e
    exact done h₁ _ m' (hlen ▸ hJ _ _ _ hj (k1.mono (by simp))) hm' (k1.fr F' (by simpa using ⟨hIL, hI0⟩))
end
end
section
open PySem PySem.W PyProof.Rows PySem.Spec PySem.Calls
theorem int_dgt : ∀ (p : Nat), p < 5 → PySem.intText? (dgt p) = some (p : Int)
  | 0, _ | 1, _ | 2, _ | 3, _ | 4, _ => by decide +kernel
theorem dgt_len (p : Nat) : (dgt p).length ≤ 640 := by
  show 1 ≤ 640
  decide
theorem Rows.lt {h : Heap} {vs : List Value} {st : List (Nat × Bool)} (r : Rows h vs st) : ∀ e ∈ st, e.1 < 5 := by
  induction r with
  | nil => intro e he; cases he
  | cons a _ _ ih =>
    intro e he
    rcases List.mem_cons.mp he with rfl | he
    · exact a
    · exact ih e he
theorem none_but {h h' : Heap} {l D : Addr} {o : Obj} (k : Keep [l] h h') (hl : h'.get? l = some o) (hD : h'.get? D = none) : h.get? D = none := by
  cases e : h.get? D with
  | none => rfl
  | some o' =>
    by_cases q : D = l
    · subst q; rw [hl] at hD; cases hD
    · rw [k _ _ e (by simpa using q)] at hD; cases hD
theorem frame_pick2 {h₀ h : Heap} {L : Addr} {m m' : Str → Option Value} {x z : Str} (F : Fr h₀ L h m') (hm : ∀ y, y ∉ [x, z] → m' y = m y) : Fr h₀ L h (fun y => if y = x then m' x else if y = z then m' z else m y) := by
  have e : m' = fun y => if y = x then m' x else if y = z then m' z else m y := by
    funext y
    by_cases h1 : y = x
    · simp [h1]
    · by_cases h2 : y = z
      · subst h2; simp [h1]
      · simp [h1, h2, hm y (by simp [h1, h2])]
  rw [← e]; exact F
theorem Texts.mem {vs : List Value} {xs : List Str} (h : Texts vs xs) {v : Value} (hm : v ∈ vs) : ∃ x t, v = .str x t ∧ x ∈ xs := by
  induction h with
  | nil => cases hm
  | cons _ ih =>
    rcases List.mem_cons.mp hm with rfl | hm
    · exact ⟨_, _, rfl, .head _⟩
    · obtain ⟨x, t, e, hx⟩ := ih hm
      exact ⟨x, t, e, .tail _ hx⟩
theorem dgt_inj {p q : Nat} (h : dgt p = dgt q) : p = q := by
  unfold dgt at h
  simp only [Str.mk.injEq, Array.mk.injEq, List.cons.injEq, and_true] at h
  omega
theorem Texts.cons_inv {x y : Str} {t : Tok} {vs : List Value} {xs : List Str} (h : Texts (.str x t :: vs) (y :: xs)) : x = y ∧ Texts vs xs := by
  cases h with
  | cons r => exact ⟨rfl, r⟩
theorem paired_ints {vs ys : List Value} (h : Paired (fun v y => ∃ p t t', v = .str (dgt p) t ∧ y = .int (p : Int) t') vs ys) : ∀ {ps : List Nat}, Texts vs (ps.map dgt) → IntsAre ys (ps.map Int.ofNat) := by
  induction h with
  | nil => intro ps hT; cases ps with | nil => exact .nil | cons _ _ => cases hT
  | cons a _ ih =>
    intro ps hT
    cases ps with
    | nil => cases hT
    | cons q qs =>
      obtain ⟨p, t, t', e1, e2⟩ := a
      subst e1 e2
      have hq := Texts.cons_inv hT
      have := dgt_inj hq.1
      subst this
      exact .cons _ _ (ih hq.2)
section
variable {prog : Program} {w : World} {A : Around} {env : Env} {px pos : Pos} {iter elt : Expr} {scope : Scope} {h₀ : Heap} {s : Shared} {x : Str} {cl : List (Str × Addr)}
/-- a block that reads ints off a list of figures -/
def IntsAt (prog : Program) (w : World) (A : Around) (env : Env) (scope : Scope) (cl : List (Str × Addr)) (x : Str) (elt : Expr) (h₀ : Heap) (L : Addr) (Q : Value → Shared → Prop) (v : Value) (s₁ : Shared) : Prop :=
  ∃ D k ys ps m news, v = .ref D ∧ Fr h₀ L s₁.heap m ∧ News h₀ L s₁.heap news ∧ s₁.heap.get? D = some (listOf ys.toArray k) ∧ Texts ys (List.map dgt ps) ∧ ys.length ≤ 100 ∧
    (∀ C p t (s₃ : Shared) m₃, p ∈ ps → s₃.heap.Ns C m₃ → m₃ x = some (.str (dgt p) t) → Fr h₀ L s₃.heap m → News h₀ L s₃.heap news →
      wpAny (model prog w) A (eval elt (compEnvC scope cl C env)) (fun y s₄ => (∃ t', y = .int (p : Int) t') ∧ Keeps s₃ s₄) (fun _ _ => False) s₃) ∧
    ∀ D' k' zs h' tk, s₁.heap.get? D' = none → h'.get? D' = some (listOf zs.toArray k') → IntsAre zs (ps.map Int.ofNat) → Keep [] s₁.heap h' → Q (.ref D') { s₁ with heap := h', toks := tk }
theorem eval_ints {E : Value → Shared → Prop} {Q : Value → Shared → Prop} (h₀ : Heap)
    (h : wpAny (model prog w) A (eval iter env) (IntsAt prog w A env scope cl x elt h₀ env.locals Q) E s)
    (hh : A.handled = none) (hclos : closureFor scope env = pure cl) (hcell : ∀ y ∈ scope.names, y.2 ≠ .cell) (hkind : scope.kind = .function)
    (hnames : ∀ y ∈ scope.names, y.2 = .local → scope.names.lookup y.1 = some .local) (hx : scope.names.lookup x = some .local)
    (hs : ∀ x, foldedSetIterable iter env x = pure x) :
    wpAny (model prog w) A (eval (.ListComp elt [⟨.Name x px, iter, [], 0⟩] scope pos) env) Q E s := by
  refine wpAny_ListComp_free (p := fun _ => true) (F := fun v y => ∃ p t t', v = .str (dgt p) t ∧ y = .int (p : Int) t') hclos hcell hkind hnames hx (wpAny_mono h (fun v s₁ h₁ => ?_) fun _ _ e => e) hs
  obtain ⟨D, k, ys, ps, m, news, rfl, F, N, hD, hT, hsz, tst, ret⟩ := h₁
  have hl : s₁.heap.IsList D ys.toArray := ⟨_, hD, rfl, k, rfl⟩
  refine wpAny_pyIter_list hl ?_
  have hllt := ltN (Heap.lt_size hD)
  have kp0 : Keep [] s₁.heap (s₁.heap.push { cls := .type "list_iterator", data := .fields #[.ref D, .int 0 0] }) := fun b o e _ => Heap.get?_push_of_some _ e
  refine ⟨_, _, _, _, _, _, rfl, Walks.list (prog := prog) (w := w) hh s₁.heap.objs.size D (Nat.ne_of_lt hllt) ys.toArray, ?_, ⟨⟨_, Heap.get?_push_size _ rfl, rfl, rfl⟩, hl.at fun o e => kp0 _ _ e (by simp)⟩, ?_, ⟨?_, ?_⟩, ?_⟩
  · simp only [List.size_toArray]; rw [sizeLine_eq]; omega
  · intro b hb
    simp only [Heap.size_push]
    simp only [List.mem_cons, List.not_mem_nil, or_false] at hb
    rcases hb with rfl | rfl
    · exact Nat.lt_succ_self _
    · exact Nat.lt_succ_of_lt hllt
  · intro C j v s₃ m₃ E' hC hP hn hmv hk htk
    exact wpAny_tests_nil ⟨rfl, s₃.heap, s₃.toks, rfl, fun _ _ e => e⟩
  · intro C j v s₃ m₃ E' hC hP hpv hn hmv hk htk
    have hP' : ys[j]? = some v := by simpa using hP
    obtain ⟨z, t, rfl, hz⟩ := hT.mem (List.mem_of_getElem? hP')
    obtain ⟨p, hp, rfl⟩ := List.mem_map.mp hz
    have hk' : Keep [] s₁.heap s₃.heap := fun b o e _ => hk b o (by have := ltN (Heap.lt_size e); simp only [List.mem_singleton]; exact neN (by omega)) (kp0 b o e (by simp))
    exact wpAny_mono (tst C p t s₃ m₃ hp hn hmv (hk'.fr0 F) (hk'.news0 N)) (fun y s₄ hy => ⟨by obtain ⟨t', e⟩ := hy.1; exact ⟨p, t, t', rfl, e⟩, hy.2⟩) fun _ _ e => e.elim
  · intro D' h' tk zs us hD' hlD hplD hlen hP hF hk
    have hus : us = ys := List.ext_getElem? fun j => by
      by_cases hj : j < us.length
      · have := hP j us[j] (by simp [hj])
        simp only [List.getElem?_toArray] at this
        rw [this]; simp [hj]
      · rw [List.getElem?_eq_none (by omega), List.getElem?_eq_none (by simp at hlen; omega)]
    subst hus
    obtain ⟨k', hg⟩ := hplD
    have e : us.filter (fun _ => true) = us := List.filter_eq_self.mpr fun _ _ => rfl
    rw [e] at hF
    refine ret D' k' zs.toList h' tk (Keep.none kp0 hD') (by rw [hg]) (paired_ints hF hT) fun b o eb _ => hk b o (by have := ltN (Heap.lt_size eb); simp only [List.mem_singleton]; exact neN (by omega)) (kp0 b o eb (by simp))
end
end
local macro_rules | `(tactic| walk_at "call type:int") => `(tactic| (k_here; (with_reducible show wpAny _ _ (call (Value.type "int") [Value.str (dgt _) _]) _ _ _); (refine KIN.call_text (int_dgt _ (by assumption)) (dgt_len _) ?_); (try dsimp only)))
section
open PySem PySem.W PyProof.Rows PySem.Spec PySem.Calls PySem.Builtin PySem.Builtin.Str
section
variable {w : World} {p : Program} {loose : List Str} {mean : ExcName → Option Value} {mg mb : Str → Option Value} {dp un : Nat} {gd : Option (List Code)} {cn : Str} {cs : Scope} {a : Addr} {ccd : Value} {cl : List (Str × Addr)} {outer : List Env} {A₀ : Around} {base h₀ : Heap} {L : Addr} {m : Str → Option Value} {s : Shared} {Q E : Value → Shared → Prop}
theorem run_C {x dx l dl : Addr} {vs dvs : List Value} {ds : List Int} {n k kd : Nat} {hs : Int} {tkh : Tok} {st : List (Nat × Bool)} (B : Below A₀ base outer h₀) (F : Fr h₀ L s.heap m) (X : (hd.heap_39 w.params).In h₀) (T : Top p loose mean mg mb h₀) (hk : cs.kind = .function) (hd : dp + 4 < recursionLimit) (hu : un + 32 < cLine)
    (N : News h₀ L s.heap [(l, listOf vs.toArray n), (x, instObj 184 dx), (dx, dictOf [⟨hs, .str (Str.ofString "_headers") tkh, .ref l⟩] k)])
    (hst : Rows s.heap vs st) (hdl : s.heap.get? dl = some (listOf dvs.toArray kd)) (hdn : dl ≠ l) (hdi : IntsAre dvs ds) (hok : okRun st ds = true) (hsz : (runAll st ds).length ≤ 100)
    (ret : ∀ D k ys n' vs' h' tk', s.heap.get? D = none → h'.get? D = some (listOf ys.toArray k) → IntsAre ys ((runAll st ds).map fun e => (e.1 : Int)) → h'.get? l = some (listOf vs'.toArray n') → Rows h' vs' (runAll st ds) → Keep [l] s.heap h' → Q (.ref D) { s with heap := h', toks := tk' }) :
    wpAny (model PR w) (ktrTop dp un gd cn cs L a ccd cl outer) (call (.ref 242) [.ref x, .ref dl]) Q E s := by
  refine wpAny_call ?_
  k_dflt (walk_at "my enter")
  rename_i g9 L9 h9 FG9 F9 N9 B9 X9 T9 GS9
  refine wpAny_mono (E := fun _ _ => False) ?_ (fun _ _ h => h) (fun _ _ h => h.elim)
  have kp9 := keep_all GS9 F9 N N9
  have hdg : g9.IsList dl dvs.toArray := ⟨_, GS9 _ _ hdl (by
    have h1 := N.get (.tail _ (.head _))
    have h2 := N.get (.tail _ (.tail _ (.head _)))
    simp only [List.map_cons, List.map_nil, List.mem_cons, List.not_mem_nil, or_false, not_or]
    exact ⟨hdn, ne_of_get hdl h1 (by simp), ne_of_get hdl h2 (by simp)⟩), rfl, kd, rfl⟩
  have hr9 : Rows h9 vs st := hst.keeps fun t vals ht => isTuple_keep kp9 ht (by simp)
  have q1 := ltN (Heap.lt_size (N9.get (.head _)))
  have q2 := ltN (Heap.lt_size (N9.get (.tail _ (.head _))))
  have q3 := ltN (Heap.lt_size (N9.get (.tail _ (.tail _ (.head _)))))
  have c1 := (N9 _ (.head _)).2.1
  have c2 := (N9 _ (.tail _ (.head _))).2.1
  have c3 := (N9 _ (.tail _ (.tail _ (.head _)))).2.1
  have hr9' : True → Rows h9 vs st := fun _ => hr9
  clear hr9
  walk1
  have hr9 := hr9' trivial
  refine wpAny_For ?_ (by intro _; rfl)
  walk1
  refine' forInts (fun i h => ∃ vs n, h.get? l = some (listOf vs.toArray n) ∧ h.get? x = some (instObj 184 dx) ∧ h.get? dx = some (dictOf [⟨hs, .str (Str.ofString "_headers") tkh, .ref l⟩] k) ∧ Rows h vs (runAll st (ds.take i)) ∧ ∀ t, Value.ref t ∈ vs → t ≠ L9 ∧ t ≠ h9.objs.size)
    [Str.ofString "digit", Str.ofString "name"] F9 hdg hdi ?a2 ?a3 ?a4 ?a5 rfl rfl rfl
  case a2 => exact ⟨vs, n, N9.get (.head _), N9.get (.tail _ (.head _)), N9.get (.tail _ (.tail _ (.head _))), hr9, fun t ht => by
      obtain ⟨vals, hv⟩ := hr9.mem ht
      exact ⟨isTuple_ns hv F9.ns, by obtain ⟨o, ho, _⟩ := hv; exact Nat.ne_of_lt (Heap.lt_size ho)⟩⟩
  case a3 =>
    rintro i h h' ⟨vs₁, n₁, hl₁, hx₁, hdx₁, hr₁, ho₁⟩ kk
    refine ⟨vs₁, n₁, kk _ _ hl₁ ?_, kk _ _ hx₁ ?_, kk _ _ hdx₁ ?_, ?_, ho₁⟩
    · simp only [List.mem_cons, List.not_mem_nil, or_false, not_or]; exact ⟨c1, neN (by omega)⟩
    · simp only [List.mem_cons, List.not_mem_nil, or_false, not_or]; exact ⟨c2, neN (by omega)⟩
    · simp only [List.mem_cons, List.not_mem_nil, or_false, not_or]; exact ⟨c3, neN (by omega)⟩
    · exact hr₁.keepsIn fun t vals hm ht => isTuple_keep kk ht (by simp only [List.mem_cons, List.not_mem_nil, or_false, not_or]; exact ho₁ t hm)
  case a4 =>
    rintro i d t h tk m' oI hcI hd' ⟨vs₁, n₁, hl₁, hx₁, hdx₁, hr₁, -⟩ hm' Fh NI
    have Fh' := frame_pick Fh hm'
    clear Fh
    have hr' : True → Rows h vs₁ (runAll st (ds.take i)) := fun _ => hr₁
    clear hr₁
    have Nh : News g9 L9 h [(l, listOf vs₁.toArray n₁), (x, instObj 184 dx), (dx, dictOf [⟨hs, .str (Str.ofString "_headers") tkh, .ref l⟩] k)] := by
      intro p hp
      simp only [List.mem_cons, List.not_mem_nil, or_false] at hp
      rcases hp with rfl | rfl | rfl
      · exact ⟨hl₁, (N9 _ (.head _)).2⟩
      · exact ⟨hx₁, (N9 _ (.tail _ (.head _))).2⟩
      · exact ⟨hdx₁, (N9 _ (.tail _ (.tail _ (.head _)))).2⟩
    clear hl₁ hx₁ hdx₁
    obtain ⟨tl, Ntl, hback⟩ := (hr' trivial).split Fh'
    have NA := news_app Nh (news_app NI Ntl)
    simp only [List.cons_append, List.nil_append] at NA
    clear Nh Ntl NI
    obtain ⟨hd1, hd2, hd3⟩ := okRun_at hok hd'
    k_steps
    refine' keys_C B9 Fh' X9 T9 rfl (by ktr_room) (by ktr_units) (tab_of NA) (hr' trivial) (by rw [(hr' trivial).length]; exact hd3) ?_
    intro D kk ys h1 tk1 hD hg hT kp1
    have F1 := kp1.fr0 Fh'
    have N1 := kp1.news0 NA
    k_steps
    obtain ⟨p, c, est, hp5⟩ : ∃ p c, (runAll st (ds.take i))[d.toNat]? = some (p, c) ∧ p < 5 := by
      have hl := (hr' trivial).length
      have hlt' : d.toNat < vs₁.length := by omega
      obtain ⟨_, p, c, _, _, _, h5, e, _⟩ := (hr' trivial).get (List.getElem?_eq_getElem hlt')
      exact ⟨p, c, e, h5⟩
    refine item_texts (v := ltr p c) hg hT hd1 (by rw [List.getElem?_map, est]; rfl) (by omega) ?_ (by with_unfolding_all rfl)
    intro t2
    k_steps
    (rename Fr _ _ _ _ => F2)
    (rename News _ _ _ _ => N2)
    have hr2 := hback _ _ F2 (fun p hp => tab_tl N2 p (.tail _ hp))
    refine' get_C B9 F2 X9 T9 rfl (by ktr_room) (by ktr_units) (tab_of N2) hr2 hp5 ⟨c, List.mem_of_getElem? est⟩ ?_
    intro t3 h4 tk4 kp4
    have F4 := kp4.fr0 F2
    have N4 := kp4.news0 N2
    clear hr2
    k_steps
    have hr4 := hback _ _ F4 (fun p hp => tab_tl N4 p (.tail _ hp))
    refine' set_C B9 F4 X9 T9 rfl (by ktr_room) (by ktr_units) (tab_of N4) hr4 (by rw [hr4.length]; exact hd3) hp5 ?_
    clear hr4
    intro n5 vs5 h5 tk5 hl5 hr5 kp5
    have F5 := kp5.fr F4 (fun a ha => by simp only [List.mem_singleton] at ha; subst ha; exact (N4 _ (.head _)).2)
    have N5 := tab_set (tab_of N4) kp5 hl5
    have hI5 := kp5 _ _ (N4.get (.tail _ (.tail _ (.tail _ (.head _))))) (by
      simp only [List.mem_singleton]; exact neN (by omega))
    refine wpAny_execs_nil ?_
    refine ⟨h5, tk5, _, rfl, F5, ?_, ⟨vs5, n5, hl5, N5.get (.tail _ (.head _)), N5.get (.tail _ (.tail _ (.head _))), ?_, ?_⟩, hI5⟩
    · intro y hy
      simp only [List.mem_cons, List.not_mem_nil, or_false, not_or] at hy
      simp only [hy.1, hy.2, if_false]
    · rw [runAll_succ hd']; unfold move; rw [est]; exact hr5
    · intro t ht
      obtain ⟨vals, hv⟩ := hr5.mem ht
      exact ⟨isTuple_ns hv F5.ns, isTuple_ne hv hI5 (by rw [hcI]; simp)⟩
  case a5 =>
    rintro h tk m' ⟨vs₁, n₁, hl₁, hx₁, hdx₁, hr₁, -⟩ hm' Fh
    rw [List.take_length] at hr₁
    have Fh' := frame_pick2 Fh hm'
    clear Fh
    have hr' : True → Rows h vs₁ (runAll st ds) := fun _ => hr₁
    clear hr₁
    have Nh : News g9 L9 h [(l, listOf vs₁.toArray n₁), (x, instObj 184 dx), (dx, dictOf [⟨hs, .str (Str.ofString "_headers") tkh, .ref l⟩] k)] := by
      intro p hp
      simp only [List.mem_cons, List.not_mem_nil, or_false] at hp
      rcases hp with rfl | rfl | rfl
      · exact ⟨hl₁, (N9 _ (.head _)).2⟩
      · exact ⟨hx₁, (N9 _ (.tail _ (.head _))).2⟩
      · exact ⟨hdx₁, (N9 _ (.tail _ (.tail _ (.head _)))).2⟩
    clear hl₁ hx₁ hdx₁ hr9
    dsimp only
    iterate 2 walk1
    refine eval_ints g9 ?_ rfl rfl (by decide) rfl (by decide) rfl (by intro _; rfl)
    k_steps
    refine' values_C B9 Fh' X9 T9 rfl (by ktr_room) (by ktr_units) Nh (hr' trivial) (by rw [(hr' trivial).length]; exact hsz) ?_
    intro D kk ys h1 tk1 hD hg hT kp1
    have F1 := kp1.fr0 Fh'
    have N1 := kp1.news0 Nh
    refine ⟨D, kk, ys, (runAll st ds).map (·.1), _, _, rfl, F1, N1, hg, by rw [List.map_map]; exact hT, by rw [hT.length, List.length_map]; exact hsz, ?_, ?_⟩
    · intro C p t s₃ m₃ hp hn hmv F8 N8
      have hp5 : p < 5 := by
        obtain ⟨e, he, rfl⟩ := List.mem_map.mp hp
        exact (hr' trivial).lt e he
      k_steps
      exact ⟨_, _, rfl, fun _ _ e => e⟩
    · intro D' k' zs h2 tk2 hD' hg' hz kp2
      have F2 := kp2.fr0 F1
      have N2 := kp2.news0 N1
      k_steps
      have kq := keep_but GS9 F1 N N1 tab_but
      refine ret D' k' zs n₁ vs₁ h2 _ (none_but kq (N1.get (.head _)) hD') hg' (by rw [List.map_map] at hz; exact hz) (N2.get (.head _)) ?_ (keep_but GS9 F2 N N2 tab_but)
      exact (hr' trivial).keeps fun t vals ht => isTuple_keep kp2 (isTuple_keep kp1 ht (by simp)) (by simp)
end
end
section
open PySem PySem.W PyProof.Rows PySem.Spec PySem.Calls
theorem frame_has {h₀ h : Heap} {L : Addr} {m' : Str → Option Value} {x z : Str} {v v2 : Option Value} (F : Fr h₀ L h (fun y => if y = x then v else m' y)) (hz : m' z = v2) : Fr h₀ L h (fun y => if y = x then v else if y = z then v2 else m' y) := by
  have e : (fun y => if y = x then v else m' y) = fun y => if y = x then v else if y = z then v2 else m' y := by
    funext y
    by_cases h1 : y = x
    · simp [h1]
    · by_cases h2 : y = z
      · subst h2; simp [h1, hz]
      · simp [h1, h2]
  rw [← e]; exact F
theorem frame_has1 {h₀ h : Heap} {L : Addr} {m' : Str → Option Value} {z : Str} {v2 : Option Value} (F : Fr h₀ L h m') (hz : m' z = v2) : Fr h₀ L h (fun y => if y = z then v2 else m' y) := by
  have e : m' = fun y => if y = z then v2 else m' y := by
    funext y
    by_cases h2 : y = z
    · subst h2; simp [hz]
    · simp [h2]
  rw [← e]; exact F
def fac : Nat → Int
  | 0 => 1
  | n + 1 => (n + 1 : Int) * fac n
theorem orders_range (j : Int) (h0 : 0 ≤ j) (h5 : j ≤ 5) : Builtin.Range.small 2 (j + 1) 1 = true ∧ Builtin.Range.rangeSize 2 (j + 1) 1 = ((j - 1).toNat : Int) := by
  have : j = 0 ∨ j = 1 ∨ j = 2 ∨ j = 3 ∨ j = 4 ∨ j = 5 := by omega
  rcases this with rfl | rfl | rfl | rfl | rfl | rfl <;> decide
theorem fac_pred (j : Int) (h0 : 0 ≤ j) (h5 : j ≤ 5) : fac ((j - 1).toNat + 1) = fac j.toNat := by
  have : j = 0 ∨ j = 1 ∨ j = 2 ∨ j = 3 ∨ j = 4 ∨ j = 5 := by omega
  rcases this with rfl | rfl | rfl | rfl | rfl | rfl <;> decide
section
variable {prog : Program} {w : World} {A : Around} {E : Value → Shared → Prop} {R : Result → Shared → Prop} {env : Env} {px : Pos} {body : List Stmt} {m : Str → Option Value} {h₀ : Heap} {s : Shared} {x : Str} {I : Addr} {fp : List Addr} {n : Nat} {P : Nat → Value → Prop} {St : Nat → Heap → Prop}
/-- a loop by any walker: own are the walker's objects off the ground -/
theorem forWalk (W : Walks prog w A I fp [I] n P St) (J : Nat → Heap → Prop) (M : Nat → (Str → Option Value) → Prop) (hLf : env.locals ∉ fp) (hI0 : h₀.get? I = none) (hst : St 0 s.heap) (F : Fr h₀ env.locals s.heap m) (h0 : J 0 s.heap) (hm0 : M 0 m)
    (hJ : ∀ i h h', J i h → Keep [env.locals, I] h h' → J i h')
    (turn : ∀ (i : Nat) (v : Value) (h : Heap) (tk : Nat) (m' : Str → Option Value) (own : List (Addr × Obj)), i < n → P i v → J i h → M i m' → Fr h₀ env.locals h (fun y => if y = x then some v else m' y) → News h₀ env.locals h own → (∀ p ∈ own, p.1 ∈ fp) →
      wpAny (model prog w) A (execs body env) (fun f s' => match f with | .next => ∃ h' tk' m'', s' = { s with heap := h', toks := tk' } ∧ Fr h₀ env.locals h' m'' ∧ M (i + 1) m'' ∧ J (i + 1) h' ∧ News h₀ env.locals h' own | .ret v => R (.ok (.ret v)) s' | _ => False) (fun _ _ => False) { s with heap := h, toks := tk })
    (done : ∀ (h : Heap) (tk : Nat) (m' : Str → Option Value), J n h → M n m' → Fr h₀ env.locals h m' → R (.ok .next) { s with heap := h, toks := tk })
    (hx : env.kindOf x = some .local) (hp : (env.scope.kind == .class || (env.scope.kind == .module && env.locals != env.globals)) = false) :
    codeAny (model prog w) A (.forLoop (.Name x px) (.ref I) body [] env) R s := by
  have hIL : I ≠ env.locals := fun q => hLf (q ▸ W.sub I (.head _))
  refine codeAny_forLoop_any (fun k s' => ∃ h tk i m', s' = { s with heap := h, toks := tk } ∧ St i h ∧ Fr h₀ env.locals h m' ∧ M i m' ∧ J i h ∧ i ≤ n ∧ k = n + 1 - i) ?_ (n + 1)
    ⟨s.heap, s.toks, 0, m, rfl, hst, F, hm0, h0, Nat.zero_le _, rfl⟩
  rintro k s' ⟨h, tk, i, m', rfl, hst', F', hm', hj, hle, rfl⟩
  by_cases hlt : i < n
  · refine W.item i _ _ _ hlt hst' fun v h₁ tk₁ hP hst₁ hk₁ => ?_
    refine wpAny_pure ?_
    have k1 : Keep [I] h h₁ := fun b o e nn => hk₁ b o nn e
    have F₁ : Fr h₀ env.locals h₁ m' := k1.fr F' (by simpa using ⟨hIL, hI0⟩)
    refine wpAny_assign_Name (wpAny_storeName_local hx F₁.ns (fun h₂ hn₂ hs₂ => ?_) hp)
    replace hs₂ : Heap.SameBut env.locals h₁ h₂ := hs₂
    have F₂ := F₁.set hn₂ hs₂
    have k2 : Keep [env.locals, I] h h₂ := fun b o e nn => (hs₂.2 b (fun q => nn (by simp [q]))).trans (k1 b o e (fun q => nn (by simp at q; simp [q])))
    have hst₂ : St (i + 1) h₂ := W.frame _ _ _ hst₁ fun b hb o e => hs₂.extBut b o (fun q => hLf (q ▸ hb)) e
    refine wpAny_mono (turn i v h₂ _ m' (ownOf h₀ fp h₂) hlt hP (hJ _ _ _ hj k2) hm' F₂ (news_ownOf hLf) ownOf_sub) (fun f s₃ h₆ => ?_) fun _ _ e => e.elim
    cases f with
    | ret v => exact h₆
    | brk => exact h₆.elim
    | cont => exact h₆.elim
    | next =>
      obtain ⟨h', tk', m'', rfl, F'', hm'', hj'', N''⟩ := h₆
      refine ⟨n + 1 - (i + 1), by omega, h', tk', i + 1, m'', rfl, W.frame _ _ _ hst₂ fun b hb o e => ?_, F'', hm'', hj'', hlt, rfl⟩
      cases hn : h₀.get? b with
      | some o₀ =>
        have : o₀ = o := by have q := F₂.keep b o₀ hn; rw [e] at q; exact (Option.some.inj q).symm
        exact this ▸ F''.keep b o₀ hn
      | none => exact (N'' _ (mem_ownOf hb hn e)).1
  · have hin : i = n := by omega
    subst hin
    refine W.done _ _ _ hst' fun h₁ tk₁ hk₁ => wpAny_execs_nil ?_
    have k1 : Keep [I] h h₁ := fun b o e nn => hk₁ b o nn e
    exact done h₁ _ m' (hJ _ _ _ hj (k1.mono (by simp))) hm' (k1.fr F' (by simpa using ⟨hIL, hI0⟩))
/-- a loop over a range object of the ledger -/
theorem forRange {r : Addr} {a b c : Int} {t u v : Tok} (J : Nat → Heap → Prop) (M : Nat → (Str → Option Value) → Prop) (F : Fr h₀ env.locals s.heap m) (hr : IsRange s.heap r a b c t u v) (hsmall : Builtin.Range.small a b c = true) (hn : (Builtin.Range.rangeSize a b c) = (n : Int)) (h0 : J 0 s.heap) (hm0 : M 0 m)
    (hJ : ∀ i h h', J i h → Keep [env.locals, s.heap.objs.size] h h' → J i h')
    (turn : ∀ (i : Nat) (tt : Tok) (h : Heap) (tk : Nat) (m' : Str → Option Value) (own : List (Addr × Obj)), i < n → J i h → M i m' → Fr h₀ env.locals h (fun y => if y = x then some (.int (a + i * c) tt) else m' y) → News h₀ env.locals h own → (∀ p ∈ own, p.1 = s.heap.objs.size) →
      wpAny (model prog w) A (execs body env) (fun f s' => match f with | .next => ∃ h' tk' m'', s' = { s with heap := h', toks := tk' } ∧ Fr h₀ env.locals h' m'' ∧ M (i + 1) m'' ∧ J (i + 1) h' ∧ News h₀ env.locals h' own | .ret v => R (.ok (.ret v)) s' | _ => False) (fun _ _ => False) { s with heap := h, toks := tk })
    (done : ∀ (h : Heap) (tk : Nat) (m' : Str → Option Value), J n h → M n m' → Fr h₀ env.locals h m' → R (.ok .next) { s with heap := h, toks := tk })
    (hh : A.handled = none) (hx : env.kindOf x = some .local) (hp : (env.scope.kind == .class || (env.scope.kind == .module && env.locals != env.globals)) = false) :
    wpAny (model prog w) A (pyIter (.ref r)) (fun it s₂ => codeAny (model prog w) A (.forLoop (.Name x px) it body [] env) R s₂) E s := by
  refine wpAny_pyIter_range hr hsmall ?_
  have hLlt := ltN F.ns.lt
  have kp0 : ∀ o, Keep [] s.heap (s.heap.push o) := fun o b o' e _ => Heap.get?_push_of_some _ e
  have hI0 : h₀.get? s.heap.objs.size = none := by
    cases e : h₀.get? s.heap.objs.size with
    | none => rfl
    | some o => exact absurd (Heap.lt_size (F.keep _ _ e)) (Nat.lt_irrefl _)
  rw [hn]
  refine forWalk (s := { s with heap := _ }) (Walks.range (prog := prog) (w := w) hh s.heap.objs.size a c n) J M (m := m) (h₀ := h₀) ?_ hI0 ?_ ((kp0 _).fr0 F) (hJ _ _ _ h0 ((kp0 _).mono (by simp))) hm0 hJ ?_ done hx hp
  · simp only [List.mem_singleton]; exact neN (by omega)
  · show IsRangeIter _ _ _ _ _
    simp only [Int.natCast_zero, Int.zero_mul, Int.add_zero, Int.sub_zero]
    exact Heap.get?_push_size _ rfl
  · rintro i v h tk m' own hi ⟨tt, rfl⟩ hj hm Fh No hown
    exact turn i tt h tk m' own hi hj hm Fh No (fun p hp => by simpa using hown p hp)
end
end
section
open PySem PySem.W PyProof.Rows PySem.Spec PySem.Calls PySem.Builtin PySem.Builtin.Str
section
variable {w : World} {p : Program} {loose : List Str} {mean : ExcName → Option Value} {mg mb : Str → Option Value} {dp un : Nat} {gd : Option (List Code)} {cn : Str} {cs : Scope} {a : Addr} {ccd : Value} {cl : List (Str × Addr)} {outer : List Env} {A₀ : Around} {base h₀ : Heap} {L : Addr} {m : Str → Option Value} {s : Shared} {Q E : Value → Shared → Prop}
theorem orders_C {j : Int} {t0 : Tok} (B : Below A₀ base outer h₀) (F : Fr h₀ L s.heap m) (X : (hd.heap_39 w.params).In h₀) (T : Top p loose mean mg mb h₀) (hk : cs.kind = .function) (hd : dp + 1 < recursionLimit) (hu : un + 8 < cLine) (hj0 : 0 ≤ j) (hj5 : j ≤ 5)
    (ret : ∀ t h' tk', Keep [] s.heap h' → Q (.int (fac j.toNat) t) { s with heap := h', toks := tk' }) :
    wpAny (model PR w) (ktrTop dp un gd cn cs L a ccd cl outer) (call (.ref 230) [.int j t0]) Q E s := by
  have N : News h₀ L s.heap [] := News.nil
  refine wpAny_call ?_
  k_dflt (walk_at "my enter")
  rename_i g9 L9 h9 FG9 F9 N9 B9 X9 T9 GS9
  refine wpAny_mono (E := fun _ _ => False) ?_ (fun _ _ h => h) (fun _ _ h => h.elim)
  iterate 6 walk1
  refine wpAny_For ?_ (by intro _; rfl)
  k_steps
  (rename Fr _ _ _ _ => F1)
  (rename IsRange _ _ _ _ _ _ _ _ => hr1)
  have ho := orders_range j hj0 hj5
  refine' forRange (n := (j - 1).toNat) (fun _ _ => True) (fun i m' => ∃ t, m' (Str.ofString "many") = some (.int (fac (i + 1)) t)) F1 hr1 ho.1 ho.2 trivial ⟨_, rfl⟩ (fun _ _ _ _ _ => trivial) ?a1 ?a2 rfl rfl rfl
  case a1 =>
    rintro i tt h tk' m' own hi _ ⟨t, hm⟩ Fh No hown
    have Fh' := frame_has Fh hm
    clear Fh
    have hi4 : i = 0 ∨ i = 1 ∨ i = 2 ∨ i = 3 := by omega
    rcases hi4 with rfl | rfl | rfl | rfl
    all_goals (
      iterate 6 walk1
      refine wpAny_execs_nil ?_
      refine' ⟨_, _, _, rfl, by k_asm, ⟨?tok, ?hv⟩, trivial, by k_asm⟩
      case hv =>
        refine (if_pos rfl).trans ?_
        first | rfl | exact congrArg (fun z => some (Value.int z _)) (by decide))
  case a2 =>
    rintro h tk' m' _ ⟨t, hm⟩ Fh
    have Fh' := frame_has1 Fh hm
    have Nh : News g9 L9 h [] := News.nil
    dsimp only
    k_steps
    rw [fac_pred j hj0 hj5]
    exact ret _ _ _ (keep_of GS9 Fh')
end
end
section
open PySem PySem.W PyProof.Rows PySem.Spec PySem.Calls
/-- the def that stands as the k-th statement of the def x of the text -/
def defIn (x : Str) (k : Nat) : Option (Arguments × List Stmt × Scope) :=
  match PySem.Challenge.pw_ny0257_02.main.body.findSome? (fun st => match st with | .FunctionDef n _ b _ _ _ _ _ _ _ => if n == x then some b else none | _ => none) with
  | some b => match (b[k]? : Option Stmt) with
    | some (Stmt.FunctionDef _ a b _ _ _ sc _ _ _) => some (a, b, sc)
    | _ => none
  | none => none
def inPair : { b : Arguments × List Stmt × Scope // defIn (Str.ofString "_int2digits") 1 = some b } := ⟨_, by
  conv => lhs; whnf⟩
section
variable {prog : Program} {w : World} {A A₀ : Around} {s : Shared} {K : Frag} {L : Addr} {h₀ base : Heap} {m mg mb : Str → Option Value} {news : List (Addr × Obj)} {p : Program} {loose : List Str} {mean : ExcName → Option Value}
/-- a def made in a body is entered -/
theorem enterNestG {env : Env} {outer : List Env} {R : Result → Shared → Prop} {name qual : Str} {params : Arguments} {body : List Stmt} {scope : Scope} {cl : List (Str × Addr)} {doc pm ctv : Value} {c' : Addr} {f : Addr} {args : Args} {binds : List (Str × Value)}
    (B : Below A₀ base outer h₀) (F : Fr h₀ L s.heap m) (X₀ : K.In h₀) (N : News h₀ L s.heap news) (T : Top p loose mean mg mb h₀) (hA : A.frames = some (env :: outer)) (hf : env.frame = some L) (hke : env.scope.kind = .function)
    (ho : (f, fnMade name qual params body scope cl doc pm c' ctv) ∈ news) (hcd : s.heap.CodeRec (.ref c') qual) (hroom : A.depth < recursionLimit)
    (hbind : BindsTo s (fnX name qual params body scope cl .none .none doc pm none (.ref c') ctv) args binds) (hloc : ∀ y ∈ binds, scope.names.lookup y.1 = some .local)
    (h : ∀ g L' h₁, Fr h₀ L g m → Fr g L' h₁ (fun y => binds.reverse.lookup y) → News g L' h₁ news → Below A base (env :: outer) g → K.In g → Top p loose mean mg mb g → GSub s.heap g (news.map (·.1)) →
      wpAny (model prog w) (A.deeper (envX qual scope L' f (.ref c') cl)) (execs body (envX qual scope L' f (.ref c') cl))
        (fun fl s' => LeaveK h₀ L m g R (match fl with | .ret v => v | _ => .none) s')
        (fun e s' => wpAny (model prog w) (A.deeper (envX qual scope L' f (.ref c') cl)) (leaving (envX qual scope L' f (.ref c') cl) e) (fun _ s'' => R (.error e) s'') (fun e' s'' => R (.error e') s'') s')
        { s with heap := h₁, toks := s.toks + binds.length })
    (hco : scope.isCoroutine = false) (hgen : scope.isGenerator = false) (hk : scope.kind = .function)
    (hcell : ∀ x ∈ scope.names, x.2 ≠ .cell) : codeAny (model prog w) A (.call (.ref f) args) R s := by
  obtain ⟨FG, BG, st, lv⟩ := groundX (R := R) B F N hA hf hke
  refine codeAny_call_def (fd := fnX name qual params body scope cl .none .none doc pm none (.ref c') ctv) (body := body) (binds := binds) hroom (N _ ho).1 rfl (T.nolimit.keeps F.keep) hcd rfl hbind hcell hloc (fun h₁ hns hk₁ => ?_) hco hgen hk
  exact wpAny_mono (h _ s.heap.objs.size h₁ FG ⟨hns, fun b o e => hk₁ b o (of_hideAll _ e), Nat.le_of_eq (hideAll_size _ _)⟩
    (fun q hq => ⟨hk₁ _ _ (N q hq).1, Nat.ne_of_lt (Heap.lt_size (N q hq).1), hideAll_none _ (List.mem_map_of_mem hq)⟩) BG (X₀.keeps st) (T.keeps st) (fun b o e n => hideAll_get _ e n)) (fun fl s' hl => lv _ _ hl) fun _ _ y => y
end
/-- the numerals of x to the base 2 ^ n, k of them, the least first -/
def digs (n : Nat) : Nat → Int → List Int
  | 0, _ => []
  | k + 1, x => x % 2 ^ n :: digs n k (x / 2 ^ n)
end
section
open PySem PySem.W PyProof.Rows PySem.Spec PySem.Calls
theorem and_high (a k : Nat) : a &&& (a / 2 ^ k) * 2 ^ k = (a / 2 ^ k) * 2 ^ k := by
  rw [← Nat.shiftLeft_eq, ← Nat.shiftRight_eq_div_pow]
  apply Nat.eq_of_testBit_eq
  intro i
  simp only [Nat.testBit_and, Nat.testBit_shiftLeft, Nat.testBit_shiftRight]
  by_cases h : i ≥ k
  · have e : k + (i - k) = i := by omega
    simp [h, e]
  · simp [h]
theorem or_high (a k : Nat) : a ||| (a / 2 ^ k) * 2 ^ k = a := by
  rw [← Nat.shiftLeft_eq, ← Nat.shiftRight_eq_div_pow]
  apply Nat.eq_of_testBit_eq
  intro i
  simp only [Nat.testBit_or, Nat.testBit_shiftLeft, Nat.testBit_shiftRight]
  by_cases h : i ≥ k
  · have e : k + (i - k) = i := by omega
    simp [h, e]
  · simp [h]
theorem xor_nat (a b : Nat) : Builtin.bitXor (a : Int) (b : Int) = ((a ||| b : Nat) : Int) - ((a &&& b : Nat) : Int) := by
  have n1 : ∀ z : Nat, Builtin.bitNot (z : Int) = -(z : Int) - 1 := fun z => by unfold Builtin.bitNot; omega
  have n2 : ∀ z : Nat, Builtin.bitNot (-(z : Int) - 1) = (z : Int) := fun z => by unfold Builtin.bitNot; omega
  unfold Builtin.bitXor Builtin.bitOr
  rw [n1, n1]
  have e1 : Builtin.bitAnd (a : Int) (b : Int) = ((a &&& b : Nat) : Int) := by
    unfold Builtin.bitAnd
    rw [decide_eq_true (show (0 : Int) ≤ a by omega), decide_eq_true (show (0 : Int) ≤ b by omega)]
    simp
  have e2 : Builtin.bitAnd (-(a : Int) - 1) (-(b : Int) - 1) = Builtin.bitNot ((a ||| b : Nat) : Int) := by
    unfold Builtin.bitAnd
    rw [decide_eq_false (show ¬ (0 : Int) ≤ -(a : Int) - 1 by omega), decide_eq_false (show ¬ (0 : Int) ≤ -(b : Int) - 1 by omega)]
    simp only [n2, Int.toNat_natCast]
  rw [e1, e2, n1, n2]
theorem xor_high {x : Int} (h : 0 ≤ x) (k : Nat) : Builtin.bitXor x ((x / 2 ^ k) * 2 ^ k) = x % 2 ^ k := by
  obtain ⟨X, rfl⟩ := Int.eq_ofNat_of_zero_le h
  have e : ((X : Int) / 2 ^ k) * 2 ^ k = ((X / 2 ^ k * 2 ^ k : Nat) : Int) := by push_cast; rfl
  rw [e, xor_nat, and_high, or_high]
  have d : X / 2 ^ k * 2 ^ k + X % 2 ^ k = X := Nat.div_add_mod' X (2 ^ k)
  have e3 : ((X % 2 ^ k : Nat) : Int) = (X : Int) % 2 ^ k := by push_cast; rfl
  omega
theorem digs_len (n : Nat) : ∀ (k : Nat) (x : Int), (digs n k x).length = k
  | 0, _ => rfl
  | k + 1, x => congrArg (· + 1) (digs_len n k _)
theorem digs_split (n : Nat) : ∀ (c d : Nat) (X : Nat), digs n (c + d) (X : Int) = digs n c ((X : Int) % 2 ^ (c * n)) ++ digs n d ((X : Int) / 2 ^ (c * n))
  | 0, d, X => by simp [digs]
  | c + 1, d, X => by
    have e : c + 1 + d = (c + d) + 1 := by omega
    rw [e]
    show (X : Int) % 2 ^ n :: digs n (c + d) ((X : Int) / 2 ^ n) = ((X : Int) % 2 ^ ((c + 1) * n)) % 2 ^ n :: (digs n c (((X : Int) % 2 ^ ((c + 1) * n)) / 2 ^ n) ++ digs n d ((X : Int) / 2 ^ ((c + 1) * n)))
    have p : (2 : Nat) ^ ((c + 1) * n) = 2 ^ n * 2 ^ (c * n) := by rw [← Nat.pow_add]; congr 1; rw [Nat.succ_mul]; omega
    have c1 : (X : Int) / 2 ^ n = ((X / 2 ^ n : Nat) : Int) := by push_cast; rfl
    have c2 : ((X : Int) % 2 ^ ((c + 1) * n)) % 2 ^ n = (X : Int) % 2 ^ n := by
      have := Nat.mod_mul_right_mod X (2 ^ n) (2 ^ (c * n))
      rw [← p] at this
      exact_mod_cast this
    have c3 : ((X : Int) % 2 ^ ((c + 1) * n)) / 2 ^ n = ((X / 2 ^ n : Nat) : Int) % 2 ^ (c * n) := by
      have := Nat.mod_mul_right_div_self X (2 ^ n) (2 ^ (c * n))
      rw [← p] at this
      exact_mod_cast this
    have c4 : (X : Int) / 2 ^ ((c + 1) * n) = ((X / 2 ^ n : Nat) : Int) / 2 ^ (c * n) := by
      have := Nat.div_div_eq_div_mul X (2 ^ n) (2 ^ (c * n))
      rw [← p] at this
      exact_mod_cast this.symm
    rw [c2, c3, c4, c1, digs_split n c d (X / 2 ^ n)]
theorem set_one {ds : List Int} {x : Int} {lo nb : Nat} (h : lo < ds.length) (h0 : 0 ≤ x) (h1 : x < 2 ^ (nb * 1)) : ds.set (lo : Int).toNat x = ds.take lo ++ digs nb 1 x ++ ds.drop (lo + 1) := by
  show ds.set lo x = ds.take lo ++ [x % 2 ^ nb] ++ ds.drop (lo + 1)
  rw [Int.emod_eq_of_lt h0 (by simpa using h1), List.set_eq_take_append_cons_drop, if_pos h]
  simp
theorem glue {ds : List Int} {x : Int} {lo c d nb : Nat} (h : lo + (c + d) ≤ ds.length) (h0 : 0 ≤ x) :
    (ds.take lo ++ digs nb c (x % 2 ^ (c * nb)) ++ ds.drop (lo + c)).take (lo + c) ++ digs nb d (x / 2 ^ (c * nb)) ++ (ds.take lo ++ digs nb c (x % 2 ^ (c * nb)) ++ ds.drop (lo + c)).drop (lo + (c + d)) = ds.take lo ++ digs nb (c + d) x ++ ds.drop (lo + (c + d)) := by
  obtain ⟨X, rfl⟩ := Int.eq_ofNat_of_zero_le h0
  have hl : (ds.take lo ++ digs nb c ((X : Int) % 2 ^ (c * nb))).length = lo + c := by
    rw [List.length_append, List.length_take, digs_len]; omega
  rw [List.take_append_of_le_length (by omega), List.take_of_length_le (by omega), List.drop_append, hl, List.drop_of_length_le (by omega)]
  rw [List.nil_append, List.drop_drop]
  have : lo + c + (lo + (c + d) - (lo + c)) = lo + (c + d) := by omega
  rw [this, digs_split]
  simp
theorem glue_len {ds : List Int} {x : Int} {lo c d nb : Nat} (h : lo + (c + d) ≤ ds.length) : (ds.take lo ++ digs nb c x ++ ds.drop (lo + c)).length = ds.length := by
  rw [List.length_append, List.length_append, List.length_take, digs_len, List.length_drop]; omega
theorem half_int (lo hi sz : Nat) (h : hi = lo + sz) : ((lo : Int) + (hi : Int)).fdiv (2 ^ Int.toNat 1) = ((lo + sz / 2 : Nat) : Int) := by
  subst h
  show ((lo : Int) + ((lo + sz : Nat) : Int)).fdiv 2 = _
  rw [Int.fdiv_eq_ediv_of_nonneg _ (by omega)]
  omega
theorem lt_high {x : Int} {a b : Nat} (h0 : 0 ≤ x) (h : x < 2 ^ (a + b)) : x / 2 ^ a < 2 ^ b := by
  apply Int.ediv_lt_of_lt_mul (by exact_mod_cast Nat.two_pow_pos a)
  rw [← Int.pow_add, Nat.add_comm]; exact h
end
local macro_rules | `(tactic| walk_at "my enterN") => `(tactic| (refine' enterNestG ?k1 ?k2 ?k3 ?k4 ?k5 ?kA ?kF ?kK ?k6 ?k7 ?k8 ?k9 ?kB ?_ ?c2 ?c3 ?c4 ?c5; (case kA => exact rfl); (case kF => exact rfl); (case kK => first | exact rfl | assumption); (case k1 => k_asm); (case k2 => k_asm); (case k3 => k_asm); (case k4 => k_asm); (case k5 => k_asm); (case k6 => k_mem); (case k7 => exact codeRec_news (by k_asm) (by k_mem) (by assumption) (by assumption)); (case k8 => ktr_room); (case k9 => exact BindsTo.of_eq rfl); (case c5 => decide); (case kB => exact locs rfl); (case c2 => exact rfl); (case c3 => exact rfl); (case c4 => exact rfl); k_whole; intro g' L' h' FG' F' N' B' X' T' GS'; (try dsimp only); (try k_lift B'); (try k_fold)))
section
open PySem PySem.W PyProof.Rows PySem.Spec PySem.Calls PySem.Builtin PySem.Builtin.Str
section
variable {w : World} {p : Program} {loose : List Str} {mean : ExcName → Option Value} {mg mb : Str → Option Value} {dp un : Nat} {gd : Option (List Code)} {cn : Str} {cs : Scope} {a : Addr} {ccd : Value} {cl : List (Str × Addr)} {outer : List Env} {A₀ : Around} {base h₀ : Heap} {L : Addr} {m : Str → Option Value} {s : Shared} {Q E : Value → Shared → Prop}
theorem shl_fits {up : Int} {a b : Nat} (h0 : 0 ≤ up) (h : up < 2 ^ b) (ha : a ≤ 1000) (hb : b ≤ 1000) : (Builtin.Int.intBits up : Int) + ((a : Nat) : Int) ≤ 2 ^ 27 := by
  have e : Builtin.Int.intBits up ≤ b := intBits_le (by
    obtain ⟨U, rfl⟩ := Int.eq_ofNat_of_zero_le h0
    rw [Int.natAbs_natCast]; exact_mod_cast h)
  have : (2 : Int) ^ 27 = 134217728 := by decide
  omega
theorem head_but {l : Addr} {o o' : Obj} {rest : List (Addr × Obj)} : ∀ p ∈ (l, o) :: rest, p.1 ∉ [l] → p ∈ (l, o') :: rest := by
  intro p hp hn
  rcases List.mem_cons.mp hp with rfl | hp
  · exact absurd (List.mem_singleton.mpr rfl) hn
  · exact .tail _ hp
theorem head_set {g h h' : Heap} {L l : Addr} {o o' : Obj} {rest : List (Addr × Obj)} (N : News g L h ((l, o) :: rest)) (hr : ∀ p ∈ rest, p.1 ≠ l) (kp : Keep [l] h h') (e : h'.get? l = some o') : News g L h' ((l, o') :: rest) := by
  intro p hp
  rcases List.mem_cons.mp hp with rfl | hp
  · exact ⟨e, (N _ (List.Mem.head _)).2⟩
  · exact ⟨kp _ _ (N p (.tail _ hp)).1 (by simpa using hr p hp), (N p (.tail _ hp)).2⟩
theorem head_fr {g h h' : Heap} {L l : Addr} {m : Str → Option Value} {o : Obj} {rest : List (Addr × Obj)} (F : Fr g L h m) (N : News g L h ((l, o) :: rest)) (kp : Keep [l] h h') : Fr g L h' m :=
  kp.fr F (fun a ha => by simp only [List.mem_singleton] at ha; subst ha; exact (N _ (List.Mem.head _)).2)
theorem inRest {g h : Heap} {L dl f c' ca ci cn' : Addr} {its : Array Value} {k : Nat} {oc oa oi on : Obj} {vsc : Array Value} {v1 v2 v3 : Option Value} {name qual : Str} {params : Arguments} {body : List Stmt} {scope : Scope} {cl : List (Str × Addr)} {doc pm ctv : Value}
    (hoc : oc.data = .fields vsc) (hoa : oa.data = .cell v1) (hoi : oi.data = .cell v2) (hon : on.data = .cell v3)
    (N : News g L h [(dl, listOf its k), (f, fnMade name qual params body scope cl doc pm c' ctv), (c', oc), (ca, oa), (ci, oi), (cn', on)]) :
    ∀ p ∈ [(f, fnMade name qual params body scope cl doc pm c' ctv), (c', oc), (ca, oa), (ci, oi), (cn', on)], p.1 ≠ dl := by
  intro p hp e
  have z := (N p (.tail _ hp)).1
  rw [e, (N _ (List.Mem.head _)).1] at z
  have z' := congrArg Obj.data (Option.some.inj z)
  simp only [List.mem_cons, List.not_mem_nil, or_false] at hp
  rcases hp with rfl | rfl | rfl | rfl | rfl
  · cases z'
  · rw [hoc] at z'; cases z'
  · rw [hoa] at z'; cases z'
  · rw [hoi] at z'; cases z'
  · rw [hon] at z'; cases z'
theorem inner_C {f c' dl ca ci cn' : Addr} {oc oa oi on fo : Obj} {vsc : Array Value} {qual : Str} {tq tn : Tok} {dc pm ct : Value} {nb : Nat} (hnb : 1 ≤ nb) (hnb7 : nb ≤ 7) (hfo : fo = fnMade (Str.ofString "inner") qual inPair.1.1 inPair.1.2.1 inPair.1.2.2 [(Str.ofString "n", cn'), (Str.ofString "inner", ci), (Str.ofString "a_digits", ca)] dc pm c' ct) (hoc : oc.data = .fields vsc) (hvc : vsc[1]? = some (.str qual tq)) (hoa : oa.data = .cell (some (.ref dl))) (hoi : oi.data = .cell (some (.ref f))) (hon : on.data = .cell (some (.int nb tn))) :
    ∀ (sz : Nat) {dp un : Nat} {gd : Option (List Code)} {cn : Str} {cs : Scope} {a : Addr} {ccd : Value} {cl : List (Str × Addr)} {outer : List Env} {A₀ : Around} {base h₀ : Heap} {L : Addr} {m : Str → Option Value} {s : Shared} {Q E : Value → Shared → Prop} {x : Int} {lo hi : Nat} {tx tl tr : Tok} {items : List Value} {ds : List Int} {k : Nat}
      (B : Below A₀ base outer h₀) (F : Fr h₀ L s.heap m) (X : (hd.heap_39 w.params).In h₀) (T : Top p loose mean mg mb h₀) (hk : cs.kind = .function) (hd : dp + sz < recursionLimit) (hu : un + 8 * sz < cLine)
      (N : News h₀ L s.heap [(dl, listOf items.toArray k), (f, fo), (c', oc), (ca, oa), (ci, oi), (cn', on)])
      (hi1 : IntsAre items ds) (hsz : hi = lo + sz) (hs1 : 1 ≤ sz) (hhi : hi ≤ ds.length) (h40 : ds.length ≤ 100) (hx0 : 0 ≤ x) (hx1 : x < 2 ^ (nb * sz))
      (ret : ∀ items' k' h' tk', h'.get? dl = some (listOf items'.toArray k') → IntsAre items' (ds.take lo ++ digs nb sz x ++ ds.drop hi) → Keep [dl] s.heap h' → Q .none { s with heap := h', toks := tk' }),
      wpAny (model PR w) (ktrTop dp un gd cn cs L a ccd cl outer) (call (.ref f) [.int x tx, .int lo tl, .int hi tr]) Q E s := by
  intro sz
  induction sz using Nat.strongRecOn with
  | _ sz ih =>
  intro dp un gd cn cs a ccd cl outer A₀ base h₀ L m s Q E x lo hi tx tl tr items ds k B F X T hk hd hu N hi1 hsz hs1 hhi h40 hx0 hx1 ret
  have hx1' : True → x < 2 ^ (nb * sz) := fun _ => hx1
  have ih' : True → _ := fun _ => ih
  clear hx1 ih
  have hfo2 := hfo
  dsimp only [inPair] at hfo2
  subst hfo2
  clear hfo
  refine wpAny_call ?_
  k_dflt (walk_at "my enterN")
  rename_i g9 L9 h9 FG9 F9 N9 B9 X9 T9 GS9
  refine wpAny_mono (E := fun _ _ => False) ?_ (fun _ _ h => h) (fun _ _ h => h.elim)
  iterate 12 walk1
  · rename_i heq
    iterate 4 walk1
    ((rename News _ _ _ _ => N1); refine nameX_F N1 (c := ca) (o := oa) rfl (.tail _ (.tail _ (.tail _ (.head _)))) hoa ?_ rfl rfl; (try dsimp only))
    iterate 1 walk1
    rename Fr _ _ _ _ => F1
    have hlen : items.length = ds.length := hi1.length
    refine' ksa_set F1 N1 (.head (inRest hoc hoa hoi hon N1)) hi1 (by omega) (by omega) (by omega) ?_
    intro h8 F8 N8 hi8 hl8 hs8
    have kp := keep_but GS9 F8 N N8 head_but
    have hg8 := (N8 _ (List.Mem.head _)).1
    have hsz1 : sz = 1 := by omega
    have hx2 := hx1' trivial
    subst hsz1
    have hfin : ds.set (lo : Int).toNat x = ds.take lo ++ digs nb 1 x ++ ds.drop hi := by rw [hsz]; exact set_one (by omega) hx0 hx2
    rw [hfin] at hi8
    clear N1 F1 hs8 hl8 ih' hx2 hx1' hfin
    have r8 := ret _ _ h8 tk hg8 hi8 kp
    clear ret hg8 hi8 kp
    k_steps
    exact r8
  · rename_i hne
    have hne' : sz ≠ 1 := by rintro rfl; apply hne; omega
    obtain ⟨c, d, hcd, hc1, hd1, hc2⟩ : ∃ c d, sz = c + d ∧ 1 ≤ c ∧ 1 ≤ d ∧ sz / 2 = c := ⟨sz / 2, sz - sz / 2, by omega, by omega, by omega, rfl⟩
    iterate 9 walk1
    refine rshift_int (by decide) ?_
    rw [half_int lo hi sz hsz, hc2]
    iterate 8 walk1
    rw [show ((lo + c : Nat) : Int) - (lo : Int) = (c : Int) by omega]
    ((rename News _ _ _ _ => N1); refine nameX_F N1 (c := cn') (o := on) rfl (.tail _ (.tail _ (.tail _ (.tail _ (.tail _ (.head _)))))) hon ?_ rfl rfl; (try dsimp only))
    walk1
    rw [show (c : Int) * (nb : Int) = ((c * nb : Nat) : Int) from (Int.natCast_mul c nb).symm]
    iterate 7 walk1
    refine rshift_int (by omega) ?_
    rw [Int.toNat_natCast, Int.fdiv_eq_ediv_of_nonneg _ (by exact_mod_cast Nat.zero_le (2 ^ (c * nb)))]
    obtain ⟨up, hup⟩ : ∃ up, up = x / 2 ^ (c * nb) := ⟨_, rfl⟩
    rw [← hup]
    have hup' : True → up = x / 2 ^ (c * nb) := fun _ => hup
    clear hup
    iterate 8 walk1
    have cb : c * nb ≤ 1000 := Nat.le_trans (Nat.mul_le_mul (show c ≤ 100 by omega) hnb7) (by decide)
    have db : d * nb ≤ 1000 := Nat.le_trans (Nat.mul_le_mul (show d ≤ 100 by omega) hnb7) (by decide)
    have hx2 : x < 2 ^ (c * nb + d * nb) := by
      have := hx1' trivial
      rw [hcd, Nat.mul_comm, Nat.add_mul] at this
      exact this
    have up0 : 0 ≤ up := by rw [hup' trivial]; exact Int.ediv_nonneg hx0 (by exact_mod_cast Nat.zero_le (2 ^ (c * nb)))
    have up1 : up < 2 ^ (d * nb) := by rw [hup' trivial]; exact lt_high hx0 hx2
    refine lshift_int (by omega) (shl_fits up0 up1 cb db) ?_
    refine xor_int ?_
    rw [Int.toNat_natCast]
    obtain ⟨low, hlow⟩ : ∃ low, low = x % 2 ^ (c * nb) := ⟨_, rfl⟩
    rw [show Builtin.bitXor x (up * 2 ^ (c * nb)) = low by rw [hlow, hup' trivial]; exact xor_high hx0 _]
    have low0 : 0 ≤ low := by rw [hlow]; exact Int.emod_nonneg _ (by exact_mod_cast Nat.ne_of_gt (Nat.two_pow_pos (c * nb)))
    have low1 : low < 2 ^ (c * nb) := by rw [hlow]; exact Int.emod_lt_of_pos _ (by exact_mod_cast (Nat.two_pow_pos (c * nb)))
    have low1' : True → low < 2 ^ (nb * c) := fun _ => by rw [Nat.mul_comm]; exact low1
    have up1' : True → up < 2 ^ (nb * d) := fun _ => by rw [Nat.mul_comm]; exact up1
    have hlow' : True → low = x % 2 ^ (c * nb) := fun _ => hlow
    clear low1 up1 hlow hx2 cb db
    iterate 4 walk1
    ((rename News _ _ _ _ => N1); refine nameX_F N1 (c := ci) (o := oi) rfl (.tail _ (.tail _ (.tail _ (.tail _ (.head _))))) hoi ?_ rfl rfl; (try dsimp only))
    refine' callWith_F (FnAt.of N1 (.tail _ (.head _))) ?_
    iterate 7 walk1
    refine ⟨FnAt.of N1 (.tail _ (.head _)), ?_⟩
    (rename Fr _ _ _ _ => F1)
    refine' ih' trivial c (by omega) B9 F1 X9 T9 rfl (by show dp + 1 + c < recursionLimit; omega) (by show un + 3 + 8 * c < cLine; omega) N1 hi1 rfl hc1 (by omega) h40 low0 (low1' trivial) ?_
    intro items1 k1 h1 tk1 hg1 hi2 kp1
    have F2 := head_fr F1 N1 kp1
    have N2 := head_set N1 (inRest hoc hoa hoi hon N1) kp1 hg1
    have hi2' : True → _ := fun _ => hi2
    clear hi2 hg1 kp1 F1 N1
    dsimp only
    iterate 3 walk1
    ((rename News _ _ _ _ => N1); refine nameX_F N1 (c := ci) (o := oi) rfl (.tail _ (.tail _ (.tail _ (.tail _ (.head _))))) hoi ?_ rfl rfl; (try dsimp only))
    refine' callWith_F (FnAt.of N1 (.tail _ (.head _))) ?_
    iterate 7 walk1
    refine ⟨FnAt.of N1 (.tail _ (.head _)), ?_⟩
    (rename Fr _ _ _ _ => F1)
    refine' ih' trivial d (by omega) B9 F1 X9 T9 rfl (by show dp + 1 + d < recursionLimit; omega) (by show un + 3 + 8 * d < cLine; omega) N1 (hi2' trivial) (by omega) hd1 (by rw [glue_len (d := d) (by omega)]; exact hhi) (by rw [glue_len (d := d) (by omega)]; exact h40) up0 (up1' trivial) ?_
    intro items3 k3 h3 tk3 hg3 hi3 kp3
    have F4 := head_fr F1 N1 kp3
    have N4 := head_set N1 (inRest hoc hoa hoi hon N1) kp3 hg3
    have kp := keep_but GS9 F4 N N4 head_but
    clear F1 N1 kp3
    rw [hlow' trivial, hup' trivial] at hi3
    have hh : hi = lo + (c + d) := by omega
    rw [hh, glue (by omega) hx0, ← hcd, ← hsz] at hi3
    have r8 := fun tk => ret _ _ h3 tk hg3 hi3 kp
    clear ret hg3 hi3 kp
    dsimp only
    k_steps
    exact r8 _
end
end
section
open PySem PySem.W PyProof.Rows PySem.Spec PySem.Calls
/-- the table of a def with one def inside: still bare, or with the inner def's code object in it -/
inductive Tab2 (t : Addr) (ln : Int) (qual : Str) : List (Addr × Obj) → Prop
  | nil : Tab2 t ln qual [(t, tabObj #[])]
  | one {c' : Addr} {oc : Obj} {vsc : Array Value} {tq : Tok} : oc.data = .fields vsc → vsc[1]? = some (.str qual tq) → Tab2 t ln qual [(t, tabObj #[rawInt ln, rawInt 4, .ref c']), (c', oc)]
theorem i2d_sz {j : Int} {nb sz : Nat} (h0 : 0 ≤ j) (h1 : j < 10 ^ 30) (hnb : 1 ≤ nb) (hnb7 : nb ≤ 7) (hsz : (Builtin.Int.intBits j + nb - 1) / nb = sz) :
    ((Builtin.Int.intBits j : Int) + (nb : Int) - 1).fdiv (nb : Int) = (sz : Int) ∧ sz ≤ 100 ∧ j < 2 ^ (nb * sz) ∧ (j = 0 → sz = 0) ∧ (j ≠ 0 → 1 ≤ sz) := by
  obtain ⟨J, rfl⟩ := Int.eq_ofNat_of_zero_le h0
  have hb : Builtin.Int.intBits (J : Int) ≤ 100 := PySem.intBits_le_iff.mpr (by
    rw [Int.natAbs_natCast]
    have : (10 : Int) ^ 30 ≤ 2 ^ 100 := by decide
    have h2 : (J : Int) < 2 ^ 100 := Int.lt_of_lt_of_le h1 this
    exact_mod_cast h2)
  have hz : (J : Int) = 0 ↔ Builtin.Int.intBits (J : Int) = 0 := by
    have := PySem.intBits_le_iff (m := 0) (x := (J : Int))
    rw [Int.natAbs_natCast] at this
    simp only [Nat.pow_zero] at this
    omega
  have hl : Builtin.Int.intBits (J : Int) ≤ nb * sz → (J : Int) < 2 ^ (nb * sz) := fun h => by
    have := PySem.intBits_le_iff.mp h
    rw [Int.natAbs_natCast] at this
    exact_mod_cast this
  generalize Builtin.Int.intBits (J : Int) = b at *
  have hn : nb = 1 ∨ nb = 2 ∨ nb = 3 ∨ nb = 4 ∨ nb = 5 ∨ nb = 6 ∨ nb = 7 := by omega
  refine ⟨?_, ?_, hl ?_, ?_, ?_⟩
  · rw [Int.fdiv_eq_ediv_of_nonneg _ (by omega), ← hsz]
    rcases hn with rfl | rfl | rfl | rfl | rfl | rfl | rfl <;> omega
  all_goals (rcases hn with rfl | rfl | rfl | rfl | rfl | rfl | rfl <;> omega)
theorem ints_zero {t : Tok} : ∀ (k : Nat), IntsAre (List.replicate k [Value.int 0 t]).flatten (List.replicate k (0 : Int))
  | 0 => .nil
  | k + 1 => .cons 0 t (ints_zero k)
theorem fresh_of {h g : Heap} {adr : List Addr} {D : Addr} (G : GSub h g adr) (e : g.get? D = none) (hn : D ∉ adr) : h.get? D = none := by
  cases q : h.get? D with
  | none => rfl
  | some o => rw [G D o q hn] at e; cases e
theorem fr_fresh {h₀ h : Heap} {L D : Addr} {m : Str → Option Value} (F : Fr h₀ L h m) (e : h.get? D = none) : D ≠ L ∧ h₀.get? D = none := by
  refine ⟨?_, ?_⟩
  · rintro rfl
    obtain ⟨o, ens, ep, ho, _⟩ := F.ns
    rw [e] at ho; cases ho
  · cases q : h₀.get? D with
    | none => rfl
    | some o => rw [F.keep D o q] at e; cases e
theorem pick {h₀ h : Heap} {L : Addr} {big rest : List (Addr × Obj)} {p : Addr × Obj} (N : News h₀ L h big) (hp : p ∈ big) (r : News h₀ L h rest) : News h₀ L h (p :: rest) := by
  intro q hq
  rcases List.mem_cons.mp hq with rfl | hq
  · exact N _ hp
  · exact r q hq
theorem rest3 {g h : Heap} {L D ca c' t : Addr} {its : Array Value} {k : Nat} {oa oc : Obj} {v : Option Value} {vs ps : Array Value} (N : News g L h [(D, listOf its k), (ca, oa), (c', oc), (t, tabObj ps)]) (hoa : oa.data = .cell v) (hoc : oc.data = .fields vs) :
    ∀ p ∈ [(ca, oa), (c', oc), (t, tabObj ps)], p.1 ≠ D := by
  intro p hp e
  have z := (N p (.tail _ hp)).1
  rw [e, (N _ (List.Mem.head _)).1] at z
  have z' := congrArg Obj.data (Option.some.inj z)
  simp only [List.mem_cons, List.not_mem_nil, or_false] at hp
  rcases hp with rfl | rfl | rfl
  · rw [hoa] at z'; cases z'
  · rw [hoc] at z'; cases z'
  · cases z'
theorem end_nil {h₀ h g h5 : Heap} {L L9 D c' t : Addr} {m m' : Str → Option Value} {o tab oc oD : Obj} (F : Fr h₀ L h m) (N : News h₀ L h [(t, o)]) (GS : GSub h g ([(t, o)].map (·.1))) (F5 : Fr g L9 h5 m') (hD : News g L9 h5 [(D, oD)]) (hDt : t < D) (hc : News g L9 h5 [(c', oc)]) (hct : t < c') (ht : News g L9 h5 [(t, tab)]) :
    h.get? D = none ∧ News h₀ L h5 [(t, tab), (c', oc)] ∧ Keep [t] h h5 := by
  have fD : h.get? D = none := fresh_of GS (hD _ (List.Mem.head _)).2.2 (by simpa using (Nat.ne_of_gt hDt : D ≠ t))
  have fc : h.get? c' = none := fresh_of GS (hc _ (List.Mem.head _)).2.2 (by simpa using (Nat.ne_of_gt hct : c' ≠ t))
  refine ⟨fD, ?_, keep_of GS F5⟩
  intro p hp
  simp only [List.mem_cons, List.not_mem_nil, or_false] at hp
  rcases hp with rfl | rfl
  · exact ⟨(ht _ (List.Mem.head _)).1, (N _ (List.Mem.head _)).2⟩
  · exact ⟨(hc _ (List.Mem.head _)).1, fr_fresh F fc⟩
theorem end_one {h₀ h g h5 : Heap} {L L9 D c' t : Addr} {m' : Str → Option Value} {o oc oD : Obj} (N : News h₀ L h [(t, o), (c', oc)]) (GS : GSub h g ([(t, o), (c', oc)].map (·.1))) (F5 : Fr g L9 h5 m') (hD : News g L9 h5 [(D, oD)]) (hDt : t < D) (hDc : c' < D) (hc : News g L9 h5 [(c', oc)]) (ht : News g L9 h5 [(t, o)]) :
    h.get? D = none ∧ News h₀ L h5 [(t, o), (c', oc)] ∧ Keep [t] h h5 := by
  have fD : h.get? D = none := fresh_of GS (hD _ (List.Mem.head _)).2.2 (by
    simp only [List.map_cons, List.map_nil, List.mem_cons, List.not_mem_nil, or_false]
    rintro (rfl | rfl)
    · exact Nat.lt_irrefl _ hDt
    · exact Nat.lt_irrefl _ hDc)
  have N5 : News g L9 h5 [(t, o), (c', oc)] := by
    intro p hp
    simp only [List.mem_cons, List.not_mem_nil, or_false] at hp
    rcases hp with rfl | rfl
    · exact ht _ (List.Mem.head _)
    · exact hc _ (List.Mem.head _)
  refine ⟨fD, ?_, (keep_all GS F5 N N5).mono (fun _ q => nomatch q)⟩
  intro p hp
  exact ⟨(N5 p hp).1, (N p hp).2⟩
end
section
open PySem PySem.W PyProof.Rows PySem.Spec PySem.Calls PySem.Builtin PySem.Builtin.Str
section
variable {w : World} {p : Program} {loose : List Str} {mean : ExcName → Option Value} {mg mb : Str → Option Value} {dp un : Nat} {gd : Option (List Code)} {cn : Str} {cs : Scope} {a : Addr} {ccd : Value} {cl : List (Str × Addr)} {outer : List Env} {A₀ : Around} {base h₀ : Heap} {L : Addr} {m : Str → Option Value} {s : Shared} {Q E : Value → Shared → Prop}
theorem i2d_C {j : Int} {nb : Nat} {t0 t1 : Tok} {tb : List (Addr × Obj)} (B : Below A₀ base outer h₀) (F : Fr h₀ L s.heap m) (X : (hd.heap_39 w.params).In h₀) (T : Top p loose mean mg mb h₀) (hk : cs.kind = .function) (hd : dp + 105 < recursionLimit) (hu : un + 850 < cLine) (C : CodeHd h₀ 208 204)
    (N : News h₀ L s.heap tb) (ht : Tab2 204 130 (Str.ofString "_int2digits.<locals>.inner") tb) (hj0 : 0 ≤ j) (hj5 : j < 10 ^ 30) (hnb : 1 ≤ nb) (hnb7 : nb ≤ 7)
    (ret : ∀ tb' D items k h' tk', h'.get? D = some (listOf items.toArray k) → IntsAre items (digs nb ((Builtin.Int.intBits j + nb - 1) / nb) j) → s.heap.get? D = none → Tab2 204 130 (Str.ofString "_int2digits.<locals>.inner") tb' → News h₀ L h' tb' → Keep [204] s.heap h' → Q (.ref D) { s with heap := h', toks := tk' }) :
    wpAny (model PR w) (ktrTop dp un gd cn cs L a ccd cl outer) (call (.ref 209) [.int j t0, .int nb t1]) Q E s := by
  cases ht with
  | nil =>
    refine wpAny_call ?_
    k_dflt (walk_at "my enterC")
    rename_i g9 L9 h9 tk9 FG9 F9 B9 X9 T9 GS9 l9 o1 o2 o3 d1 d2 d3 N9
    refine wpAny_mono (E := fun _ _ => False) ?_ (fun _ _ h => h) (fun _ _ h => h.elim)
    have C9 := CodeHd.keeps C FG9.keep
    k_steps
    obtain ⟨sz, hsz⟩ : ∃ sz, (Builtin.Int.intBits j + nb - 1) / nb = sz := ⟨_, rfl⟩
    obtain ⟨e1, sz1, j1, jz, jn⟩ := i2d_sz hj0 hj5 hnb hnb7 hsz
    rw [hsz] at ret
    rw [e1]
    have j1' : True → j < 2 ^ (nb * sz) := fun _ => j1
    clear e1 hsz j1 hj5
    (rename Fr _ _ _ _ => F1)
    (rename News _ _ _ _ => N1)
    obtain ⟨ws, hws⟩ : ∃ ws, (List.replicate (sz : Int).toNat [Value.int 0 tk9]).flatten = ws := ⟨_, rfl⟩
    have hzs : True → IntsAre ws (List.replicate sz 0) := fun _ => by rw [← hws, Int.toNat_natCast]; exact ints_zero sz
    refine' KMa.mul (vs := [_]) F1 N1 (News.isList N1 (by k_mem)) (by omega) (by omega) (by rw [Int.toNat_natCast]; show 1 * sz ≤ 256; omega) hws ?_
    clear hws F1 N1
    intro D h2 F2 N2 l2
    (try k_lt l2)
    k_steps
    · rename_i jne
      (rename News _ _ _ _ => N3)
      (rename Fr _ _ _ _ => F3)
      (rename D < _ ∧ _ => lc)
      have hlen : ws.toArray.size = sz := by rw [List.size_toArray, (hzs trivial).length, List.length_replicate]
      refine len_list (News.isList N3 (by k_mem)) (by rw [hlen]; omega) ?_
      rw [hlen]
      iterate 1 walk1
      refine ⟨FnAt.of N3 (.head _), ?_⟩
      have N6 := pick N3 (.tail _ (.tail _ (.head _))) (pick N3 (.head _) (pick N3 (.tail _ (.head _)) (pick N3 (.tail _ (.tail _ (.tail _ (.tail _ (.tail _ (.head _)))))) (pick N3 (.tail _ (.tail _ (.tail _ (.tail _ (.head _))))) (pick N3 (.tail _ (.tail _ (.tail _ (.tail _ (.tail _ (.tail _ (.head _))))))) News.nil)))))
      refine' inner_C (lo := 0) hnb hnb7 ?hfo (by assumption) (by assumption) (by assumption) (by assumption) d3 sz B9 F3 X9 T9 rfl (by show dp + 1 + sz < recursionLimit; omega) ?un N6 (hzs trivial) (by omega) (jn jne) (by rw [List.length_replicate]; omega) (by rw [List.length_replicate]; exact sz1) hj0 (j1' trivial) ?_
      case un => ktr_units
      case hfo => rfl
      intro items5 k5 h5 tk5 hg5 hi5 kp5
      have N4 := pick N3 (.tail _ (.tail _ (.head _))) (pick N3 (.tail _ (.tail _ (.tail _ (.tail _ (.tail _ (.head _)))))) (pick N3 (.tail _ (.head _)) (pick N3 (.tail _ (.tail _ (.tail _ (.tail _ (.tail _ (.tail _ (.tail _ (.head _)))))))) News.nil)))
      have F5 := head_fr F3 N4 kp5
      have N5 := head_set N4 (rest3 N4 (by assumption) (by assumption)) kp5 hg5
      have hi6 : IntsAre items5 (digs nb sz j) := by simpa using hi5
      clear hi5 kp5 hg5 F3 N3 N4 N6
      dsimp only
      k_steps
      obtain ⟨r1, r2, r3⟩ := end_nil F N GS9 F5 (pick N5 (.head _) News.nil) l2.2.2.2.2 (pick N5 (.tail _ (.tail _ (.head _))) News.nil) lc.2.2.2.2.2 (pick N5 (.tail _ (.tail _ (.tail _ (.head _)))) News.nil)
      exact ret _ _ _ _ _ _ (N5 _ (List.Mem.head _)).1 hi6 r1 (.one (by assumption) (by assumption)) r2 r3
    · (rename News g9 _ _ _ => N5)
      (rename Fr g9 _ _ _ => F5)
      (rename D < _ ∧ _ => lc)
      obtain ⟨r1, r2, r3⟩ := end_nil F N GS9 F5 (pick N5 (.tail _ (.tail _ (.head _))) News.nil) l2.2.2.2.2 (pick N5 (.tail _ (.head _)) News.nil) lc.2.2.2.2.2 (pick N5 (.tail _ (.tail _ (.tail _ (.tail _ (.tail _ (.tail _ (.tail _ (.head _)))))))) News.nil)
      have hj : j = 0 := by assumption
      have hz := hzs trivial
      rw [jz hj] at hz ret
      exact ret _ _ _ _ _ _ (N5 _ (.tail _ (.tail _ (.head _)))).1 hz r1 (.one (by assumption) (by assumption)) r2 r3
  | one hoc hvc =>
    refine wpAny_call ?_
    k_dflt (walk_at "my enterC")
    rename_i g9 L9 h9 tk9 FG9 F9 B9 X9 T9 GS9 l9 o1 o2 o3 d1 d2 d3 N9
    refine wpAny_mono (E := fun _ _ => False) ?_ (fun _ _ h => h) (fun _ _ h => h.elim)
    have C9 := CodeHd.keeps C FG9.keep
    k_steps
    obtain ⟨sz, hsz⟩ : ∃ sz, (Builtin.Int.intBits j + nb - 1) / nb = sz := ⟨_, rfl⟩
    obtain ⟨e1, sz1, j1, jz, jn⟩ := i2d_sz hj0 hj5 hnb hnb7 hsz
    rw [hsz] at ret
    rw [e1]
    have j1' : True → j < 2 ^ (nb * sz) := fun _ => j1
    clear e1 hsz j1 hj5
    (rename Fr _ _ _ _ => F1)
    (rename News _ _ _ _ => N1)
    obtain ⟨ws, hws⟩ : ∃ ws, (List.replicate (sz : Int).toNat [Value.int 0 tk9]).flatten = ws := ⟨_, rfl⟩
    have hzs : True → IntsAre ws (List.replicate sz 0) := fun _ => by rw [← hws, Int.toNat_natCast]; exact ints_zero sz
    refine' KMa.mul (vs := [_]) F1 N1 (News.isList N1 (by k_mem)) (by omega) (by omega) (by rw [Int.toNat_natCast]; show 1 * sz ≤ 256; omega) hws ?_
    clear hws F1 N1
    intro D h2 F2 N2 l2
    (try k_lt l2)
    k_steps
    · rename_i jne
      (rename News _ _ _ _ => N3)
      (rename Fr _ _ _ _ => F3)
      have hlen : ws.toArray.size = sz := by rw [List.size_toArray, (hzs trivial).length, List.length_replicate]
      refine len_list (News.isList N3 (by k_mem)) (by rw [hlen]; omega) ?_
      rw [hlen]
      iterate 1 walk1
      refine ⟨FnAt.of N3 (.head _), ?_⟩
      have N6 := pick N3 (.tail _ (.head _)) (pick N3 (.head _) (pick N3 (.tail _ (.tail _ (.tail _ (.tail _ (.tail _ (.tail _ (.tail _ (.head _)))))))) (pick N3 (.tail _ (.tail _ (.tail _ (.tail _ (.head _))))) (pick N3 (.tail _ (.tail _ (.tail _ (.head _)))) (pick N3 (.tail _ (.tail _ (.tail _ (.tail _ (.tail _ (.head _)))))) News.nil)))))
      refine' inner_C (lo := 0) hnb hnb7 ?hfo (by assumption) (by assumption) (by assumption) (by assumption) d3 sz B9 F3 X9 T9 rfl (by show dp + 1 + sz < recursionLimit; omega) ?un N6 (hzs trivial) (by omega) (jn jne) (by rw [List.length_replicate]; omega) (by rw [List.length_replicate]; exact sz1) hj0 (j1' trivial) ?_
      case un => ktr_units
      case hfo => rfl
      intro items5 k5 h5 tk5 hg5 hi5 kp5
      have N4 := pick N3 (.tail _ (.head _)) (pick N3 (.tail _ (.tail _ (.tail _ (.tail _ (.head _))))) (pick N3 (.tail _ (.tail _ (.tail _ (.tail _ (.tail _ (.tail _ (.tail _ (.head _)))))))) (pick N3 (.tail _ (.tail _ (.tail _ (.tail _ (.tail _ (.tail _ (.head _))))))) News.nil)))
      have F5 := head_fr F3 N4 kp5
      have N5 := head_set N4 (rest3 N4 (by assumption) (by assumption)) kp5 hg5
      have hi6 : IntsAre items5 (digs nb sz j) := by simpa using hi5
      clear hi5 kp5 hg5 F3 N3 N4 N6
      dsimp only
      k_steps
      obtain ⟨r1, r2, r3⟩ := end_one N GS9 F5 (pick N5 (.head _) News.nil) l2.2.2.2.2.1 l2.2.2.2.2.2 (pick N5 (.tail _ (.tail _ (.head _))) News.nil) (pick N5 (.tail _ (.tail _ (.tail _ (.head _)))) News.nil)
      exact ret _ _ _ _ _ _ (N5 _ (List.Mem.head _)).1 hi6 r1 (.one (by assumption) (by assumption)) r2 r3
    · (rename News g9 _ _ _ => N5)
      (rename Fr g9 _ _ _ => F5)
      obtain ⟨r1, r2, r3⟩ := end_one N GS9 F5 (pick N5 (.tail _ (.head _)) News.nil) l2.2.2.2.2.1 l2.2.2.2.2.2 (pick N5 (.tail _ (.tail _ (.tail _ (.tail _ (.tail _ (.tail _ (.tail _ (.head _)))))))) News.nil) (pick N5 (.tail _ (.tail _ (.tail _ (.tail _ (.tail _ (.tail _ (.head _))))))) News.nil)
      have hj : j = 0 := by assumption
      have hz := hzs trivial
      rw [jz hj] at hz ret
      exact ret _ _ _ _ _ _ (N5 _ (.tail _ (.head _))).1 hz r1 (.one (by assumption) (by assumption)) r2 r3
end
end
section
open PySem PySem.W PyProof.Rows PySem.Spec PySem.Calls
def d2Pair : { b : Arguments × List Stmt × Scope // defIn (Str.ofString "_digits2int") 0 = some b } := ⟨_, by
  conv => lhs; whnf⟩
/-- what the numerals to the base 2 ^ n stand for, the least first -/
def val (n : Nat) : List Int → Int
  | [] => 0
  | d :: r => d + 2 ^ n * val n r
theorem val_append (n : Nat) : ∀ (a b : List Int), val n (a ++ b) = val n a + 2 ^ (a.length * n) * val n b
  | [], b => by simp [val]
  | d :: r, b => by
    show d + 2 ^ n * val n (r ++ b) = d + 2 ^ n * val n r + 2 ^ ((r.length + 1) * n) * val n b
    rw [val_append n r b, Nat.succ_mul, Nat.add_comm (r.length * n), Int.pow_add, Int.mul_add, Int.mul_assoc, Int.add_assoc]
theorem val_digs (n : Nat) : ∀ (k : Nat) (X : Nat), X < 2 ^ (n * k) → val n (digs n k (X : Int)) = X
  | 0, X, h => by simp at h; subst h; rfl
  | k + 1, X, h => by
    show (X : Int) % 2 ^ n + 2 ^ n * val n (digs n k ((X : Int) / 2 ^ n)) = X
    have e : (X : Int) / 2 ^ n = ((X / 2 ^ n : Nat) : Int) := by push_cast; rfl
    have h' : X / 2 ^ n < 2 ^ (n * k) := Nat.div_lt_of_lt_mul (by rw [← Nat.pow_add]; rwa [Nat.mul_succ, Nat.add_comm] at h)
    rw [e, val_digs n k _ h', ← e]
    exact Int.emod_add_mul_ediv _ _
/-- numerals in their bounds -/
def InB (n : Nat) (ds : List Int) : Prop := ∀ d ∈ ds, 0 ≤ d ∧ d < 2 ^ n
theorem val_bound (n : Nat) : ∀ (ds : List Int), InB n ds → 0 ≤ val n ds ∧ val n ds < 2 ^ (ds.length * n)
  | [], _ => by simp [val]
  | d :: r, h => by
    have h1 := h d (List.Mem.head _)
    have h2 := val_bound n r fun x hx => h x (.tail _ hx)
    have p : (0 : Int) < 2 ^ n := by exact_mod_cast Nat.two_pow_pos n
    show 0 ≤ d + 2 ^ n * val n r ∧ d + 2 ^ n * val n r < 2 ^ ((r.length + 1) * n)
    refine ⟨Int.add_nonneg h1.1 (Int.mul_nonneg (Int.le_of_lt p) h2.1), ?_⟩
    rw [Nat.succ_mul, Nat.add_comm, Int.pow_add]
    have : 2 ^ n * (val n r + 1) ≤ 2 ^ n * 2 ^ (r.length * n) := Int.mul_le_mul_of_nonneg_left (by omega) (Int.le_of_lt p)
    rw [Int.mul_add, Int.mul_one] at this
    omega
theorem digs_inB (n : Nat) : ∀ (k : Nat) (x : Int), InB n (digs n k x)
  | 0, _ => fun _ h => nomatch h
  | k + 1, x => by
    have p : (0 : Int) < 2 ^ n := by exact_mod_cast Nat.two_pow_pos n
    intro d hd
    rcases List.mem_cons.mp hd with rfl | hd
    · exact ⟨Int.emod_nonneg _ (Int.ne_of_gt p), Int.emod_lt_of_pos _ p⟩
    · exact digs_inB n k _ d hd
end
section
open PySem PySem.W PyProof.Rows PySem.Spec PySem.Calls PySem.Builtin PySem.Builtin.Str
section
variable {w : World} {p : Program} {loose : List Str} {mean : ExcName → Option Value} {mg mb : Str → Option Value} {dp un : Nat} {gd : Option (List Code)} {cn : Str} {cs : Scope} {a : Addr} {ccd : Value} {cl : List (Str × Addr)} {outer : List Env} {A₀ : Around} {base h₀ : Heap} {L : Addr} {m : Str → Option Value} {s : Shared} {Q E : Value → Shared → Prop}
theorem one_val {ds : List Int} {lo nb : Nat} (h : lo < ds.length) : ds.getD (lo : Int).toNat 0 = val nb ((ds.drop lo).take 1) := by
  rw [Int.toNat_natCast, List.drop_eq_getElem_cons h]
  show _ = ds[lo] + 2 ^ nb * 0
  simp [h]
theorem part_bound {ds : List Int} {nb : Nat} (h : InB nb ds) (lo d : Nat) (hl : lo + d ≤ ds.length) : 0 ≤ val nb ((ds.drop lo).take d) ∧ val nb ((ds.drop lo).take d) < 2 ^ (d * nb) := by
  have := val_bound nb ((ds.drop lo).take d) (fun x hx => h x (List.mem_of_mem_drop (List.mem_of_mem_take hx)))
  rwa [List.length_take, List.length_drop, Nat.min_eq_left (by omega)] at this
theorem part_split {nb : Nat} (ds : List Int) (lo c d : Nat) (hl : lo + (c + d) ≤ ds.length) : val nb ((ds.drop (lo + c)).take d) * 2 ^ (c * nb) + val nb ((ds.drop lo).take c) = val nb ((ds.drop lo).take (c + d)) := by
  rw [List.take_add, List.drop_drop, val_append, List.length_take, List.length_drop, Nat.min_eq_left (by omega), Int.mul_comm, Int.add_comm]
theorem inner2_C {f c' dl ca ci cn' : Addr} {oc oa oi on fo : Obj} {vsc : Array Value} {qual : Str} {tq tn : Tok} {dc pm ct : Value} {nb : Nat} (hnb : 1 ≤ nb) (hnb7 : nb ≤ 7) (hfo : fo = fnMade (Str.ofString "inner") qual d2Pair.1.1 d2Pair.1.2.1 d2Pair.1.2.2 [(Str.ofString "n", cn'), (Str.ofString "inner", ci), (Str.ofString "digits", ca)] dc pm c' ct) (hoc : oc.data = .fields vsc) (hvc : vsc[1]? = some (.str qual tq)) (hoa : oa.data = .cell (some (.ref dl))) (hoi : oi.data = .cell (some (.ref f))) (hon : on.data = .cell (some (.int nb tn))) {items : List Value} {ds : List Int} {k : Nat} (hi1 : IntsAre items ds) (hin : InB nb ds) (h40 : ds.length ≤ 100) :
    ∀ (sz : Nat) {dp un : Nat} {gd : Option (List Code)} {cn : Str} {cs : Scope} {a : Addr} {ccd : Value} {cl : List (Str × Addr)} {outer : List Env} {A₀ : Around} {base h₀ : Heap} {L : Addr} {m : Str → Option Value} {s : Shared} {Q E : Value → Shared → Prop} {lo hi : Nat} {tl tr : Tok}
      (B : Below A₀ base outer h₀) (F : Fr h₀ L s.heap m) (X : (hd.heap_39 w.params).In h₀) (T : Top p loose mean mg mb h₀) (hk : cs.kind = .function) (hd : dp + sz < recursionLimit) (hu : un + 8 * sz < cLine)
      (N : News h₀ L s.heap [(dl, listOf items.toArray k), (f, fo), (c', oc), (ca, oa), (ci, oi), (cn', on)])
      (hsz : hi = lo + sz) (hs1 : 1 ≤ sz) (hhi : hi ≤ ds.length)
      (ret : ∀ h' t tk', Keep [] s.heap h' → Q (.int (val nb ((ds.drop lo).take sz)) t) { s with heap := h', toks := tk' }),
      wpAny (model PR w) (ktrTop dp un gd cn cs L a ccd cl outer) (call (.ref f) [.int lo tl, .int hi tr]) Q E s := by
  intro sz
  induction sz using Nat.strongRecOn with
  | _ sz ih =>
  intro dp un gd cn cs a ccd cl outer A₀ base h₀ L m s Q E lo hi tl tr B F X T hk hd hu N hsz hs1 hhi ret
  have ih' : True → _ := fun _ => ih
  have hin' : True → InB nb ds := fun _ => hin
  clear ih hin
  have hfo2 := hfo
  dsimp only [d2Pair] at hfo2
  subst hfo2
  clear hfo
  refine wpAny_call ?_
  k_dflt (walk_at "my enterN")
  rename_i g9 L9 h9 FG9 F9 N9 B9 X9 T9 GS9
  refine wpAny_mono (E := fun _ _ => False) ?_ (fun _ _ h => h) (fun _ _ h => h.elim)
  iterate 12 walk1
  · rename_i heq
    iterate 4 walk1
    ((rename News _ _ _ _ => N1); refine nameX_F N1 (c := ca) (o := oa) rfl (.tail _ (.tail _ (.tail _ (.head _)))) hoa ?_ rfl rfl; (try dsimp only))
    walk1
    have hlen : items.length = ds.length := hi1.length
    refine' ksa_sub N1 (.head _) hi1 (by omega) (by omega) (by omega) ?_
    intro t5
    have hsz1 : sz = 1 := by omega
    subst hsz1
    rw [show ds.getD (lo : Int).toNat 0 = val nb ((ds.drop lo).take 1) from one_val (by omega)]
    have r8 := fun h kp t tk => ret h t tk kp
    clear ret ih' hin'
    k_steps
    exact r8 _ (keep_all GS9 F9 N N1) _ _
  · rename_i hne
    have hne' : sz ≠ 1 := by rintro rfl; apply hne; omega
    obtain ⟨c, d, hcd, hc1, hd1, hc2⟩ : ∃ c d, sz = c + d ∧ 1 ≤ c ∧ 1 ≤ d ∧ sz / 2 = c := ⟨sz / 2, sz - sz / 2, by omega, by omega, by omega, rfl⟩
    iterate 9 walk1
    refine rshift_int (by decide) ?_
    rw [half_int lo hi sz hsz, hc2]
    iterate 8 walk1
    rw [show ((lo + c : Nat) : Int) - (lo : Int) = (c : Int) by omega]
    ((rename News _ _ _ _ => N1); refine nameX_F N1 (c := cn') (o := on) rfl (.tail _ (.tail _ (.tail _ (.tail _ (.tail _ (.head _)))))) hon ?_ rfl rfl; (try dsimp only))
    walk1
    rw [show (c : Int) * (nb : Int) = ((c * nb : Nat) : Int) from (Int.natCast_mul c nb).symm]
    iterate 7 walk1
    ((rename News _ _ _ _ => N1); refine nameX_F N1 (c := ci) (o := oi) rfl (.tail _ (.tail _ (.tail _ (.tail _ (.head _))))) hoi ?_ rfl rfl; (try dsimp only))
    refine' callWith_F (FnAt.of N1 (.tail _ (.head _))) ?_
    iterate 5 walk1
    refine ⟨FnAt.of N1 (.tail _ (.head _)), ?_⟩
    (rename Fr _ _ _ _ => F1)
    refine' ih' trivial d (by omega) B9 F1 X9 T9 rfl (by show dp + 1 + d < recursionLimit; omega) (by show un + 3 + 8 * d < cLine; omega) N1 (by omega) hd1 (by omega) ?_
    intro h1 t1 tk1 kp1
    have F2 := Keep.fr0 kp1 F1
    have N2 := Keep.news0 kp1 N1
    clear kp1 F1 N1
    obtain ⟨up, hup⟩ : ∃ up, up = val nb ((ds.drop (lo + c)).take d) := ⟨_, rfl⟩
    rw [← hup]
    have hup' : True → up = val nb ((ds.drop (lo + c)).take d) := fun _ => hup
    have cb : c * nb ≤ 1000 := Nat.le_trans (Nat.mul_le_mul (show c ≤ 100 by omega) hnb7) (by decide)
    have db : d * nb ≤ 1000 := Nat.le_trans (Nat.mul_le_mul (show d ≤ 100 by omega) hnb7) (by decide)
    have up0 := part_bound (hin' trivial) (lo + c) d (by omega)
    rw [← hup] at up0
    dsimp only
    clear hup
    walk1
    refine lshift_int (by omega) (shl_fits up0.1 up0.2 cb db) ?_
    rw [Int.toNat_natCast]
    clear up0 cb db
    obtain ⟨sh, hsh⟩ : ∃ sh, sh = up * 2 ^ (c * nb) := ⟨_, rfl⟩
    rw [← hsh]
    have hsh' : True → sh = up * 2 ^ (c * nb) := fun _ => hsh
    clear hsh
    walk1
    ((rename News _ _ _ _ => N1); refine nameX_F N1 (c := ci) (o := oi) rfl (.tail _ (.tail _ (.tail _ (.tail _ (.head _))))) hoi ?_ rfl rfl; (try dsimp only))
    refine' callWith_F (FnAt.of N1 (.tail _ (.head _))) ?_
    iterate 5 walk1
    refine ⟨FnAt.of N1 (.tail _ (.head _)), ?_⟩
    (rename Fr _ _ _ _ => F1)
    refine' ih' trivial c (by omega) B9 F1 X9 T9 rfl (by show dp + 1 + c < recursionLimit; omega) (by show un + 3 + 8 * c < cLine; omega) N1 (by omega) hc1 (by omega) ?_
    intro h3 t3 tk3 kp3
    have F4 := Keep.fr0 kp3 F1
    have N4 := Keep.news0 kp3 N1
    clear kp3 F1 N1
    have kp := keep_all GS9 F4 N N4
    have hv : sh + val nb ((ds.drop lo).take c) = val nb ((ds.drop lo).take sz) := by rw [hsh' trivial, hup' trivial, hcd]; exact part_split _ _ _ _ (by omega)
    have hv' : True → _ := fun _ => hv
    clear hv
    have r8 := fun t tk => ret h3 t tk kp
    clear ret kp ih' hin'
    dsimp only
    walk1
    rw [hv' trivial]
    clear hv' hup' hsh'
    k_steps
    exact r8 _ _
end
end
section
open PySem PySem.W PyProof.Rows PySem.Spec PySem.Calls PySem.Builtin PySem.Builtin.Str
section
variable {w : World} {p : Program} {loose : List Str} {mean : ExcName → Option Value} {mg mb : Str → Option Value} {dp un : Nat} {gd : Option (List Code)} {cn : Str} {cs : Scope} {a : Addr} {ccd : Value} {cl : List (Str × Addr)} {outer : List Env} {A₀ : Around} {base h₀ : Heap} {L : Addr} {m : Str → Option Value} {s : Shared} {Q E : Value → Shared → Prop}
theorem end2_nil {h₀ h g h5 : Heap} {L L9 dl c' t : Addr} {m m' : Str → Option Value} {od o tab oc : Obj} (F : Fr h₀ L h m) (N : News h₀ L h [(dl, od), (t, o)]) (GS : GSub h g ([(dl, od), (t, o)].map (·.1))) (F5 : Fr g L9 h5 m') (hd : News g L9 h5 [(dl, od)]) (hc : News g L9 h5 [(c', oc)]) (hcd : dl < c') (hct : t < c') (ht : News g L9 h5 [(t, tab)]) :
    News h₀ L h5 [(t, tab), (c', oc)] ∧ Keep [t] h h5 := by
  have fc : h.get? c' = none := fresh_of GS (hc _ (List.Mem.head _)).2.2 (by
    simp only [List.map_cons, List.map_nil, List.mem_cons, List.not_mem_nil, or_false]
    rintro (rfl | rfl)
    · exact Nat.lt_irrefl _ hcd
    · exact Nat.lt_irrefl _ hct)
  refine ⟨?_, ?_⟩
  · intro p hp
    simp only [List.mem_cons, List.not_mem_nil, or_false] at hp
    rcases hp with rfl | rfl
    · exact ⟨(ht _ (List.Mem.head _)).1, (N _ (.tail _ (.head _))).2⟩
    · exact ⟨(hc _ (List.Mem.head _)).1, fr_fresh F fc⟩
  · refine keep_but (news' := [(dl, od)]) GS F5 N hd ?_
    intro p hp hn
    simp only [List.mem_cons, List.not_mem_nil, or_false] at hp hn ⊢
    rcases hp with rfl | rfl
    · rfl
    · exact absurd rfl hn
theorem end2_one {h₀ h g h5 : Heap} {L L9 dl c' t : Addr} {m' : Str → Option Value} {od o oc : Obj} (N : News h₀ L h [(dl, od), (t, o), (c', oc)]) (GS : GSub h g ([(dl, od), (t, o), (c', oc)].map (·.1))) (F5 : Fr g L9 h5 m') (N5 : News g L9 h5 [(dl, od), (t, o), (c', oc)]) :
    News h₀ L h5 [(t, o), (c', oc)] ∧ Keep [t] h h5 :=
  ⟨fun p hp => ⟨(N5 p (.tail _ hp)).1, (N p (.tail _ hp)).2⟩, (keep_all GS F5 N N5).mono (fun _ q => nomatch q)⟩
theorem empty_ints {items : List Value} {ds : List Int} (h : IntsAre items ds) : (!items.toArray.isEmpty) = decide (ds ≠ []) := by
  cases h <;> simp
theorem d2i_C {dl : Addr} {items : List Value} {ds : List Int} {k : Nat} {nb : Nat} {t1 : Tok} {tb : List (Addr × Obj)} (B : Below A₀ base outer h₀) (F : Fr h₀ L s.heap m) (X : (hd.heap_39 w.params).In h₀) (T : Top p loose mean mg mb h₀) (hk : cs.kind = .function) (hd : dp + 105 < recursionLimit) (hu : un + 850 < cLine) (C : CodeHd h₀ 215 211)
    (N : News h₀ L s.heap ((dl, listOf items.toArray k) :: tb)) (ht : Tab2 211 145 (Str.ofString "_digits2int.<locals>.inner") tb) (hi1 : IntsAre items ds) (hin : InB nb ds) (h40 : ds.length ≤ 100) (hnb : 1 ≤ nb) (hnb7 : nb ≤ 7)
    (ret : ∀ tb' t h' tk', Tab2 211 145 (Str.ofString "_digits2int.<locals>.inner") tb' → News h₀ L h' tb' → Keep [211] s.heap h' → Q (.int (val nb ds) t) { s with heap := h', toks := tk' }) :
    wpAny (model PR w) (ktrTop dp un gd cn cs L a ccd cl outer) (call (.ref 216) [.ref dl, .int nb t1]) Q E s := by
  have hin' : True → InB nb ds := fun _ => hin
  clear hin
  cases ht with
  | nil =>
    have hne : @LT.lt Nat _ dl 211 ∨ @LT.lt Nat _ 211 dl := by
      have : dl ≠ 211 := by
        intro e
        have z := (N _ (.tail _ (.head _))).1
        rw [← e, (N _ (List.Mem.head _)).1] at z
        cases congrArg Obj.data (Option.some.inj z)
      exact Nat.lt_or_gt_of_ne this
    refine wpAny_call ?_
    k_dflt (walk_at "my enterC")
    rename_i g9 L9 h9 tk9 FG9 F9 B9 X9 T9 GS9 l9 o1 o2 o3 d1 d2 d3 N9
    refine wpAny_mono (E := fun _ _ => False) ?_ (fun _ _ h => h) (fun _ _ h => h.elim)
    have C9 := CodeHd.keeps C FG9.keep
    iterate 8 walk1
    (rename News _ _ _ _ => N3)
    have hlen : items.toArray.size = ds.length := by rw [List.size_toArray, hi1.length]
    refine wpAny_truthy_list (News.isList N3 (.tail _ (.tail _ (.tail _ (.tail _ (.tail _ (.head _))))))) (by rw [hlen]; omega) ?_
    rw [empty_ints hi1]
    by_cases hds : ds = []
    · rw [if_neg (by simp [hds])]
      have r8 : ∀ tb' h' t tk', _ := fun tb' h' t tk' a b c => ret tb' t h' tk' a b c
      rw [hds] at r8
      clear ret hin'
      k_steps
      (rename Fr g9 _ _ _ => F5)
      (rename _ < _ ∧ _ ∧ _ ∧ dl < _ ∧ _ => lc)
      obtain ⟨r2, r3⟩ := end2_nil F N GS9 F5 (pick N3 (.tail _ (.tail _ (.tail _ (.tail _ (.tail _ (.head _)))))) News.nil) (pick N3 (.tail _ (.head _)) News.nil) lc.2.2.2.1 lc.2.2.2.2 (pick N3 (.tail _ (.tail _ (.tail _ (.tail _ (.tail _ (.tail _ (.head _))))))) News.nil)
      exact r8 _ _ _ _ (.one (by assumption) (by assumption)) r2 r3
    · rw [if_pos (by simp [hds])]
      have hl1 : 1 ≤ ds.length := by cases ds with | nil => exact absurd rfl hds | cons _ _ => simp
      iterate 12 walk1
      refine len_list (News.isList N3 (.tail _ (.tail _ (.tail _ (.tail _ (.tail _ (.head _))))))) (by rw [hlen]; omega) ?_
      rw [hlen]
      walk1
      (rename Fr _ _ _ _ => F3)
      refine ⟨FnAt.of N3 (.head _), ?_⟩
      have N6 := pick N3 (.tail _ (.tail _ (.tail _ (.tail _ (.tail _ (.head _)))))) (pick N3 (.head _) (pick N3 (.tail _ (.head _)) (pick N3 (.tail _ (.tail _ (.tail _ (.tail _ (.head _))))) (pick N3 (.tail _ (.tail _ (.head _))) (pick N3 (.tail _ (.tail _ (.tail _ (.head _)))) News.nil)))))
      refine' inner2_C (lo := 0) hnb hnb7 ?hfo (by assumption) (by assumption) d3 (by assumption) d2 hi1 (hin' trivial) h40 ds.length B9 F3 X9 T9 rfl (by show dp + 1 + ds.length < recursionLimit; omega) ?un N6 (by omega) hl1 (Nat.le_refl _) ?_
      case un => ktr_units
      case hfo => rfl
      intro h5 t5 tk5 kp5
      have F5 := Keep.fr0 kp5 F3
      have N5 := Keep.news0 kp5 N3
      clear kp5 F3 N3 N6
      rw [List.drop_zero, List.take_length]
      dsimp only
      have r8 : ∀ tb' h' t tk', _ := fun tb' h' t tk' a b c => ret tb' t h' tk' a b c
      clear ret hin'
      k_steps
      (rename _ < _ ∧ _ ∧ _ ∧ dl < _ ∧ _ => lc)
      obtain ⟨r2, r3⟩ := end2_nil F N GS9 F5 (pick N5 (.tail _ (.tail _ (.tail _ (.tail _ (.tail _ (.head _)))))) News.nil) (pick N5 (.tail _ (.head _)) News.nil) lc.2.2.2.1 lc.2.2.2.2 (pick N5 (.tail _ (.tail _ (.tail _ (.tail _ (.tail _ (.tail _ (.head _))))))) News.nil)
      exact r8 _ _ _ _ (.one (by assumption) (by assumption)) r2 r3
  | one hoc hvc =>
    refine wpAny_call ?_
    k_dflt (walk_at "my enterC")
    rename_i g9 L9 h9 tk9 FG9 F9 B9 X9 T9 GS9 l9 o1 o2 o3 d1 d2 d3 N9
    refine wpAny_mono (E := fun _ _ => False) ?_ (fun _ _ h => h) (fun _ _ h => h.elim)
    have C9 := CodeHd.keeps C FG9.keep
    iterate 8 walk1
    (rename News _ _ _ _ => N3)
    have hlen : items.toArray.size = ds.length := by rw [List.size_toArray, hi1.length]
    refine wpAny_truthy_list (News.isList N3 (.tail _ (.tail _ (.tail _ (.tail _ (.head _)))))) (by rw [hlen]; omega) ?_
    rw [empty_ints hi1]
    by_cases hds : ds = []
    · rw [if_neg (by simp [hds])]
      have r8 : ∀ tb' h' t tk', _ := fun tb' h' t tk' a b c => ret tb' t h' tk' a b c
      rw [hds] at r8
      clear ret hin'
      k_steps
      (rename Fr g9 _ _ _ => F5)
      obtain ⟨r2, r3⟩ := end2_one N GS9 F5 (pick N3 (.tail _ (.tail _ (.tail _ (.tail _ (.head _))))) (pick N3 (.tail _ (.tail _ (.tail _ (.tail _ (.tail _ (.head _)))))) (pick N3 (.tail _ (.tail _ (.tail _ (.tail _ (.tail _ (.tail _ (.head _))))))) News.nil)))
      exact r8 _ _ _ _ (.one (by assumption) (by assumption)) r2 r3
    · rw [if_pos (by simp [hds])]
      have hl1 : 1 ≤ ds.length := by cases ds with | nil => exact absurd rfl hds | cons _ _ => simp
      iterate 12 walk1
      refine len_list (News.isList N3 (.tail _ (.tail _ (.tail _ (.tail _ (.head _)))))) (by rw [hlen]; omega) ?_
      rw [hlen]
      walk1
      (rename Fr _ _ _ _ => F3)
      refine ⟨FnAt.of N3 (.head _), ?_⟩
      have N6 := pick N3 (.tail _ (.tail _ (.tail _ (.tail _ (.head _))))) (pick N3 (.head _) (pick N3 (.tail _ (.tail _ (.tail _ (.tail _ (.tail _ (.tail _ (.head _))))))) (pick N3 (.tail _ (.tail _ (.tail _ (.head _)))) (pick N3 (.tail _ (.head _)) (pick N3 (.tail _ (.tail _ (.head _))) News.nil)))))
      refine' inner2_C (lo := 0) hnb hnb7 ?hfo (by assumption) (by assumption) d3 (by assumption) d2 hi1 (hin' trivial) h40 ds.length B9 F3 X9 T9 rfl (by show dp + 1 + ds.length < recursionLimit; omega) ?un N6 (by omega) hl1 (Nat.le_refl _) ?_
      case un => ktr_units
      case hfo => rfl
      intro h5 t5 tk5 kp5
      have F5 := Keep.fr0 kp5 F3
      have N5 := Keep.news0 kp5 N3
      clear kp5 F3 N3 N6
      rw [List.drop_zero, List.take_length]
      dsimp only
      have r8 : ∀ tb' h' t tk', _ := fun tb' h' t tk' a b c => ret tb' t h' tk' a b c
      clear ret hin'
      k_steps
      obtain ⟨r2, r3⟩ := end2_one N GS9 F5 (pick N5 (.tail _ (.tail _ (.tail _ (.tail _ (.head _))))) (pick N5 (.tail _ (.tail _ (.tail _ (.tail _ (.tail _ (.head _)))))) (pick N5 (.tail _ (.tail _ (.tail _ (.tail _ (.tail _ (.tail _ (.head _))))))) News.nil)))
      exact r8 _ _ _ _ (.one (by assumption) (by assumption)) r2 r3
end
end
section
open PySem PySem.W PyProof.Rows PySem.Spec PySem.Calls PySem.Builtin PySem.Builtin.Str
section
variable {w : World} {p : Program} {loose : List Str} {mean : ExcName → Option Value} {mg mb : Str → Option Value} {dp un : Nat} {gd : Option (List Code)} {cn : Str} {cs : Scope} {a : Addr} {ccd : Value} {cl : List (Str × Addr)} {outer : List Env} {A₀ : Around} {base h₀ : Heap} {L : Addr} {m : Str → Option Value} {s : Shared} {Q E : Value → Shared → Prop}
theorem div_C {x b : Int} {nb : Nat} {t1 t2 t3 : Tok} (B : Below A₀ base outer h₀) (F : Fr h₀ L s.heap m) (X : (hd.heap_39 w.params).In h₀) (T : Top p loose mean mg mb h₀) (hk : cs.kind = .function) (hd : dp + 1 < recursionLimit) (hu : un + 8 < cLine)
    (hx0 : 0 ≤ x) (hx1 : x < 20000) (hb0 : 1 ≤ b) (hb1 : b ≤ 120) (hnb : 1 ≤ nb) (hnb7 : nb ≤ 7)
    (ret : ∀ P t t' h' tk', h'.get? P = some { cls := .type "tuple", data := .seq #[.int (x / b) t, .int (x % b) t'] } → s.heap.get? P = none → Keep [] s.heap h' → Q (.ref P) { s with heap := h', toks := tk' }) :
    wpAny (model PR w) (ktrTop dp un gd cn cs L a ccd cl outer) (call (.ref 195) [.int x t1, .int b t2, .int nb t3]) Q E s := by
  have N : News h₀ L s.heap [] := News.nil
  refine wpAny_call ?_
  k_dflt (walk_at "my enter")
  rename_i g9 L9 h9 FG9 F9 N9 B9 X9 T9 GS9
  refine wpAny_mono (E := fun _ _ => False) ?_ (fun _ _ h => h) (fun _ _ h => h.elim)
  have hbits : Builtin.Int.intBits x ≤ 15 := intBits_le (by omega)
  k_steps
  (rename Fr g9 _ _ _ => F5)
  (rename News g9 _ _ _ => N5)
  rw [Int.fdiv_eq_ediv_of_nonneg _ (by omega), Int.fmod_eq_emod_of_nonneg _ (by omega)] at N5
  exact ret _ _ _ _ _ (N5 _ (List.Mem.head _)).1 (fresh_of GS9 (N5 _ (List.Mem.head _)).2.2 (fun q => nomatch q)) (keep_of GS9 F5)
end
end
section
open PySem PySem.W PyProof.Rows PySem.Spec PySem.Calls
/-- one step of the long division: quotient's numerals (the top first) and the rest -/
def dstep (n : Nat) (b : Int) (s : List Int × Int) (d : Int) : List Int × Int := (s.1 ++ [(s.2 * 2 ^ n + d) / b], (s.2 * 2 ^ n + d) % b)
def ldiv (n : Nat) (b : Int) (ds : List Int) : List Int × Int := ds.foldl (dstep n b) ([], 0)
theorem ldiv_snoc (n : Nat) (b : Int) (ds : List Int) (d : Int) : ldiv n b (ds ++ [d]) = dstep n b (ldiv n b ds) d := by
  unfold ldiv; rw [List.foldl_append]; rfl
theorem ldiv_rest {n : Nat} {b : Int} (hb : 1 ≤ b) : ∀ (ds : List Int), 0 ≤ (ldiv n b ds.reverse).2 ∧ (ldiv n b ds.reverse).2 < b
  | [] => ⟨Int.le_refl _, by show (0 : Int) < b; omega⟩
  | d :: r => by
    rw [List.reverse_cons, ldiv_snoc]
    exact ⟨Int.emod_nonneg _ (by omega), Int.emod_lt_of_pos _ (by omega)⟩
theorem ldiv_law {n : Nat} {b : Int} (hb : 1 ≤ b) : ∀ (ds : List Int), val n ds = b * val n (ldiv n b ds.reverse).1.reverse + (ldiv n b ds.reverse).2
  | [] => by simp [ldiv, val]
  | d :: r => by
    rw [List.reverse_cons, ldiv_snoc]
    have ih := ldiv_law hb r (n := n)
    generalize ldiv n b r.reverse = st at ih
    obtain ⟨q, rr⟩ := st
    show d + 2 ^ n * val n r = b * val n (q ++ [(rr * 2 ^ n + d) / b]).reverse + (rr * 2 ^ n + d) % b
    rw [List.reverse_append, ih]
    show d + 2 ^ n * (b * val n q.reverse + rr) = b * ((rr * 2 ^ n + d) / b + 2 ^ n * val n q.reverse) + (rr * 2 ^ n + d) % b
    have e := Int.mul_ediv_add_emod (rr * 2 ^ n + d) b
    rw [Int.mul_add, Int.mul_add, ← Int.mul_assoc, ← Int.mul_assoc, Int.mul_comm (2 ^ n) b, Int.mul_comm (2 ^ n) rr]
    omega
theorem ldiv_inB {n : Nat} {b : Int} (hb : 1 ≤ b) : ∀ (ds : List Int), InB n ds → InB n (ldiv n b ds.reverse).1
  | [], _ => fun _ h => nomatch h
  | d :: r, h => by
    rw [List.reverse_cons, ldiv_snoc]
    have ih := ldiv_inB hb r (fun x hx => h x (.tail _ hx))
    have rs := ldiv_rest hb r (n := n)
    have hd := h d (List.Mem.head _)
    have p : (0 : Int) < 2 ^ n := by exact_mod_cast Nat.two_pow_pos n
    generalize ldiv n b r.reverse = st at ih rs
    obtain ⟨q, rr⟩ := st
    intro x hx
    rcases List.mem_append.mp hx with hx | hx
    · exact ih x hx
    · simp only [List.mem_singleton] at hx
      subst hx
      have m0 : 0 ≤ rr * 2 ^ n := Int.mul_nonneg rs.1 (Int.le_of_lt p)
      refine ⟨Int.ediv_nonneg (by omega) (by omega), Int.ediv_lt_of_lt_mul (by omega) ?_⟩
      have : (rr + 1) * 2 ^ n ≤ b * 2 ^ n := Int.mul_le_mul_of_nonneg_right (by have := rs.2; omega) (Int.le_of_lt p)
      rw [Int.add_mul, Int.one_mul, Int.mul_comm b] at this
      omega
theorem ldiv_len (n : Nat) (b : Int) : ∀ (ds : List Int), (ldiv n b ds.reverse).1.length = ds.length
  | [] => rfl
  | d :: r => by
    rw [List.reverse_cons, ldiv_snoc]
    show (_ ++ [_]).length = _
    rw [List.length_append, ldiv_len n b r]; rfl
theorem ldiv_end {n : Nat} {b : Int} (hb : 1 ≤ b) (ds : List Int) : val n (ldiv n b ds.reverse).1.reverse = val n ds / b ∧ (ldiv n b ds.reverse).2 = val n ds % b := by
  have e := ldiv_law hb ds (n := n)
  have rs := ldiv_rest hb ds (n := n)
  generalize val n (ldiv n b ds.reverse).1.reverse = q at *
  generalize (ldiv n b ds.reverse).2 = r at *
  rw [e]
  constructor
  · rw [Int.mul_add_ediv_left _ _ (by omega), Int.ediv_eq_zero_of_lt rs.1 rs.2]; omega
  · rw [Int.mul_add_emod_self_left, Int.emod_eq_of_lt rs.1 rs.2]
/-- the number that goes into one division is small -/
theorem step_small {n : Nat} {b r d : Int} (hn : n ≤ 7) (hb : b < 2 ^ n) (h0 : 0 ≤ r) (h1 : r < b) (hd : 0 ≤ d ∧ d < 2 ^ n) : 0 ≤ r * 2 ^ n + d ∧ r * 2 ^ n + d < 20000 := by
  have hh : n = 0 ∨ n = 1 ∨ n = 2 ∨ n = 3 ∨ n = 4 ∨ n = 5 ∨ n = 6 ∨ n = 7 := by omega
  rcases hh with rfl | rfl | rfl | rfl | rfl | rfl | rfl | rfl <;> simp at * <;> omega
end
section
open PySem PySem.W PyProof.Rows PySem.Spec PySem.Calls PySem.Builtin PySem.Builtin.Str
section
variable {w : World} {p : Program} {loose : List Str} {mean : ExcName → Option Value} {mg mb : Str → Option Value} {dp un : Nat} {gd : Option (List Code)} {cn : Str} {cs : Scope} {a : Addr} {ccd : Value} {cl : List (Str × Addr)} {outer : List Env} {A₀ : Around} {base h₀ : Heap} {L : Addr} {m : Str → Option Value} {s : Shared} {Q E : Value → Shared → Prop}
/-- the one table lies apart from the other and its code object -/
theorem tab_apart {g h : Heap} {L t1 t2 : Addr} {l1 l2 : Int} {q1 q2 : Str} {tb1 tb2 : List (Addr × Obj)} (h1 : Tab2 t1 l1 q1 tb1) (h2 : Tab2 t2 l2 q2 tb2) (hne : t1 ≠ t2) (N : News g L h (tb1 ++ tb2)) : ∀ p ∈ tb2, p.1 ∉ [t1] := by
  have n1 : ∃ ps : Array Value, (t1, tabObj ps) ∈ tb1 ∧ (∀ q t, ps[1]? ≠ some (.str q t)) := by
    cases h1 with
    | nil => exact ⟨_, .head _, fun _ _ => by simp⟩
    | one _ _ => exact ⟨_, .head _, fun _ _ => by simp [rawInt]⟩
  obtain ⟨ps, m1, e1⟩ := n1
  intro p hp
  simp only [List.mem_singleton]
  intro e
  have z := (N p (List.mem_append_right _ hp)).1
  rw [e, (N _ (List.mem_append_left _ m1)).1] at z
  have z' := congrArg Obj.data (Option.some.inj z)
  cases h2 with
  | nil => simp only [List.mem_singleton] at hp; subst hp; exact hne e.symm
  | one ho hv =>
    simp only [List.mem_cons, List.not_mem_nil, or_false] at hp
    rcases hp with rfl | rfl
    · exact hne e.symm
    · rw [ho] at z'
      injection z' with z'
      rw [← z'] at hv
      exact e1 _ _ hv
theorem allLt_mem {d : Nat} : ∀ {l : List (Addr × Obj)}, AllLt d l → ∀ {p : Addr × Obj}, p ∈ l → @LT.lt Nat _ p.1 d
  | [], _, _, hp => nomatch hp
  | _ :: _, h, _, hp => (List.mem_cons.mp hp).elim (fun e => e ▸ h.1) (fun hp => allLt_mem h.2 hp)
theorem drop_back {ds : List Int} {i : Nat} (hi : i < ds.length) : ∃ d, ds[ds.length - 1 - i]? = some d ∧ ds.drop (ds.length - (i + 1)) = d :: ds.drop (ds.length - i) := by
  have h1 : ds.length - 1 - i < ds.length := by omega
  refine ⟨ds[ds.length - 1 - i], List.getElem?_eq_getElem h1, ?_⟩
  rw [show ds.length - (i + 1) = ds.length - 1 - i by omega, List.drop_eq_getElem_cons h1, show ds.length - 1 - i + 1 = ds.length - i by omega]
theorem news_two {g h : Heap} {L : Addr} {a b : List (Addr × Obj)} (n1 : News g L h a) (n2 : News g L h b) : News g L h (a ++ b) := fun p hp => (List.mem_append.mp hp).elim (n1 p) (n2 p)
theorem up_news {h₀ h g h' : Heap} {L L' : Addr} {m : Str → Option Value} {old news : List (Addr × Obj)} (F : Fr h₀ L h m) (N : News h₀ L h old) (GS : GSub h g (old.map (·.1))) (N' : News g L' h' news) : News h₀ L h' news := by
  intro p hp
  refine ⟨(N' p hp).1, ?_⟩
  by_cases hm : p.1 ∈ old.map (·.1)
  · obtain ⟨q, hq, e⟩ := List.mem_map.mp hm
    rw [← e]; exact (N q hq).2
  · exact fr_fresh F (fresh_of GS (N' p hp).2.2 hm)
/-- what stays of the old ledger -/
theorem keep_ex {h₀ h g h' : Heap} {L L' : Addr} {m' : Str → Option Value} {old news ex : List (Addr × Obj)} {adr : List Addr} (N : News h₀ L h old) (GS : GSub h g (old.map (·.1))) (F' : Fr g L' h' m') (hex : old.filter (fun p => decide (p.1 ∉ adr)) = ex) (N' : News g L' h' news) (hs : ∀ p ∈ ex, p ∈ news) : Keep adr h h' := by
  intro b o e hb
  by_cases hm : b ∈ old.map (·.1)
  · obtain ⟨q, hq, rfl⟩ := List.mem_map.mp hm
    have h1 := (N q hq).1
    rw [e] at h1; cases h1
    exact (N' q (hs q (hex ▸ List.mem_filter.mpr ⟨hq, by simpa using hb⟩))).1
  · exact F'.keep b o (GS b o e hm)
theorem tab_head {t : Addr} {l : Int} {q : Str} {tb : List (Addr × Obj)} (h : Tab2 t l q tb) : ∃ o, (t, o) ∈ tb := by
  cases h with
  | nil => exact ⟨_, .head _⟩
  | one _ _ => exact ⟨_, .head _⟩
theorem divmod_C {x b : Int} {nb : Nat} {t1 t2 : Tok} {tb1 tb2 : List (Addr × Obj)} (B : Below A₀ base outer h₀) (F : Fr h₀ L s.heap m) (X : (hd.heap_39 w.params).In h₀) (T : Top p loose mean mg mb h₀) (hk : cs.kind = .function) (hd : dp + 110 < recursionLimit) (hu : un + 900 < cLine) (C1 : CodeHd h₀ 208 204) (C2 : CodeHd h₀ 215 211)
    (N : News h₀ L s.heap (tb1 ++ tb2)) (ht1 : Tab2 204 130 (Str.ofString "_int2digits.<locals>.inner") tb1) (ht2 : Tab2 211 145 (Str.ofString "_digits2int.<locals>.inner") tb2)
    (hx0 : 0 ≤ x) (hx1 : x < 10 ^ 30) (hb0 : 1 ≤ b) (hb1 : b ≤ 120) (hnb : Builtin.Int.intBits b = nb) (hnb1 : 1 ≤ nb) (hnb7 : nb ≤ 7)
    (ret : ∀ P tb1' tb2' t t' h' tk', h'.get? P = some { cls := .type "tuple", data := .seq #[.int (x / b) t, .int (x % b) t'] } → s.heap.get? P = none → Tab2 204 130 (Str.ofString "_int2digits.<locals>.inner") tb1' → Tab2 211 145 (Str.ofString "_digits2int.<locals>.inner") tb2' → News h₀ L h' (tb1' ++ tb2') → Keep [204, 211] s.heap h' → Q (.ref P) { s with heap := h', toks := tk' }) :
    wpAny (model PR w) (ktrTop dp un gd cn cs L a ccd cl outer) (call (.ref 223) [.int x t1, .int b t2]) Q E s := by
  refine wpAny_call ?_
  k_dflt (walk_at "my enter")
  rename_i g9 L9 h9 FG9 F9 N9 B9 X9 T9 GS9
  refine wpAny_mono (E := fun _ _ => False) ?_ (fun _ _ h => h) (fun _ _ h => h.elim)
  have C9 := CodeHd.keeps C1 FG9.keep
  have C8 := CodeHd.keeps C2 FG9.keep
  iterate 7 walk1
  rw [hnb]
  iterate 11 walk1
  (rename Fr _ _ _ _ => F1)
  (rename News _ _ _ _ => N1)
  have N1a : News g9 L9 _ tb1 := fun p hp => N1 p (List.mem_append_left _ hp)
  have N1b : News g9 L9 _ tb2 := fun p hp => N1 p (List.mem_append_right _ hp)
  refine ⟨X9.keeps F1.keep, ?_⟩
  refine' i2d_C B9 F1 X9 T9 rfl (by ktr_room) (by ktr_units) C9 N1a ht1 hx0 hx1 hnb1 hnb7 ?_
  intro tb3 D items kD h2 tk2 hgD hiD hDn ht3 N2 kp2
  have F2 := kp2.fr F1 (fun a ha => by
    simp only [List.mem_singleton] at ha; subst ha
    cases ht1 with
    | nil => exact (N1 _ (.head _)).2
    | one _ _ => exact (N1 _ (.head _)).2)
  obtain ⟨ex, hex⟩ : ∃ ex, (tb1 ++ tb2).filter (fun p => decide (p.1 ∉ [(204 : Addr), 211])) = ex := ⟨_, rfl⟩
  have hexm : ∀ p ∈ ex, p ∈ tb1 ++ tb2 ∧ p.1 ≠ 204 ∧ p.1 ≠ 211 := fun p hp => by
    rw [← hex] at hp
    have := List.mem_filter.mp hp
    simpa using this
  have N2b : News g9 L9 h2 (tb2 ++ ex) := kp2.news (news_two N1b (fun p hp => N1 p (hexm p hp).1)) (fun p hp => (List.mem_append.mp hp).elim (tab_apart ht1 ht2 (by decide) N1 p) (fun hp => by simpa using (hexm p hp).2.1))
  have N3 : News g9 L9 h2 ((D, listOf items.toArray kD) :: (tb3 ++ (tb2 ++ ex))) := fun p hp => (List.mem_cons.mp hp).elim (fun e => by subst e; exact ⟨hgD, fr_fresh F1 hDn⟩) (news_two N2 N2b p)
  clear N1 N1a N1b N2 N2b F1 kp2
  dsimp only
  obtain ⟨ds, hds⟩ : ∃ ds, digs nb ((Builtin.Int.intBits x + nb - 1) / nb) x = ds := ⟨_, rfl⟩
  rw [hds] at hiD
  iterate 14 walk1
  refine wpAny_For ?_ (by intro _; rfl)
  k_steps
  (rename Fr _ _ _ _ => F4)
  (rename News _ _ _ _ => N4)
  rename_i qd hx5 lq hx6 I h4 lI
  have hlen : items.length = ds.length := hiD.length
  have hInB : True → InB nb ds := fun _ => hds ▸ digs_inB nb _ x
  have hbn : b < 2 ^ nb := by
    have := (PySem.intBits_le_iff (m := nb) (x := b)).mp (Nat.le_of_eq hnb)
    have h2 : ((b.natAbs : Nat) : Int) < ((2 ^ nb : Nat) : Int) := by exact_mod_cast this
    rw [Int.natAbs_of_nonneg (by omega)] at h2
    simpa using h2
  have hdl : ds.length ≤ 100 := by
    obtain ⟨e1, sz1, j1, jz, jn⟩ := i2d_sz hx0 hx1 hnb1 hnb7 rfl
    rw [← hds, digs_len]; exact sz1
  have hIg := (N4 _ (.head _)).2
  have hqg := (N4 _ (.tail _ (.head _))).2
  have hDg := (N4 _ (.tail _ (.tail _ (.head _)))).2
  have hDI : D ≠ I := Nat.ne_of_lt lI.2.1
  have hqI : qd ≠ I := Nat.ne_of_lt lI.1
  have htI : ∀ p ∈ tb3 ++ (tb2 ++ ex), p.1 ≠ L9 ∧ p.1 ≠ I ∧ g9.get? p.1 = none := fun p hp =>
    have q := (N4 p (.tail _ (.tail _ (.tail _ hp)))).2
    ⟨q.1, Nat.ne_of_lt (allLt_mem lI.2.2 hp), q.2⟩
  refine wpAny_pyIter_revIter ⟨_, N4.get (.head _), rfl, rfl⟩ ?_
  refine' forWalk (Walks.listRev rfl I D hDI items.toArray)
    (fun i h => ∃ qs kq, h.get? qd = some (listOf qs.toArray kq) ∧ IntsAre qs (ldiv nb b (ds.drop (ds.length - i)).reverse).1 ∧ ∀ p ∈ tb3 ++ (tb2 ++ ex), h.get? p.1 = some p.2)
    (fun i m' => ∃ tr tn, m' (Str.ofString "n") = some (.int nb tn) ∧ m' (Str.ofString "b") = some (.int b t2) ∧ m' (Str.ofString "r") = some (.int (ldiv nb b (ds.drop (ds.length - i)).reverse).2 tr) ∧ m' (Str.ofString "q_digits") = some (.ref qd))
    ?b1 hIg.2 ?b2 F4 ?b3 ?b4 ?b5 ?b6 ?b7 rfl rfl
  case b1 =>
    simp only [List.mem_cons, List.not_mem_nil, or_false, not_or]
    exact ⟨Ne.symm hIg.1, Ne.symm hDg.1⟩
  case b2 =>
    exact ⟨Nat.zero_le _, ⟨_, N4.get (.head _), rfl, by simp [revObj]⟩, ⟨_, N4.get (.tail _ (.tail _ (.head _))), rfl, kD, rfl⟩⟩
  case b3 => exact ⟨[], 0, N4.get (.tail _ (.head _)), by simp [ldiv]; exact .nil, fun p hp => N4.get (.tail _ (.tail _ (.tail _ hp)))⟩
  case b4 => exact ⟨_, _, rfl, rfl, by simp only [Nat.sub_zero, List.drop_length]; rfl, rfl⟩
  case b5 =>
    rintro i h h' ⟨qs, kq, hq, hqi, htb⟩ kk
    refine ⟨qs, kq, kk _ _ hq (by simp only [List.mem_cons, List.not_mem_nil, or_false, not_or]; exact ⟨hqg.1, hqI⟩), hqi, fun p hp => kk _ _ (htb p hp) (by simp only [List.mem_cons, List.not_mem_nil, or_false, not_or]; exact ⟨(htI p hp).1, (htI p hp).2.1⟩)⟩
  case b6 =>
    rintro i v h tk' m' own hi hP ⟨qs, kq, hq, hqi, htb⟩ ⟨tr, tn, m1, m2, m3, m4⟩ Fh No hown
    have hi' : i < ds.length := by simpa [hlen] using hi
    obtain ⟨d, hd', hdrop⟩ := drop_back hi'
    have hv : ∃ td, v = .int d td := by
      obtain ⟨td, htd⟩ := hiD.get _ d hd'
      refine ⟨td, ?_⟩
      have hP' : items[items.length - 1 - i]? = some v := by simpa using hP
      rw [hlen, htd] at hP'
      exact (Option.some.inj hP').symm
    obtain ⟨td, rfl⟩ := hv
    have hdB := hInB trivial d (List.mem_of_getElem? hd')
    have hrs := ldiv_rest (n := nb) hb0 (ds.drop (ds.length - i))
    have hnx : ldiv nb b (ds.drop (ds.length - (i + 1))).reverse = dstep nb b (ldiv nb b (ds.drop (ds.length - i)).reverse) d := by
      rw [hdrop, List.reverse_cons, ldiv_snoc]
    obtain ⟨st, hst⟩ : ∃ st, ldiv nb b (ds.drop (ds.length - i)).reverse = st := ⟨_, rfl⟩
    rw [hst] at hqi m3 hrs hnx
    have hsm := step_small hnb7 hbn hrs.1 hrs.2 hdB
    have G1 := frame_has Fh m1
    have G2 := frame_has G1 ((if_neg (by decide)).trans m2)
    have G3 := frame_has G2 ((if_neg (by decide)).trans ((if_neg (by decide)).trans m3))
    have G4 := frame_has G3 ((if_neg (by decide)).trans ((if_neg (by decide)).trans ((if_neg (by decide)).trans m4)))
    clear G1 G2 G3 Fh F4
    have Nh : News g9 L9 h ((qd, listOf qs.toArray kq) :: (own ++ (tb3 ++ (tb2 ++ ex)))) := by
      intro p hp
      rcases List.mem_cons.mp hp with rfl | hp
      · exact ⟨hq, hqg⟩
      · rcases List.mem_append.mp hp with hp | hp
        · exact No p hp
        · exact ⟨htb p hp, (htI p hp).1, (htI p hp).2.2⟩
    clear N4 No
    iterate 10 walk1
    refine lshift_int_small (by omega) (by omega) (by omega) ?_
    rw [Int.toNat_natCast]
    iterate 8 walk1
    refine' div_C B9 G4 X9 T9 rfl (by ktr_room) (by ktr_units) hsm.1 hsm.2 hb0 hb1 hnb1 hnb7 ?_
    intro P t5 t5' h5 tk5 hP5 hPn kp5
    have F5 := kp5.fr0 G4
    have N5 := news_add (kp5.news0 Nh) G4 hPn hP5
    clear kp5 hPn hP5 G4 Nh
    dsimp only
    k_steps
    (rename Fr g9 L9 _ _ => F6)
    (rename News g9 L9 _ _ => N6)
    have hql : qs.length ≤ 1000 := by
      have e1 := hqi.length
      have e2 := ldiv_len nb b (ds.drop (ds.length - i))
      rw [hst] at e2
      rw [List.length_drop] at e2
      omega
    refine wpAny_list_append_plain (items := qs.toArray) ⟨kq, N6.get (.tail _ (.head _))⟩ (fun h7 hl7 hs7 => ?_) (by simp only [List.size_toArray]; rw [sizeLine_eq]; omega)
    obtain ⟨n7, hl7⟩ := hl7
    rw [List.push_toArray] at hl7
    have kp7 : Keep [qd] _ h7 := fun b o e n => (hs7.2 b (by simpa using n)).trans e
    have F7 := kp7.fr F6 (fun a ha => by simp only [List.mem_singleton] at ha; subst ha; exact hqg)
    refine wpAny_execs_nil ?_
    refine ⟨h7, _, _, rfl, F7, ⟨t5', tn, rfl, rfl, ?_, rfl⟩, ⟨_, n7, hl7, ?_, ?_⟩, ?_⟩
    · rw [hnx]; rfl
    · rw [hnx]; exact hqi.append (.cons _ _ .nil)
    · intro p hp
      refine kp7 _ _ (N6.get (.tail _ (.tail _ (List.mem_append_right _ hp)))) ?_
      simp only [List.mem_singleton]
      exact Nat.ne_of_lt (allLt_mem lq.2 hp)
    · intro p hp
      have q := N6 p (.tail _ (.tail _ (List.mem_append_left _ hp)))
      refine ⟨kp7 _ _ q.1 ?_, q.2⟩
      have := hown p hp
      simp only [List.mem_cons, List.not_mem_nil, or_false] at this
      simp only [List.mem_singleton]
      rcases this with e | e
      · rw [e]; exact Ne.symm hqI
      · rw [e]; exact Nat.ne_of_lt lq.1
  case b7 =>
    rintro h tk' m' ⟨qs, kq, hq, hqi, htb⟩ ⟨tr, tn, m1, m2, m3, m4⟩ Fh
    have e0 : ds.length - items.toArray.size = 0 := by simp [hlen]
    rw [e0, List.drop_zero] at hqi m3
    obtain ⟨en1, en2⟩ := ldiv_end (n := nb) hb0 ds
    have hqB : True → InB nb (ldiv nb b ds.reverse).1.reverse := fun _ d hd => ldiv_inB hb0 ds (hInB trivial) d (List.mem_reverse.mp hd)
    have hql := ldiv_len nb b ds
    have hvx : val nb ds = x := by
      obtain ⟨e1, sz1, j1, jz, jn⟩ := i2d_sz hx0 hx1 hnb1 hnb7 rfl
      obtain ⟨X', rfl⟩ := Int.eq_ofNat_of_zero_le hx0
      rw [← hds]
      exact val_digs nb _ X' (by exact_mod_cast j1)
    rw [hvx] at en1 en2
    rw [en2] at m3
    obtain ⟨qd1, hq1⟩ : ∃ qd1, (ldiv nb b ds.reverse).1 = qd1 := ⟨_, rfl⟩
    rw [hq1] at hqi en1 hqB hql
    have G1 := frame_has1 Fh m1
    have G2 := frame_has1 G1 ((if_neg (by decide)).trans m3)
    have G3 := frame_has1 G2 ((if_neg (by decide)).trans ((if_neg (by decide)).trans m4))
    clear G1 G2 Fh F4
    have Nh : News g9 L9 h ((qd, listOf qs.toArray kq) :: (tb3 ++ (tb2 ++ ex))) := by
      intro p hp
      rcases List.mem_cons.mp hp with rfl | hp
      · exact ⟨hq, hqg⟩
      · exact ⟨htb p hp, (htI p hp).1, (htI p hp).2.2⟩
    clear N4 hq htb
    dsimp only
    k_steps
    refine kl_reverse (its := qs.toArray) (l := qs.reverse) G3 Nh rfl (Upd.head (fun p hp => Nat.ne_of_lt (allLt_mem lq.2 hp))) (by rw [sizeLine_eq]; have := hqi.length; show qs.length ≤ _; omega) ?_
    intro h8 F8 N8
    dsimp only
    iterate 10 walk1
    refine ⟨X9.keeps F8.keep, ?_⟩
    have N8t : News g9 L9 h8 (tb2 ++ tb3) := fun p hp => N8 p (.tail _ ((List.mem_append.mp hp).elim (fun q => List.mem_append_right _ (List.mem_append_left _ q)) (fun q => List.mem_append_left _ q)))
    refine' d2i_C B9 F8 X9 T9 rfl (by ktr_room) (by ktr_units) C8 (fun p hp => (List.mem_cons.mp hp).elim (fun q => N8 p (q ▸ .head _)) (fun q => N8t p (List.mem_append_left _ q))) ht2 hqi.reverse (hqB trivial) (by rw [List.length_reverse]; omega) hnb1 hnb7 ?_
    intro tb4 t9 h9' tk9' ht4 N9t kp9
    have F9' := kp9.fr F8 (fun a ha => by
      simp only [List.mem_singleton] at ha; subst ha
      cases ht2 with
      | nil => exact (N8t _ (.head _)).2
      | one _ _ => exact (N8t _ (.head _)).2)
    have N9' : News g9 L9 h9' (tb3 ++ (tb4 ++ ex)) := by
      refine news_two (kp9.news (fun p hp => N8t p (List.mem_append_right _ hp)) (tab_apart ht2 ht3 (by decide) N8t)) (news_two N9t (kp9.news (fun p hp => N8 p (.tail _ (List.mem_append_right _ (List.mem_append_right _ hp)))) (fun p hp => by simpa using (hexm p hp).2.2)))
    clear N8t N8 F8 N9t kp9 G3 Nh
    rw [en1]
    dsimp only
    k_steps
    (rename Fr g9 L9 _ _ => F5)
    (rename News g9 L9 _ _ => N5)
    (rename ∀ p ∈ tb3 ++ (tb4 ++ ex), _ => l5)
    refine ret _ tb3 tb4 _ _ _ _ (N5 _ (.head _)).1 (fresh_of GS9 (N5 _ (.head _)).2.2 ?_) ht3 ht4 (up_news F N GS9 (fun p hp => N5 p (.tail _ ((List.mem_append.mp hp).elim (fun q => List.mem_append_left _ q) (fun q => List.mem_append_right _ (List.mem_append_left _ q)))))) (keep_ex N GS9 F5 hex N5 (fun p hp => .tail _ (List.mem_append_right _ (List.mem_append_right _ hp))))
    intro hm
    obtain ⟨q, hq, e⟩ := List.mem_map.mp hm
    obtain ⟨o3, m3'⟩ := tab_head ht3
    obtain ⟨o4, m4'⟩ := tab_head ht4
    by_cases e1 : q.1 = 204
    · exact absurd (e1.symm.trans e) (Nat.ne_of_lt (l5 _ (List.mem_append_left _ m3')))
    · by_cases e2 : q.1 = 211
      · exact absurd (e2.symm.trans e) (Nat.ne_of_lt (l5 _ (List.mem_append_right _ (List.mem_append_left _ m4'))))
      · exact absurd e (Nat.ne_of_lt (l5 q (List.mem_append_right _ (List.mem_append_right _ (hex ▸ List.mem_filter.mpr ⟨hq, by simp [e1, e2]⟩)))))
end
end
section
open PySem PySem.W PyProof.Rows PySem.Spec PySem.Calls
section
variable {prog : Program} {w : World} {A : Around} {E : Value → Shared → Prop} {R : Result → Shared → Prop} {env : Env} {px : Pos} {body : List Stmt} {m : Str → Option Value} {h₀ : Heap} {s : Shared} {x : Str} {n : Nat}
def IsRI (o : Obj) : Prop := o.cls = .type "range_iterator" ∧ ∃ a b c, o.data = .fields #[rawInt a, rawInt b, rawInt c]
/-- a loop over a range object: the iterator's object is known -/
theorem forRange2 {r : Addr} {a b c : Int} {t u v : Tok} (J : Nat → Heap → Prop) (M : Nat → (Str → Option Value) → Prop) (F : Fr h₀ env.locals s.heap m) (hr : IsRange s.heap r a b c t u v) (hsmall : Builtin.Range.small a b c = true) (hn : (Builtin.Range.rangeSize a b c) = (n : Int)) (h0 : J 0 s.heap) (hm0 : M 0 m)
    (hJ : ∀ i h h', J i h → Keep [env.locals, s.heap.objs.size] h h' → J i h')
    (turn : ∀ (i : Nat) (tt : Tok) (h : Heap) (tk : Nat) (m' : Str → Option Value) (oI : Obj), IsRI oI → i < n → J i h → M i m' → Fr h₀ env.locals h (fun y => if y = x then some (.int (a + i * c) tt) else m' y) → News h₀ env.locals h [(s.heap.objs.size, oI)] →
      wpAny (model prog w) A (execs body env) (fun f s' => match f with | .next => ∃ h' tk' m'', s' = { s with heap := h', toks := tk' } ∧ Fr h₀ env.locals h' m'' ∧ M (i + 1) m'' ∧ J (i + 1) h' ∧ h'.get? s.heap.objs.size = some oI | .ret v => R (.ok (.ret v)) s' | _ => False) (fun _ _ => False) { s with heap := h, toks := tk })
    (done : ∀ (h : Heap) (tk : Nat) (m' : Str → Option Value), J n h → M n m' → Fr h₀ env.locals h m' → R (.ok .next) { s with heap := h, toks := tk })
    (hh : A.handled = none) (hx : env.kindOf x = some .local) (hp : (env.scope.kind == .class || (env.scope.kind == .module && env.locals != env.globals)) = false) :
    wpAny (model prog w) A (pyIter (.ref r)) (fun it s₂ => codeAny (model prog w) A (.forLoop (.Name x px) it body [] env) R s₂) E s := by
  refine wpAny_pyIter_range hr hsmall ?_
  have hLlt := ltN F.ns.lt
  have kp0 : ∀ o, Keep [] s.heap (s.heap.push o) := fun o b o' e _ => Heap.get?_push_of_some _ e
  have hI0 : h₀.get? s.heap.objs.size = none := by
    cases e : h₀.get? s.heap.objs.size with
    | none => rfl
    | some o => exact absurd (Heap.lt_size (F.keep _ _ e)) (Nat.lt_irrefl _)
  have hIL : s.heap.objs.size ≠ env.locals := neN (by omega)
  rw [hn]
  have W := Walks.range (prog := prog) (w := w) hh s.heap.objs.size a c n
  refine codeAny_forLoop_any (fun k s' => ∃ h tk i m', s' = { s with heap := h, toks := tk } ∧ IsRangeIter h s.heap.objs.size (a + (i : Nat) * c) ((n : Int) - (i : Nat)) c ∧ Fr h₀ env.locals h m' ∧ M i m' ∧ J i h ∧ i ≤ n ∧ k = n + 1 - i) ?_ (n + 1)
    ⟨_, s.toks, 0, m, rfl, ?_, (kp0 _).fr0 F, hm0, hJ _ _ _ h0 ((kp0 _).mono (by simp)), Nat.zero_le _, rfl⟩
  · rintro k s' ⟨h, tk, i, m', rfl, hst', F', hm', hj, hle, rfl⟩
    by_cases hlt : i < n
    · refine W.item i _ _ _ hlt hst' fun v h₁ tk₁ hP hst₁ hk₁ => ?_
      obtain ⟨tt, rfl⟩ := hP
      refine wpAny_pure ?_
      have k1 : Keep [s.heap.objs.size] h h₁ := fun b o e nn => hk₁ b o nn e
      have F₁ : Fr h₀ env.locals h₁ m' := k1.fr F' (by simpa using ⟨hIL, hI0⟩)
      refine wpAny_assign_Name (wpAny_storeName_local hx F₁.ns (fun h₂ hn₂ hs₂ => ?_) hp)
      replace hs₂ : Heap.SameBut env.locals h₁ h₂ := hs₂
      have F₂ := F₁.set hn₂ hs₂
      have k2 : Keep [env.locals, s.heap.objs.size] h h₂ := fun b o e nn => (hs₂.2 b (fun q => nn (by simp [q]))).trans (k1 b o e (fun q => nn (by simp at q; simp [q])))
      have hst₂ : IsRangeIter h₂ _ _ _ _ := hs₂.extBut _ _ hIL hst₁
      refine wpAny_mono (turn i tt h₂ _ m' _ ⟨rfl, _, _, _, rfl⟩ hlt (hJ _ _ _ hj k2) hm' F₂ (fun p hp => by simp only [List.mem_singleton] at hp; subst hp; exact ⟨hst₂, hIL, hI0⟩)) (fun f s₃ h₆ => ?_) fun _ _ e => e.elim
      cases f with
      | ret v => exact h₆
      | brk => exact h₆.elim
      | cont => exact h₆.elim
      | next =>
        obtain ⟨h', tk', m'', rfl, F'', hm'', hj'', kk⟩ := h₆
        exact ⟨n + 1 - (i + 1), by omega, h', tk', i + 1, m'', rfl, kk, F'', hm'', hj'', hlt, rfl⟩
    · have hin : i = n := by omega
      subst hin
      refine W.done _ _ _ hst' fun h₁ tk₁ hk₁ => wpAny_execs_nil ?_
      have k1 : Keep [s.heap.objs.size] h h₁ := fun b o e nn => hk₁ b o nn e
      exact done h₁ _ m' (hJ _ _ _ hj (k1.mono (by simp))) hm' (k1.fr F' (by simpa using ⟨hIL, hI0⟩))
  · show IsRangeIter _ _ _ _ _
    simp only [Int.natCast_zero, Int.zero_mul, Int.add_zero, Int.sub_zero]
    exact Heap.get?_push_size _ rfl
/-- a loop over a range object whose target is a cell -/
theorem forRangeC {r cx : Addr} {ocx : Obj} {vcx : Option Value} {a b c : Int} {t u v : Tok} (J : Nat → Heap → Prop) (M : Nat → (Str → Option Value) → Prop) (F : Fr h₀ env.locals s.heap m) (hr : IsRange s.heap r a b c t u v) (hsmall : Builtin.Range.small a b c = true) (hn : (Builtin.Range.rangeSize a b c) = (n : Int)) (h0 : J 0 s.heap) (hm0 : M 0 m)
    (Nc : News h₀ env.locals s.heap [(cx, ocx)]) (hcd : ocx.data = .cell vcx)
    (hJ : ∀ i h h', J i h → Keep [cx, s.heap.objs.size] h h' → J i h')
    (turn : ∀ (i : Nat) (tt : Tok) (h : Heap) (tk : Nat) (m' : Str → Option Value) (oI oc : Obj), IsRI oI → oc.data = .cell (some (.int (a + i * c) tt)) → i < n → J i h → M i m' → Fr h₀ env.locals h m' → News h₀ env.locals h [(s.heap.objs.size, oI), (cx, oc)] →
      wpAny (model prog w) A (execs body env) (fun f s' => match f with | .next => ∃ h' tk' m'', s' = { s with heap := h', toks := tk' } ∧ Fr h₀ env.locals h' m'' ∧ M (i + 1) m'' ∧ J (i + 1) h' ∧ h'.get? s.heap.objs.size = some oI ∧ h'.get? cx = some oc | .ret v => R (.ok (.ret v)) s' | _ => False) (fun _ _ => False) { s with heap := h, toks := tk })
    (done : ∀ (h : Heap) (tk : Nat) (m' : Str → Option Value) (oc : Obj) (vc : Option Value), oc.data = .cell vc → News h₀ env.locals h [(cx, oc)] → J n h → M n m' → Fr h₀ env.locals h m' → R (.ok .next) { s with heap := h, toks := tk })
    (hh : A.handled = none) (hx : env.kindOf x = some .cell) (hk : env.scope.kind = .function) (hc : env.cells.lookup x = some cx) :
    wpAny (model prog w) A (pyIter (.ref r)) (fun it s₂ => codeAny (model prog w) A (.forLoop (.Name x px) it body [] env) R s₂) E s := by
  refine wpAny_pyIter_range hr hsmall ?_
  have hLlt := ltN F.ns.lt
  have hclt := ltN (Heap.lt_size (Nc.get (.head _)))
  have hcg := (Nc _ (.head _)).2
  have kp0 : ∀ o, Keep [] s.heap (s.heap.push o) := fun o b o' e _ => Heap.get?_push_of_some _ e
  have hI0 : h₀.get? s.heap.objs.size = none := by
    cases e : h₀.get? s.heap.objs.size with
    | none => rfl
    | some o => exact absurd (Heap.lt_size (F.keep _ _ e)) (Nat.lt_irrefl _)
  have hIL : s.heap.objs.size ≠ env.locals := neN (by omega)
  have hIc : s.heap.objs.size ≠ cx := neN (by omega)
  rw [hn]
  have W := Walks.range (prog := prog) (w := w) hh s.heap.objs.size a c n
  refine codeAny_forLoop_any (fun k s' => ∃ h tk i m' oc vc, s' = { s with heap := h, toks := tk } ∧ IsRangeIter h s.heap.objs.size (a + (i : Nat) * c) ((n : Int) - (i : Nat)) c ∧ Fr h₀ env.locals h m' ∧ M i m' ∧ J i h ∧ h.get? cx = some oc ∧ oc.data = .cell vc ∧ i ≤ n ∧ k = n + 1 - i) ?_ (n + 1)
    ⟨_, s.toks, 0, m, ocx, vcx, rfl, ?_, (kp0 _).fr0 F, hm0, hJ _ _ _ h0 ((kp0 _).mono (by simp)), kp0 _ _ _ (Nc.get (.head _)) (by simp), hcd, Nat.zero_le _, rfl⟩
  · rintro k s' ⟨h, tk, i, m', oc, vc, rfl, hst', F', hm', hj, hco, hcc, hle, rfl⟩
    by_cases hlt : i < n
    · refine W.item i _ _ _ hlt hst' fun v h₁ tk₁ hP hst₁ hk₁ => ?_
      obtain ⟨tt, rfl⟩ := hP
      refine wpAny_pure ?_
      have k1 : Keep [s.heap.objs.size] h h₁ := fun b o e nn => hk₁ b o nn e
      have F₁ : Fr h₀ env.locals h₁ m' := k1.fr F' (by simpa using ⟨hIL, hI0⟩)
      refine wpAny_assign_Name (wpAny_storeName_cell hk hx hc ⟨oc, k1 _ _ hco (by simpa using Ne.symm hIc), hcc⟩ fun h₂ hv₂ hs₂ => ?_)
      replace hs₂ : Heap.SameBut cx h₁ h₂ := hs₂
      obtain ⟨o₂, ho₂, hd₂⟩ := hv₂
      have kc : Keep [cx] h₁ h₂ := fun b o e nn => (hs₂.2 b (by simpa using nn)).trans e
      have F₂ : Fr h₀ env.locals h₂ m' := kc.fr F₁ (by simpa using hcg)
      have k2 : Keep [cx, s.heap.objs.size] h h₂ := fun b o e nn => kc b o (k1 b o e (fun q => nn (by simp at q; simp [q]))) (fun q => nn (by simp at q; simp [q]))
      have hst₂ : IsRangeIter h₂ _ _ _ _ := hs₂.extBut _ _ hIc hst₁
      refine wpAny_mono (turn i tt h₂ _ m' _ o₂ ⟨rfl, _, _, _, rfl⟩ hd₂ hlt (hJ _ _ _ hj k2) hm' F₂ (fun p hp => by
        simp only [List.mem_cons, List.not_mem_nil, or_false] at hp
        rcases hp with rfl | rfl
        · exact ⟨hst₂, hIL, hI0⟩
        · exact ⟨ho₂, hcg⟩)) (fun f s₃ h₆ => ?_) fun _ _ e => e.elim
      cases f with
      | ret v => exact h₆
      | brk => exact h₆.elim
      | cont => exact h₆.elim
      | next =>
        obtain ⟨h', tk', m'', rfl, F'', hm'', hj'', kk, kk2⟩ := h₆
        exact ⟨n + 1 - (i + 1), by omega, h', tk', i + 1, m'', _, _, rfl, kk, F'', hm'', hj'', kk2, hd₂, hlt, rfl⟩
    · have hin : i = n := by omega
      subst hin
      refine W.done _ _ _ hst' fun h₁ tk₁ hk₁ => wpAny_execs_nil ?_
      have k1 : Keep [s.heap.objs.size] h h₁ := fun b o e nn => hk₁ b o nn e
      exact done h₁ _ m' oc vc hcc (fun p hp => by simp only [List.mem_singleton] at hp; subst hp; exact ⟨k1 _ _ hco (by simpa using Ne.symm hIc), hcg⟩) (hJ _ _ _ hj (k1.mono (by simp))) hm' (k1.fr F' (by simpa using ⟨hIL, hI0⟩))
  · show IsRangeIter _ _ _ _ _
    simp only [Int.natCast_zero, Int.zero_mul, Int.add_zero, Int.sub_zero]
    exact Heap.get?_push_size _ rfl
end
/-- the numerals by factorials, the top first, and what is left -/
def fdig (n : Nat) (x : Int) : Nat → List Int × Int
  | 0 => ([], x)
  | i + 1 => ((fdig n x i).1 ++ [(fdig n x i).2 / fac (n - 1 - i)], (fdig n x i).2 % fac (n - 1 - i))
theorem fac_bits : ∀ (k : Nat), k ≤ 5 → ∃ nb, Builtin.Int.intBits (fac k) = nb ∧ 1 ≤ nb ∧ nb ≤ 7 ∧ 1 ≤ fac k ∧ fac k ≤ 120
  | 0, _ => ⟨1, by decide +kernel, by decide, by decide, by decide, by decide⟩
  | 1, _ => ⟨1, by decide +kernel, by decide, by decide, by decide, by decide⟩
  | 2, _ => ⟨2, by decide +kernel, by decide, by decide, by decide, by decide⟩
  | 3, _ => ⟨3, by decide +kernel, by decide, by decide, by decide, by decide⟩
  | 4, _ => ⟨5, by decide +kernel, by decide, by decide, by decide, by decide⟩
  | 5, _ => ⟨7, by decide +kernel, by decide, by decide, by decide, by decide⟩
  | k + 6, h => absurd h (by omega)
theorem fdig_len (n : Nat) (x : Int) : ∀ (i : Nat), (fdig n x i).1.length = i
  | 0 => rfl
  | i + 1 => by show (_ ++ [_]).length = _; rw [List.length_append, fdig_len n x i]; rfl
theorem fdig_left {n : Nat} {x : Int} (hn : n ≤ 5) (h0 : 0 ≤ x) (h1 : x < 120) : ∀ (i : Nat), 0 ≤ (fdig n x i).2 ∧ (fdig n x i).2 < 120
  | 0 => ⟨h0, h1⟩
  | i + 1 => by
    obtain ⟨nb, _, _, _, b1, b2⟩ := fac_bits (n - 1 - i) (by omega)
    have a1 := Int.emod_nonneg (fdig n x i).2 (b := fac (n - 1 - i)) (by omega)
    have a2 := Int.emod_lt_of_pos (fdig n x i).2 (b := fac (n - 1 - i)) (by omega)
    exact ⟨a1, by show _ % _ < _; omega⟩
/-- a table's entry is no iterator -/
theorem tab_noRI {t : Addr} {l : Int} {q : Str} {tb : List (Addr × Obj)} (h : Tab2 t l q tb) {p : Addr × Obj} (hp : p ∈ tb) (hi : IsRI p.2) : False := by
  obtain ⟨hc, a, b, c, hd⟩ := hi
  cases h with
  | nil => simp only [List.mem_singleton] at hp; subst hp; cases hc
  | one ho hv =>
    simp only [List.mem_cons, List.not_mem_nil, or_false] at hp
    rcases hp with rfl | rfl
    · cases hc
    · have hd' : Data.fields _ = Data.fields _ := ho.symm.trans hd
      injection hd' with e
      rw [e] at hv
      simp [rawInt] at hv
end
section
open PySem PySem.W PyProof.Rows PySem.Spec PySem.Calls PySem.Builtin PySem.Builtin.Str
section
variable {w : World} {p : Program} {loose : List Str} {mean : ExcName → Option Value} {mg mb : Str → Option Value} {dp un : Nat} {gd : Option (List Code)} {cn : Str} {cs : Scope} {a : Addr} {ccd : Value} {cl : List (Str × Addr)} {outer : List Env} {A₀ : Around} {base h₀ : Heap} {L : Addr} {m : Str → Option Value} {s : Shared} {Q E : Value → Shared → Prop}
def TabO (o : Obj) : Prop := (∃ vs, o.data = .fields vs) ∧ ¬ IsRI o
theorem tab_O {t : Addr} {l : Int} {q : Str} {tb : List (Addr × Obj)} (h : Tab2 t l q tb) : ∀ p ∈ tb, TabO p.2 := fun p hp => by
  refine ⟨?_, fun hi => tab_noRI h hp hi⟩
  cases h with
  | nil => simp only [List.mem_singleton] at hp; subst hp; exact ⟨_, rfl⟩
  | one ho hv =>
    simp only [List.mem_cons, List.not_mem_nil, or_false] at hp
    rcases hp with rfl | rfl
    · exact ⟨_, rfl⟩
    · exact ⟨_, ho⟩
theorem tabO_ri {h : Heap} {p I : Addr} {o oI : Obj} (ho : TabO o) (hp : h.get? p = some o) (hI : h.get? I = some oI) (hi : IsRI oI) : p ≠ I := by
  rintro rfl; rw [hp] at hI; cases hI; exact ho.2 hi
theorem tabO_seq {h : Heap} {p D : Addr} {o oD : Obj} {vs : Array Value} {k : Nat} (ho : TabO o) (hp : h.get? p = some o) (hD : h.get? D = some oD) (hd : oD.data = .seq vs k) : p ≠ D := by
  rintro rfl; rw [hp] at hD; cases hD
  obtain ⟨⟨vs', e⟩, _⟩ := ho
  rw [hd] at e; cases e
/-- a new object lies off the old ledger -/
theorem fresh_tab {h g h' : Heap} {L' D : Addr} {o : Obj} {l1 l2 : Int} {q1 q2 : Str} {tb1 tb2 tb3 tb4 ex : List (Addr × Obj)} (GS : GSub h g ((tb1 ++ tb2).map (·.1))) (N' : News g L' h' [(D, o)]) (hex : (tb1 ++ tb2).filter (fun p => decide (p.1 ∉ [(204 : Addr), 211])) = ex) (ht3 : Tab2 204 l1 q1 tb3) (ht4 : Tab2 211 l2 q2 tb4) (l5 : ∀ p ∈ tb3 ++ (tb4 ++ ex), @LT.lt Nat _ p.1 D) : h.get? D = none := by
  refine fresh_of GS (N' _ (.head _)).2.2 ?_
  intro hm
  obtain ⟨q, hq, e⟩ := List.mem_map.mp hm
  obtain ⟨o3, m3'⟩ := tab_head ht3
  obtain ⟨o4, m4'⟩ := tab_head ht4
  by_cases e1 : q.1 = 204
  · exact absurd (e1.symm.trans e) (Nat.ne_of_lt (l5 _ (List.mem_append_left _ m3')))
  · by_cases e2 : q.1 = 211
    · exact absurd (e2.symm.trans e) (Nat.ne_of_lt (l5 _ (List.mem_append_right _ (List.mem_append_left _ m4'))))
    · exact absurd e (Nat.ne_of_lt (l5 q (List.mem_append_right _ (List.mem_append_right _ (hex ▸ List.mem_filter.mpr ⟨hq, by simp [e1, e2]⟩)))))
theorem news_two3 {g h : Heap} {L : Addr} {a b c : List (Addr × Obj)} (n1 : News g L h (a ++ b)) (n2 : News g L h c) : News g L h (a ++ (b ++ c)) := fun p hp => (List.mem_append.mp hp).elim (fun q => n1 p (List.mem_append_left _ q)) (fun q => (List.mem_append.mp q).elim (fun q => n1 p (List.mem_append_right _ q)) (n2 p))
theorem down_range (n : Nat) (h1 : 1 ≤ n) (h5 : n ≤ 5) : Builtin.Range.small n 0 (-1) = true ∧ Builtin.Range.rangeSize n 0 (-1) = (n : Int) := by
  have : n = 1 ∨ n = 2 ∨ n = 3 ∨ n = 4 ∨ n = 5 := by omega
  rcases this with rfl | rfl | rfl | rfl | rfl <;> decide
theorem digits_C {x : Int} {n : Nat} {t1 t2 : Tok} {tb1 tb2 : List (Addr × Obj)} (B : Below A₀ base outer h₀) (F : Fr h₀ L s.heap m) (X : (hd.heap_39 w.params).In h₀) (T : Top p loose mean mg mb h₀) (hk : cs.kind = .function) (hd : dp + 120 < recursionLimit) (hu : un + 950 < cLine) (C1 : CodeHd h₀ 208 204) (C2 : CodeHd h₀ 215 211)
    (N : News h₀ L s.heap (tb1 ++ tb2)) (ht1 : Tab2 204 130 (Str.ofString "_int2digits.<locals>.inner") tb1) (ht2 : Tab2 211 145 (Str.ofString "_digits2int.<locals>.inner") tb2)
    (hx0 : 0 ≤ x) (hx1 : x < 10 ^ 30) (hn1 : 1 ≤ n) (hn5 : n ≤ 5)
    (ret : ∀ D items k tb1' tb2' h' tk', h'.get? D = some (listOf items.toArray k) → IntsAre items (fdig n (x % fac n) n).1 → s.heap.get? D = none → Tab2 204 130 (Str.ofString "_int2digits.<locals>.inner") tb1' → Tab2 211 145 (Str.ofString "_digits2int.<locals>.inner") tb2' → News h₀ L h' (tb1' ++ tb2') → Keep [204, 211] s.heap h' → Q (.ref D) { s with heap := h', toks := tk' }) :
    wpAny (model PR w) (ktrTop dp un gd cn cs L a ccd cl outer) (call (.ref 237) [.int x t1, .int n t2]) Q E s := by
  refine wpAny_call ?_
  k_dflt (walk_at "my enter")
  rename_i g9 L9 h9 FG9 F9 N9 B9 X9 T9 GS9
  refine wpAny_mono (E := fun _ _ => False) ?_ (fun _ _ h => h) (fun _ _ h => h.elim)
  have C9 := CodeHd.keeps C1 FG9.keep
  have C8 := CodeHd.keeps C2 FG9.keep
  obtain ⟨ex, hex⟩ : ∃ ex, (tb1 ++ tb2).filter (fun p => decide (p.1 ∉ [(204 : Addr), 211])) = ex := ⟨_, rfl⟩
  have hexm : ∀ p ∈ ex, p ∈ tb1 ++ tb2 ∧ p.1 ≠ 204 ∧ p.1 ≠ 211 := fun p hp => by
    rw [← hex] at hp
    have := List.mem_filter.mp hp
    simpa using this
  have hexO : ∀ p ∈ ex, TabO p.2 := fun p hp => (List.mem_append.mp (hexm p hp).1).elim (tab_O ht1 p) (tab_O ht2 p)
  iterate 15 walk1
  refine ⟨X9.keeps F9.keep, ?_⟩
  refine' orders_C B9 F9 X9 T9 rfl (by ktr_room) (by ktr_units) (by omega) (by omega) ?_
  intro t3 h3 tk3 kp3
  have F3 := kp3.fr0 F9
  have N3 := kp3.news0 N9
  rw [Int.toNat_natCast]
  obtain ⟨nb, e1, e2, e3, e4, e5⟩ := fac_bits n hn5
  dsimp only
  walk1
  refine ⟨X9.keeps F3.keep, ?_⟩
  refine' divmod_C B9 F3 X9 T9 rfl (by ktr_room) (by ktr_units) C9 C8 N3 ht1 ht2 hx0 hx1 e4 e5 e1 e2 e3 ?_
  intro P tb3 tb4 t5 t5' h5 tk5 hP5 hPn ht3 ht4 Nt5 kp5
  have F5 := kp5.fr F3 (fun a ha => by
    obtain ⟨o1, q1⟩ := tab_head ht1
    obtain ⟨o2, q2⟩ := tab_head ht2
    simp only [List.mem_cons, List.not_mem_nil, or_false] at ha
    rcases ha with rfl | rfl
    · exact (N3 _ (List.mem_append_left _ q1)).2
    · exact (N3 _ (List.mem_append_right _ q2)).2)
  have N5 := news_add (news_two3 Nt5 (kp5.news (fun p hp => N3 p (hexm p hp).1) (fun p hp => by simpa using (hexm p hp).2))) F3 hPn hP5
  have hr0 : 0 ≤ x % fac n := Int.emod_nonneg _ (by omega)
  have hr1 : x % fac n < 120 := by have := Int.emod_lt_of_pos x (b := fac n) (by omega); omega
  obtain ⟨r, hr⟩ : ∃ r, x % fac n = r := ⟨_, rfl⟩
  rw [hr] at hr0 hr1 ret N5
  clear hP5 N3 F3 kp5 kp3 Nt5 F9 N9 hr e1 e2 e3 e4 e5
  have hnn : True → 1 ≤ n ∧ n ≤ 5 := fun _ => ⟨hn1, hn5⟩
  clear hn1 hn5
  dsimp only
  iterate 12 walk1
  refine wpAny_For ?_ (by intro _; rfl)
  iterate 13 walk1
  rename_i D h6 lD h7 F7 N7 h8 tk8 tr ur vr hr8 F8 N8 kp8
  obtain ⟨hn1, hn5⟩ := hnn trivial
  obtain ⟨hs1, hs2⟩ := down_range n hn1 hn5
  have hDg := (N8 _ (.head _)).2
  have hDnew : s.heap.get? D = none := fresh_tab GS9 (pick N8 (.head _) News.nil) hex ht3 ht4 (fun p hp => allLt_mem lD.2 hp)
  have htO : ∀ p ∈ tb3 ++ (tb4 ++ ex), TabO p.2 := fun p hp => (List.mem_append.mp hp).elim (tab_O ht3 p) (fun hp => (List.mem_append.mp hp).elim (tab_O ht4 p) (hexO p))
  have lt8 : ∀ p ∈ tb3 ++ (tb4 ++ ex), p.1 ≠ h8.objs.size := fun p hp => Nat.ne_of_lt (Heap.lt_size (N8.get (.tail _ (.tail _ hp))))
  have hD8 : D ≠ h8.objs.size := Nat.ne_of_lt (Heap.lt_size (N8.get (.head _)))
  refine' forRange2 (n := n)
    (fun i h => ∃ ys k tb5 tb6, h.get? D = some (listOf ys.toArray k) ∧ IntsAre ys (fdig n r i).1 ∧ Tab2 204 130 (Str.ofString "_int2digits.<locals>.inner") tb5 ∧ Tab2 211 145 (Str.ofString "_digits2int.<locals>.inner") tb6 ∧ News g9 L9 h (tb5 ++ (tb6 ++ ex)) ∧ ∀ p ∈ tb5 ++ (tb6 ++ ex), p.1 ≠ h8.objs.size)
    (fun i m' => ∃ tl, m' (Str.ofString "left") = some (.int (fdig n r i).2 tl) ∧ m' (Str.ofString "digits") = some (.ref D))
    F8 hr8 hs1 hs2 ?b3 ?b4 ?b5 ?b6 ?b7 rfl rfl rfl
  case b3 => exact ⟨[], 0, tb3, tb4, N8.get (.head _), .nil, ht3, ht4, fun p hp => N8 p (.tail _ (.tail _ hp)), lt8⟩
  case b4 => exact ⟨_, rfl, rfl⟩
  case b5 =>
    rintro i h h' ⟨ys, k, tb5, tb6, hD, hys, ht5, ht6, Nt, hne⟩ kk
    refine ⟨ys, k, tb5, tb6, kk _ _ hD (by simp only [List.mem_cons, List.not_mem_nil, or_false, not_or]; exact ⟨hDg.1, hD8⟩), hys, ht5, ht6, fun p hp => ⟨kk _ _ (Nt p hp).1 ?_, (Nt p hp).2⟩, hne⟩
    simp only [List.mem_cons, List.not_mem_nil, or_false, not_or]; exact ⟨(Nt p hp).2.1, hne p hp⟩
  case b6 =>
    rintro i tt h tk' m' oI hri hi ⟨ys, k, tb5, tb6, hD, hys, ht5, ht6, Nt, hne⟩ ⟨tl, m1, m2⟩ Fh NI
    have G1 := frame_has Fh m1
    have G2 := frame_has G1 ((if_neg (by decide)).trans m2)
    clear G1 Fh F7 F8
    have hlf := fdig_left hn5 hr0 hr1 i
    obtain ⟨left, hlt⟩ : ∃ left, (fdig n r i).2 = left := ⟨_, rfl⟩
    rw [hlt] at hlf G2
    have htO5 : ∀ p ∈ tb5 ++ (tb6 ++ ex), TabO p.2 := fun p hp => (List.mem_append.mp hp).elim (tab_O ht5 p) (fun hp => (List.mem_append.mp hp).elim (tab_O ht6 p) (hexO p))
    have Nh : News g9 L9 h ((D, listOf ys.toArray k) :: (h8.objs.size, oI) :: (tb5 ++ (tb6 ++ ex))) := by
      intro p hp
      rcases List.mem_cons.mp hp with rfl | hp
      · exact ⟨hD, hDg⟩
      · rcases List.mem_cons.mp hp with rfl | hp
        · exact NI _ (.head _)
        · exact Nt p hp
    have hnn : True → 1 ≤ n ∧ n ≤ 5 := fun _ => ⟨hn1, hn5⟩
    clear N7 N8 Nt NI hn1 hn5 hs1 hs2
    dsimp only
    iterate 17 walk1
    obtain ⟨hn1, hn5⟩ := hnn trivial
    refine ⟨X9.keeps G2.keep, ?_⟩
    refine' orders_C B9 G2 X9 T9 rfl (by ktr_room) (by ktr_units) (by omega) (by omega) ?_
    intro t3 h3 tk3 kp3
    have F3 := kp3.fr0 G2
    have N3 := kp3.news0 Nh
    rw [show ((n : Int) + (i : Int) * -1 - 1).toNat = n - 1 - i by omega]
    obtain ⟨nb, e1, e2, e3, e4, e5⟩ := fac_bits (n - 1 - i) (by omega)
    dsimp only
    walk1
    refine ⟨X9.keeps F3.keep, ?_⟩
    have N3t : News g9 L9 _ (tb5 ++ tb6) := fun p hp => N3 p (.tail _ (.tail _ ((List.mem_append.mp hp).elim (fun q => List.mem_append_left _ q) (fun q => List.mem_append_right _ (List.mem_append_left _ q)))))
    refine' divmod_C B9 F3 X9 T9 rfl (by ktr_room) (by ktr_units) C9 C8 N3t ht5 ht6 hlf.1 (by omega) e4 e5 e1 e2 e3 ?_
    intro P tb7 tb8 t5 t5' h5 tk5 hP5 hPn ht7 ht8 Nt5 kp5
    have F5 := kp5.fr F3 (fun a ha => by
      obtain ⟨o1, q1⟩ := tab_head ht5
      obtain ⟨o2, q2⟩ := tab_head ht6
      simp only [List.mem_cons, List.not_mem_nil, or_false] at ha
      rcases ha with rfl | rfl
      · exact (N3t _ (List.mem_append_left _ q1)).2
      · exact (N3t _ (List.mem_append_right _ q2)).2)
    have hD2 : D ∉ [(204 : Addr), 211] := by
      obtain ⟨o1, q1⟩ := tab_head ht5
      obtain ⟨o2, q2⟩ := tab_head ht6
      simp only [List.mem_cons, List.not_mem_nil, or_false, not_or]
      exact ⟨Ne.symm (tabO_seq (htO5 _ (List.mem_append_left _ q1)) (Nh.get (.tail _ (.tail _ (List.mem_append_left _ q1)))) (Nh.get (.head _)) rfl), Ne.symm (tabO_seq (htO5 _ (List.mem_append_right _ (List.mem_append_left _ q2))) (Nh.get (.tail _ (.tail _ (List.mem_append_right _ (List.mem_append_left _ q2))))) (Nh.get (.head _)) rfl)⟩
    have hI2 : h8.objs.size ∉ [(204 : Addr), 211] := by
      obtain ⟨o1, q1⟩ := tab_head ht5
      obtain ⟨o2, q2⟩ := tab_head ht6
      simp only [List.mem_cons, List.not_mem_nil, or_false, not_or]
      exact ⟨Ne.symm (hne _ (List.mem_append_left _ q1)), Ne.symm (hne _ (List.mem_append_right _ (List.mem_append_left _ q2)))⟩
    have N5' : News g9 L9 h5 ((D, listOf ys.toArray k) :: (h8.objs.size, oI) :: (tb7 ++ (tb8 ++ ex))) := by
      refine pick (kp5.news (pick N3 (.head _) News.nil) ?_) (.head _) (pick (kp5.news (pick N3 (.tail _ (.head _)) News.nil) ?_) (.head _) (news_two3 Nt5 (kp5.news (fun p hp => N3 p (.tail _ (.tail _ (List.mem_append_right _ (List.mem_append_right _ hp))))) (fun p hp => by simpa using (hexm p hp).2))))
      · simpa using hD2
      · simpa using hI2
    have N5 := news_add N5' F3 hPn hP5
    have htO7 : ∀ p ∈ tb7 ++ (tb8 ++ ex), TabO p.2 := fun p hp => (List.mem_append.mp hp).elim (tab_O ht7 p) (fun hp => (List.mem_append.mp hp).elim (tab_O ht8 p) (hexO p))
    have hyl : ys.length ≤ 5 := by rw [hys.length, fdig_len]; omega
    clear hP5 N3 N3t F3 kp5 kp3 Nt5 N5' G2 Nh e1 e2 e3 e4 e5 hn1 hn5 hnn
    dsimp only
    k_steps
    (rename Fr g9 L9 _ _ => F6)
    (rename News g9 L9 _ _ => N6)
    refine wpAny_list_append_plain (items := ys.toArray) ⟨k, N6.get (.tail _ (.head _))⟩ (fun h7 hl7 hs7 => ?_) (by simp only [List.size_toArray]; rw [sizeLine_eq]; omega)
    obtain ⟨n7, hl7⟩ := hl7
    rw [List.push_toArray] at hl7
    have kp7 : Keep [D] _ h7 := fun b o e n => (hs7.2 b (by simpa using n)).trans e
    have F7 := kp7.fr F6 (fun a ha => by simp only [List.mem_singleton] at ha; subst ha; exact hDg)
    refine wpAny_execs_nil ?_
    refine ⟨h7, _, _, rfl, F7, ⟨t5', ?_, rfl⟩, ⟨_, n7, tb7, tb8, hl7, ?_, ht7, ht8, ?_, ?_⟩, ?_⟩
    · show _ = some (Value.int ((fdig n r i).2 % fac (n - 1 - i)) t5')
      rw [hlt]; rfl
    · show IntsAre _ ((fdig n r i).1 ++ [(fdig n r i).2 / fac (n - 1 - i)])
      rw [hlt]; exact hys.append (.cons _ _ .nil)
    · refine kp7.news (fun p hp => N6 p (.tail _ (.tail _ (.tail _ hp)))) (fun p hp => ?_)
      simp only [List.mem_singleton]
      exact tabO_seq (htO7 p hp) (N6.get (.tail _ (.tail _ (.tail _ hp)))) (N6.get (.tail _ (.head _))) rfl
    · intro p hp
      exact tabO_ri (htO7 p hp) (N6.get (.tail _ (.tail _ (.tail _ hp)))) (N6.get (.tail _ (.tail _ (.head _)))) hri
    · exact kp7 _ _ (N6.get (.tail _ (.tail _ (.head _)))) (by simp only [List.mem_singleton]; exact Ne.symm hD8)
  case b7 =>
    rintro h tk' m' ⟨ys, k, tb5, tb6, hD, hys, ht5, ht6, Nt, hne⟩ ⟨tl, m1, m2⟩ Fh
    have G1 := frame_has1 Fh m2
    have Nh : News g9 L9 h ((D, listOf ys.toArray k) :: (tb5 ++ (tb6 ++ ex))) := pick (fun p hp => by simp only [List.mem_singleton] at hp; subst hp; exact ⟨hD, hDg⟩) (List.mem_singleton.mpr rfl) Nt
    clear N7 N8 Nt Fh F7 F8 hn1 hn5
    dsimp only
    k_steps
    (rename Fr g9 L9 _ _ => F5)
    (rename News g9 L9 _ _ => N5)
    exact ret D ys k tb5 tb6 _ _ (N5 _ (.head _)).1 hys hDnew ht5 ht6 (up_news F N GS9 (fun p hp => N5 p (.tail _ ((List.mem_append.mp hp).elim (fun q => List.mem_append_left _ q) (fun q => List.mem_append_right _ (List.mem_append_left _ q)))))) (keep_ex N GS9 F5 hex N5 (fun p hp => .tail _ (List.mem_append_right _ (List.mem_append_right _ hp))))
end
end
section
open PySem PySem.W PyProof.Rows PySem.Spec PySem.Calls
section
variable {prog : Program} {w : World} {A : Around} {Q : Flow → Shared → Prop} {env : Env} {body : List Stmt} {test : PySem.Expr} {pos : Pos} {m : Str → Option Value} {h₀ : Heap} {L : Addr} {s : Shared}
/-- a while loop by an invariant whose number falls -/
theorem whileM (J : Nat → Heap → (Str → Option Value) → Prop) {n₀ : Nat} (F : Fr h₀ L s.heap m) (h0 : J n₀ s.heap m)
    (turn : ∀ (n : Nat) (h : Heap) (tk : Nat) (m' : Str → Option Value), Fr h₀ L h m' → J n h m' →
      wpAny (model prog w) A (isTrue test env (eval test env)) (fun b s₂ =>
        if b = true then wpAny (model prog w) A (execs body env) (fun f s' => match f with | .next => ∃ n' h' tk' m'', n' < n ∧ s' = { s with heap := h', toks := tk' } ∧ Fr h₀ L h' m'' ∧ J n' h' m'' | .ret v => Q (.ret v) s' | _ => False) (fun _ _ => False) s₂ else Q .next s₂) (fun _ _ => False) { s with heap := h, toks := tk })
    : wpAny (model prog w) A (exec (.While test body [] pos) env) Q (fun _ _ => False) s := by
  refine wpAny_While (codeAny_whileLoop (fun n s' => ∃ h tk m', s' = { s with heap := h, toks := tk } ∧ Fr h₀ L h m' ∧ J n h m') ?_ n₀ ⟨s.heap, s.toks, m, rfl, F, h0⟩)
  rintro n s' ⟨h, tk, m', rfl, F', j⟩
  refine wpAny_mono (turn n h tk m' F' j) (fun b s₂ h₂ => ?_) (fun _ _ e => e.elim)
  cases b with
  | false =>
    simp only [Bool.false_eq_true, if_false] at h₂ ⊢
    exact wpAny_execs_nil h₂
  | true =>
    simp only [if_true] at h₂ ⊢
    refine wpAny_mono h₂ (fun f s₃ h₃ => ?_) (fun _ _ e => e.elim)
    cases f with
    | ret v => exact h₃
    | brk => exact h₃.elim
    | cont => exact h₃.elim
    | next =>
      obtain ⟨n', h', tk', m'', hn, rfl, F'', j''⟩ := h₃
      exact ⟨n', hn, h', tk', m'', rfl, F'', j''⟩
end
theorem item_ints {prog : Program} {w : World} {A : Around} {E : Value → Shared → Prop} {s : Shared} {value slice : PySem.Expr} {D : Addr} {ys : List Value} {xs : List Int} {v : Int} {d : Int} {t : Tok} {Q : Value → Shared → Prop} (hl : s.heap.IsList D ys.toArray) (hT : IntsAre ys xs) (h0 : 0 ≤ d) (hi : xs[d.toNat]? = some v) (h63 : d < 2 ^ 63)
    (h : ∀ t', Q (.int v t') s) (hs : subscripted slice false (.ref D) (.int d t) = operate [.ref D, .int d t] (getItem (.ref D) (.int d t))) :
    wpAny (model prog w) A (subscriptTail value slice (.ref D) (.int d t)) Q E s := by
  obtain ⟨t', ht⟩ := hT.get _ _ hi
  exact tail_any hl.typeIs slot_list_getitem.lookup (wpAny_getItem_list hl h0 h63 (by simpa using ht) (h t')) hs
/-- how long the ring is that goes through first -/
def ringLen (os : List Int) (first : Int) : Nat → Int → Int → Option Int
  | 0, _, _ => none
  | f + 1, pl, ln => if pl = first then some ln else if 0 ≤ pl then (match os[pl.toNat]? with | some q => ringLen os first f q (ln + 1) | none => none) else none
/-- the first multiple of ln among many, many + step, .. -/
def multUp : Nat → Int → Int → Int → Option Int
  | 0, _, _, _ => none
  | f + 1, many, step, ln => if many % ln = 0 then some many else multUp f (many + step) step ln
def ringsTo (os : List Int) : Nat → Option Int
  | 0 => some 1
  | i + 1 => match ringsTo os i with
    | none => none
    | some many => match os[i]? with
      | none => none
      | some q => match ringLen os i 20 q 1 with
        | none => none
        | some ln => multUp 100 many many ln
theorem ringsTo_all {os : List Int} : ∀ {n : Nat} {r : Int}, ringsTo os n = some r → ∀ i, i ≤ n → ∃ r', ringsTo os i = some r'
  | 0, r, h, i, hi => ⟨1, by rw [Nat.le_zero.mp hi]; rfl⟩
  | n + 1, r, h, i, hi => by
    by_cases e : i = n + 1
    · exact ⟨r, e ▸ h⟩
    · have : ∃ r', ringsTo os n = some r' := by
        unfold ringsTo at h
        cases q : ringsTo os n with
        | none => rw [q] at h; cases h
        | some r' => exact ⟨r', rfl⟩
      obtain ⟨r', hr'⟩ := this
      exact ringsTo_all hr' i (by omega)
theorem ringsTo_succ {os : List Int} {i : Nat} {r : Int} (h : ringsTo os (i + 1) = some r) : ∃ many q ln, ringsTo os i = some many ∧ os[i]? = some q ∧ ringLen os i 20 q 1 = some ln ∧ multUp 100 many many ln = some r := by
  unfold ringsTo at h
  cases q1 : ringsTo os i with
  | none => rw [q1] at h; cases h
  | some many =>
    rw [q1] at h
    simp only at h
    cases q2 : os[i]? with
    | none => rw [q2] at h; cases h
    | some q =>
      rw [q2] at h
      simp only at h
      cases q3 : ringLen os i 20 q 1 with
      | none => rw [q3] at h; cases h
      | some ln => rw [q3] at h; exact ⟨many, q, ln, rfl, rfl, q3, h⟩
theorem up_range (n : Nat) (h5 : n ≤ 5) : Builtin.Range.small 0 n 1 = true ∧ Builtin.Range.rangeSize 0 n 1 = (n : Int) := by
  have : n = 0 ∨ n = 1 ∨ n = 2 ∨ n = 3 ∨ n = 4 ∨ n = 5 := by omega
  rcases this with rfl | rfl | rfl | rfl | rfl | rfl <;> decide
end
section
open PySem PySem.W PyProof.Rows PySem.Spec PySem.Calls PySem.Builtin PySem.Builtin.Str
section
variable {w : World} {p : Program} {loose : List Str} {mean : ExcName → Option Value} {mg mb : Str → Option Value} {dp un : Nat} {gd : Option (List Code)} {cn : Str} {cs : Scope} {a : Addr} {ccd : Value} {cl : List (Str × Addr)} {outer : List Env} {A₀ : Around} {base h₀ : Heap} {L : Addr} {m : Str → Option Value} {s : Shared} {Q E : Value → Shared → Prop}
theorem rings_C {dl : Addr} {items : List Value} {os : List Int} {k : Nat} {home : Int} (B : Below A₀ base outer h₀) (F : Fr h₀ L s.heap m) (X : (hd.heap_39 w.params).In h₀) (T : Top p loose mean mg mb h₀) (hk : cs.kind = .function) (hd : dp + 1 < recursionLimit) (hu : un + 8 < cLine)
    (hdl : s.heap.get? dl = some (listOf items.toArray k)) (hio : IntsAre items os) (hn5 : os.length ≤ 5) (hr : ringsTo os os.length = some home)
    (ret : ∀ t h' tk', Keep [] s.heap h' → Q (.int home t) { s with heap := h', toks := tk' }) :
    wpAny (model PR w) (ktrTop dp un gd cn cs L a ccd cl outer) (call (.ref 249) [.ref dl]) Q E s := by
  have N : News h₀ L s.heap [] := News.nil
  refine wpAny_call ?_
  k_dflt (walk_at "my enter")
  rename_i g9 L9 h9 FG9 F9 N9 B9 X9 T9 GS9
  refine wpAny_mono (E := fun _ _ => False) ?_ (fun _ _ h => h) (fun _ _ h => h.elim)
  have hlg : g9.IsList dl items.toArray := ⟨_, GS9 _ _ hdl (by simp), rfl, k, rfl⟩
  have hlen : items.toArray.size = os.length := by rw [List.size_toArray, hio.length]
  have hnn : True → os.length ≤ 5 := fun _ => hn5
  have hio' : True → IntsAre items os := fun _ => hio
  clear hn5 hio
  iterate 5 walk1
  refine wpAny_For ?_ (by intro _; rfl)
  iterate 10 walk1
  (rename Fr g9 L9 _ _ => F1)
  refine len_list (hlg.at fun o e => F1.keep _ _ e) (by rw [hlen]; have := hnn trivial; omega) ?_
  rw [hlen]
  iterate 2 walk1
  (rename Fr g9 L9 _ _ => F2)
  (rename IsRange _ _ _ _ _ _ _ _ => hr2)
  obtain ⟨hs1, hs2⟩ := up_range os.length (hnn trivial)
  rename_i h8 tk8 t8 u8 v8 N8 kp8
  refine' forRange2 (n := os.length) (fun _ _ => True)
    (fun i m' => ∃ many t, ringsTo os i = some many ∧ m' (Str.ofString "many") = some (.int many t) ∧ 1 ≤ many ∧ m' (Str.ofString "order") = some (.ref dl))
    F2 hr2 hs1 hs2 trivial ⟨1, _, rfl, rfl, by decide, rfl⟩ (fun _ _ _ _ _ => trivial) ?b6 ?b7 rfl rfl rfl
  case b6 =>
    rintro i tt h tk' m' oI hri hi - ⟨many, tm, hm, m1, m2, m3⟩ Fh NI
    obtain ⟨many', hm'⟩ := ringsTo_all hr (i + 1) hi
    obtain ⟨many2, q, ln, hm2, hq, hln, hmu⟩ := ringsTo_succ hm'
    rw [hm] at hm2; cases hm2
    have G1 := frame_has Fh m1
    have G2 := frame_has G1 ((if_neg (by decide)).trans m3)
    clear G1 Fh F2 N8
    have hfi : (0 : Int) + (i : Int) * 1 = i := by omega
    rw [hfi] at G2
    have hi5 : i < 5 := by have := hnn trivial; omega
    have Nh : News g9 L9 h [(h8.objs.size, oI)] := NI
    clear NI
    iterate 9 walk1
    (rename Fr g9 L9 _ _ => F3)
    refine item_ints (hlg.at fun o e => F3.keep _ _ e) (hio' trivial) (by omega) (by simpa using hq) (by omega) ?_ (by with_unfolding_all rfl)
    intro tq
    iterate 2 walk1
    (rename Fr g9 L9 _ _ => F4)
    (rename News g9 L9 _ _ => N4)
    clear G2
    have hNI := (N4 _ (.head _)).2
    refine' whileM (fun f h m' => ∃ pl ln' tp tl, m' (Str.ofString "place") = some (.int pl tp) ∧ m' (Str.ofString "length") = some (.int ln' tl) ∧ m' (Str.ofString "first") = some (.int i tt) ∧ m' (Str.ofString "order") = some (.ref dl) ∧ m' (Str.ofString "many") = some (.int many tm) ∧ ringLen os i f pl ln' = some ln ∧ 1 ≤ ln' ∧ h.get? h8.objs.size = some oI) (n₀ := 20)
      F4 ⟨q, 1, tq, _, rfl, rfl, rfl, rfl, rfl, hln, by decide, N4.get (.head _)⟩ ?c1
    clear F4 N4
    rintro f h5 tk5 m5 F5 ⟨pl, ln', tp, tl, a1, a2, a3, a4, a5, a6, a7, a8⟩
    have N5 : News g9 L9 h5 [(h8.objs.size, oI)] := fun p hp => by simp only [List.mem_singleton] at hp; subst hp; exact ⟨a8, hNI⟩
    have G1 := frame_has1 F5 a1
    have G2 := frame_has1 G1 ((if_neg (by decide)).trans a2)
    have G3 := frame_has1 G2 ((if_neg (by decide)).trans ((if_neg (by decide)).trans a3))
    have G4 := frame_has1 G3 ((if_neg (by decide)).trans ((if_neg (by decide)).trans ((if_neg (by decide)).trans a4)))
    have G5 := frame_has1 G4 ((if_neg (by decide)).trans ((if_neg (by decide)).trans ((if_neg (by decide)).trans ((if_neg (by decide)).trans a5))))
    clear G1 G2 G3 G4 F5
    cases f with
    | zero => cases a6
    | succ f =>
      unfold ringLen at a6
      by_cases hpl : pl = (i : Int)
      · rw [if_pos hpl] at a6
        cases a6
        iterate 5 walk1
        rw [if_neg (by simp [hpl])]
        dsimp only
        iterate 5 walk1
        (rename Fr g9 L9 _ _ => F4)
        (rename News g9 L9 _ _ => N4)
        refine' whileM (fun f h m' => ∃ mn tmn, m' (Str.ofString "many") = some (.int mn tmn) ∧ m' (Str.ofString "length") = some (.int ln tl) ∧ m' (Str.ofString "step") = some (.int many tm) ∧ m' (Str.ofString "order") = some (.ref dl) ∧ multUp f mn many ln = some many' ∧ 1 ≤ mn ∧ h.get? h8.objs.size = some oI) (n₀ := 100)
          F4 ⟨many, tm, rfl, rfl, rfl, rfl, hmu, m2, N4.get (.head _)⟩ ?c2
        clear F4 N4
        rintro f h6 tk6 m6 F6 ⟨mn, tmn, b1, b2, b3, b4, b5, b6, b7⟩
        have N6 : News g9 L9 h6 [(h8.objs.size, oI)] := fun p hp => by simp only [List.mem_singleton] at hp; subst hp; exact ⟨b7, hNI⟩
        have G1 := frame_has1 F6 b1
        have G2 := frame_has1 G1 ((if_neg (by decide)).trans b2)
        have G3 := frame_has1 G2 ((if_neg (by decide)).trans ((if_neg (by decide)).trans b3))
        have G4 := frame_has1 G3 ((if_neg (by decide)).trans ((if_neg (by decide)).trans ((if_neg (by decide)).trans b4)))
        clear G1 G2 G3 F6
        cases f with
        | zero => cases b5
        | succ f =>
          unfold multUp at b5
          have efm : mn.fmod ln = mn % ln := Int.fmod_eq_emod_of_nonneg _ (by omega)
          iterate 8 walk1
          rw [efm]
          by_cases hz : mn % ln = 0
          · rw [if_pos hz] at b5
            cases b5
            rw [if_neg (by simp [hz])]
            dsimp only
            refine wpAny_execs_nil ?_
            exact ⟨h6, _, _, rfl, G4, ⟨_, tmn, hm', rfl, b6, rfl⟩, trivial, b7⟩
          · rw [if_neg hz] at b5
            rw [if_pos (by simp [hz])]
            iterate 7 walk1
            refine wpAny_execs_nil ?_
            (rename Fr g9 L9 _ _ => F4)
            (rename News g9 L9 _ _ => N4)
            exact ⟨f, _, _, _, Nat.lt_succ_self _, rfl, F4, mn + many, _, rfl, rfl, rfl, rfl, b5, by omega, N4.get (.head _)⟩
      · rw [if_neg hpl] at a6
        iterate 5 walk1
        rw [if_pos (by simp [hpl])]
        have hp0 : 0 ≤ pl := by
          by_cases h0 : 0 ≤ pl
          · exact h0
          · rw [if_neg h0] at a6; cases a6
        rw [if_pos hp0] at a6
        obtain ⟨q2, hq2, a6⟩ : ∃ q2, os[pl.toNat]? = some q2 ∧ ringLen os i f q2 (ln' + 1) = some ln := by
          cases e : os[pl.toNat]? with
          | none => rw [e] at a6; cases a6
          | some q2 => rw [e] at a6; exact ⟨q2, rfl, a6⟩
        have hplt : pl < 5 := by
          have := (List.getElem?_eq_some_iff.mp hq2).1
          have := hnn trivial
          omega
        iterate 5 walk1
        (rename Fr g9 L9 _ _ => F3)
        refine item_ints (hlg.at fun o e => F3.keep _ _ e) (hio' trivial) (by omega) hq2 (by omega) ?_ (by with_unfolding_all rfl)
        intro tq3
        iterate 7 walk1
        refine wpAny_execs_nil ?_
        (rename Fr g9 L9 _ _ => F4)
        (rename News g9 L9 _ _ => N4)
        exact ⟨f, _, _, _, Nat.lt_succ_self _, rfl, F4, q2, ln' + 1, _, _, rfl, rfl, rfl, rfl, rfl, a6, by omega, N4.get (.head _)⟩
  case b7 =>
    rintro h tk' m' - ⟨many, tm, hm, m1, m2, m3⟩ Fh
    rw [hr] at hm; cases hm
    have G1 := frame_has1 Fh m1
    have Nh : News g9 L9 h [] := News.nil
    clear Fh F2 N8
    dsimp only
    k_steps
    exact ret _ _ _ (keep_of GS9 G1)
end
end
section
open PySem PySem.W PyProof.Rows PySem.Spec PySem.Calls
def lawBody : Option (List Stmt × Scope) := PySem.Challenge.pw_ny0257_02.main.body.findSome? (fun st => match st with | .FunctionDef n _ b _ _ _ sc _ _ _ => if n == Str.ofString "law" then some (b, sc) else none | _ => none)
def lawSc : { b : Scope // lawBody.map (·.2) = some b } := ⟨_, by conv => lhs; whnf⟩
def lawAt (i : Nat) : Option Stmt := match lawBody with
  | some b => b.1[i]?
  | none => none
def S1 : { b : Stmt // lawAt 2 = some b } := ⟨_, by conv => lhs; whnf⟩
def S2 : { b : Stmt // lawAt 3 = some b } := ⟨_, by conv => lhs; whnf⟩
def S3 : { b : Stmt // lawAt 4 = some b } := ⟨_, by conv => lhs; whnf⟩
def S4 : { b : Stmt // lawAt 5 = some b } := ⟨_, by conv => lhs; whnf⟩
def S5 : { b : Stmt // lawAt 6 = some b } := ⟨_, by conv => lhs; whnf⟩
def S6 : { b : Stmt // lawAt 7 = some b } := ⟨_, by conv => lhs; whnf⟩
def S7 : { b : Stmt // lawAt 8 = some b } := ⟨_, by conv => lhs; whnf⟩
def S8 : { b : Stmt // lawAt 9 = some b } := ⟨_, by conv => lhs; whnf⟩
def S9 : { b : Stmt // lawAt 10 = some b } := ⟨_, by conv => lhs; whnf⟩
def S10 : { b : Stmt // lawAt 11 = some b } := ⟨_, by conv => lhs; whnf⟩
def S11 : { b : Stmt // lawAt 12 = some b } := ⟨_, by conv => lhs; whnf⟩
def S12 : { b : Stmt // lawAt 13 = some b } := ⟨_, by conv => lhs; whnf⟩
/-- the law's cells: k, order, runs -/
abbrev lawCl (L : Addr) : List (Str × Addr) := cellsFrom (L + 1) lawSc.1.names []
abbrev lawEnv (L a : Addr) (ccd : Value) : Env := envX (Str.ofString "law") lawSc.1 L a ccd (lawCl L)
abbrev lawA (dp un : Nat) (gd : Option (List Code)) (L a : Addr) (ccd : Value) (outer : List Env) : Around := ktrTop dp un gd (Str.ofString "law") lawSc.1 L a ccd (lawCl L) outer
example : (lawAt 14).isNone = true := rfl
section
variable {prog : Program} {w : World} {A : Around} {E : Value → Shared → Prop} {R : Result → Shared → Prop} {env : Env} {body : List Stmt} {tgt : PySem.Expr} {m : Str → Option Value} {h₀ : Heap} {L l : Addr} {s : Shared} {news : List (Addr × Obj)} {n : Nat}
/-- a loop over an empty list of the ledger -/
theorem forEmpty (F : Fr h₀ L s.heap m) (N : News h₀ L s.heap news) (hm : (l, listOf #[] n) ∈ news)
    (done : ∀ h tk, Fr h₀ L h m → News h₀ L h news → R (.ok .next) { s with heap := h, toks := tk }) (hh : A.handled = none) :
    wpAny (model prog w) A (pyIter (.ref l)) (fun it s₂ => codeAny (model prog w) A (.forLoop tgt it body [] env) R s₂) E s := by
  have hl : s.heap.IsList l #[] := ⟨_, N.get hm, rfl, n, rfl⟩
  refine wpAny_pyIter_list hl ?_
  have kp0 : Keep [] s.heap (s.heap.push { cls := .type "list_iterator", data := .fields #[.ref l, .int 0 0] }) := fun b o e _ => Heap.get?_push_of_some _ e
  have hI : ∀ p ∈ news, p.1 ∉ [s.heap.objs.size] := fun p hp => by simpa using Nat.ne_of_lt (Heap.lt_size (N.get hp))
  have hI2 : s.heap.objs.size ≠ L ∧ h₀.get? s.heap.objs.size = none := fr_fresh F (by
    cases e : s.heap.get? s.heap.objs.size with
    | none => rfl
    | some o => exact absurd (Heap.lt_size e) (Nat.lt_irrefl _))
  refine codeAny_forLoop_any (fun k s' => k = 0 ∧ s' = { s with heap := s.heap.push { cls := .type "list_iterator", data := .fields #[.ref l, .int 0 0] } }) ?_ 0 ⟨rfl, rfl⟩
  rintro k s' ⟨-, rfl⟩
  refine wpAny_pyNext_list_end hh (it := s.heap.objs.size) ⟨_, Heap.get?_push_size _ rfl, rfl, rfl⟩ (hl.at fun o e => kp0 _ _ e (by simp)) (by simp) fun h₁ he₁ => wpAny_execs_nil ?_
  have k1 : Keep [s.heap.objs.size] s.heap h₁ := fun b o e nn => he₁ b o (by simpa using nn) (kp0 b o e (by simp))
  exact done h₁ _ (k1.fr F (fun a ha => by simp only [List.mem_singleton] at ha; subst ha; exact hI2)) (k1.news N hI)
end
end
section
open PySem PySem.W PyProof.Rows PySem.Spec PySem.Calls PySem.Builtin PySem.Builtin.Str
section
variable {w : World} {p : Program} {loose : List Str} {mean : ExcName → Option Value} {mg mb : Str → Option Value} {dp un : Nat} {gd : Option (List Code)} {a : Addr} {ccd : Value} {outer : List Env} {A₀ : Around} {base h₀ : Heap} {L : Addr} {m : Str → Option Value} {s : Shared} {Q : Flow → Shared → Prop}
abbrev T204 := Tab2 204 130 (Str.ofString "_int2digits.<locals>.inner")
abbrev T211 := Tab2 211 145 (Str.ofString "_digits2int.<locals>.inner")
theorem law1 {x : Int} {n : Nat} {t1 t2 : Tok} {tb1 tb2 : List (Addr × Obj)} (B : Below A₀ base outer h₀) (F : Fr h₀ L s.heap m) (X : (hd.heap_39 w.params).In h₀) (T : Top p loose mean mg mb h₀) (hd : dp + 200 < recursionLimit) (hu : un + 1200 < cLine) (C1 : CodeHd h₀ 208 204) (C2 : CodeHd h₀ 215 211)
    (N : News h₀ L s.heap (tb1 ++ tb2)) (ht1 : T204 tb1) (ht2 : T211 tb2)
    (hx0 : 0 ≤ x) (hx1 : x < 10 ^ 30) (hn1 : 1 ≤ n) (hn5 : n ≤ 5) (m1 : m (Str.ofString "number") = some (.int x t1)) (m2 : m (Str.ofString "n") = some (.int n t2))
    (ret : ∀ D items k tb1' tb2' h' tk', h'.get? D = some (listOf items.toArray k) → IntsAre items (fdig n (x % fac n) n).1 → s.heap.get? D = none → T204 tb1' → T211 tb2' → News h₀ L h' (tb1' ++ tb2') → Keep [L, 204, 211] s.heap h' → Fr h₀ L h' (fun y => if y = Str.ofString "digits" then some (.ref D) else m y) → Q .next { s with heap := h', toks := tk' }) :
    wpAny (model PR w) (lawA dp un gd L a ccd outer) (exec S1.1 (lawEnv L a ccd)) Q (fun _ _ => False) s := by
  have G1 := frame_has1 F m1
  have G2 := frame_has1 G1 ((if_neg (by decide)).trans m2)
  clear G1
  dsimp only [S1]
  iterate 9 walk1
  refine ⟨X.keeps G2.keep, ?_⟩
  refine' digits_C B G2 X T rfl (by ktr_room) (by ktr_units) C1 C2 N ht1 ht2 hx0 hx1 hn1 hn5 ?_
  intro D items k tb3 tb4 h3 tk3 hD hi hDn ht3 ht4 N3 kp3
  have F3 := kp3.fr F (fun a ha => by
    obtain ⟨o1, q1⟩ := tab_head ht1
    obtain ⟨o2, q2⟩ := tab_head ht2
    simp only [List.mem_cons, List.not_mem_nil, or_false] at ha
    rcases ha with rfl | rfl
    · exact (N _ (List.mem_append_left _ q1)).2
    · exact (N _ (List.mem_append_right _ q2)).2)
  refine wpAny_storeName_local rfl F3.ns (fun h₂ hn₂ hs₂ => ?_) rfl
  replace hs₂ : Heap.SameBut L h3 h₂ := hs₂
  have F4 := F3.set hn₂ hs₂
  have k2 : Keep [L] h3 h₂ := fun b o e nn => (hs₂.2 b (by simpa using nn)).trans e
  have hDL := fr_fresh F hDn
  refine ret D items k tb3 tb4 h₂ _ (k2 _ _ hD (by simpa using hDL.1)) hi hDn ht3 ht4 (k2.news N3 (fun p hp => by simpa using (N3 p hp).2.1)) ?_ F4
  exact fun b o e nn => k2 b o (kp3 b o e (fun q => nn (.tail _ q))) (fun q => nn (by simp only [List.mem_singleton] at q; simp [q]))
local macro_rules | `(tactic| k_all) => `(tactic| exact fun p hp => Nat.ne_of_lt (allLt_mem (by assumption) hp))
theorem law2 {news : List (Addr × Obj)} (B : Below A₀ base outer h₀) (F : Fr h₀ L s.heap m) (X : (hd.heap_39 w.params).In h₀) (T : Top p loose mean mg mb h₀) (hd : dp + 200 < recursionLimit) (hu : un + 1200 < cLine) (N : News h₀ L s.heap news)
    (ret : ∀ l x dx hs tkh k n h' tk', News h₀ L h' ((l, listOf #[] n) :: (x, instObj 184 dx) :: (dx, dictOf [⟨hs, .str (Str.ofString "_headers") tkh, .ref l⟩] k) :: news) → (∀ p ∈ news, @LT.lt Nat _ p.1 dx) → @LT.lt Nat _ dx x → @LT.lt Nat _ x l → Fr h₀ L h' (fun y => if y = Str.ofString "table" then some (.ref x) else m y) → Q .next { s with heap := h', toks := tk' }) :
    wpAny (model PR w) (lawA dp un gd L a ccd outer) (exec S2.1 (lawEnv L a ccd)) Q (fun _ _ => False) s := by
  dsimp only [S2]
  iterate 4 walk1
  k_dflt (refine' call_cls ?k1 ?k2 ?k3 ?k4 ?k5 ?k6 ?_; (case k1 => k_asm); (case k2 => k_asm); (case k3 => k_asm); (case k4 => k_is); (case k5 => k_is); (case k6 => k_is); k_whole)
  intro x d h1 F1 N1 l1 l2
  have l3 := l1
  have l4 : @LT.lt Nat _ d x := l2
  have l1' : AllLt d news := allLt_of l1
  clear l1 l2
  k_dflt (walk_at "my enter")
  k_steps
  refine wpAny_For ?_ (by intro _; rfl)
  walk1
  (rename_i g9 L9 h9 FG9 B9 X9 T9 GS9 tk8 l h8 lL h7 tk7 h6 F6 N6)
  refine' forEmpty F6 N6 (.head _) ?_ rfl
  clear F6 N6
  intro h5 tk5 F5 N5
  dsimp only
  k_steps
  (rename Fr h₀ L _ _ => F4)
  (rename News h₀ L _ _ => N4)
  exact ret l x d _ _ _ _ _ _ N4 l3 l4 lL.1 F4
end
end
section
open PySem PySem.W PyProof.Rows PySem.Spec PySem.Calls PySem.Builtin PySem.Builtin.Str
section
variable {w : World} {p : Program} {loose : List Str} {mean : ExcName → Option Value} {mg mb : Str → Option Value} {dp un : Nat} {gd : Option (List Code)} {a : Addr} {ccd : Value} {outer : List Env} {A₀ : Around} {base h₀ : Heap} {L : Addr} {m : Str → Option Value} {s : Shared} {Q : Flow → Shared → Prop}
def st0 (i : Nat) : List (Nat × Bool) := (List.range i).map fun j => (j, false)
theorem st0_succ (i : Nat) : st0 (i + 1) = st0 i ++ [(i, false)] := by unfold st0; rw [List.range_succ, List.map_append]; rfl
theorem fr_ext {h₀ h : Heap} {L : Addr} {m m' : Str → Option Value} (F : Fr h₀ L h m') (e : ∀ y, m' y = m y) : Fr h₀ L h m := by
  have : m' = m := funext e
  rw [← this]; exact F
theorem has1_ext {m : Str → Option Value} {z : Str} {v : Option Value} (hz : m z = v) : ∀ y, (if y = z then v else m y) = m y := fun y => by
  by_cases h : y = z
  · subst h; rw [if_pos rfl, hz]
  · rw [if_neg h]
theorem ne_of_data {h : Heap} {a b : Addr} {o o' : Obj} (ha : h.get? a = some o) (hb : h.get? b = some o') (hd : o.data ≠ o'.data) : a ≠ b := by
  rintro rfl; rw [ha] at hb; cases hb; exact hd rfl
theorem law3 {n nn kk : Nat} {l x dx : Addr} {hs : Int} {tkh t2 : Tok} {ok : Obj} {vk : Option Value} {news : List (Addr × Obj)} (B : Below A₀ base outer h₀) (F : Fr h₀ L s.heap m) (X : (hd.heap_39 w.params).In h₀) (T : Top p loose mean mg mb h₀) (hd : dp + 200 < recursionLimit) (hu : un + 1200 < cLine)
    (N : News h₀ L s.heap ((l, listOf #[] nn) :: (x, instObj 184 dx) :: (dx, dictOf [⟨hs, .str (Str.ofString "_headers") tkh, .ref l⟩] kk) :: (L + 1, ok) :: news)) (hok : ok.data = .cell vk) (hoff : ∀ p ∈ news, p.1 ≠ l ∧ p.1 ≠ L + 1)
    (hn5 : n ≤ 5) (m1 : m (Str.ofString "table") = some (.ref x)) (m2 : m (Str.ofString "n") = some (.int n t2))
    (ret : ∀ vs n' ok' vk' h' tk', News h₀ L h' ((l, listOf vs.toArray n') :: (x, instObj 184 dx) :: (dx, dictOf [⟨hs, .str (Str.ofString "_headers") tkh, .ref l⟩] kk) :: (L + 1, ok') :: news) → ok'.data = .cell vk' → Rows h' vs (st0 n) → Fr h₀ L h' m → Q .next { s with heap := h', toks := tk' }) :
    wpAny (model PR w) (lawA dp un gd L a ccd outer) (exec S3.1 (lawEnv L a ccd)) Q (fun _ _ => False) s := by
  have G1 := frame_has1 F m2
  have hnn : True → n ≤ 5 := fun _ => hn5
  clear hn5
  dsimp only [S3]
  refine wpAny_For ?_ (by intro _; rfl)
  iterate 7 walk1
  (rename Fr h₀ L _ _ => F8)
  (rename News h₀ L _ _ => N8)
  (rename IsRange _ _ _ _ _ _ _ _ => hr8)
  obtain ⟨hs1, hs2⟩ := up_range n (hnn trivial)
  rename_i h8 tk8 t8 u8 v8 kp8
  have hlg := (N8 _ (.head _)).2
  have hxg := (N8 _ (.tail _ (.head _))).2
  have hdg := (N8 _ (.tail _ (.tail _ (.head _)))).2
  have hcg := (N8 _ (.tail _ (.tail _ (.tail _ (.head _))))).2
  have hng : ∀ p ∈ news, p.1 ≠ L ∧ h₀.get? p.1 = none := fun p hp => (N8 p (.tail _ (.tail _ (.tail _ (.tail _ hp))))).2
  have hlc : l ≠ L + 1 := ne_of_data (N8.get (.head _)) (N8.get (.tail _ (.tail _ (.tail _ (.head _))))) (by intro e; rw [hok] at e; cases e)
  have hxc : x ≠ L + 1 := ne_of_data (N8.get (.tail _ (.head _))) (N8.get (.tail _ (.tail _ (.tail _ (.head _))))) (by intro e; rw [hok] at e; cases e)
  have hdc : dx ≠ L + 1 := ne_of_data (N8.get (.tail _ (.tail _ (.head _)))) (N8.get (.tail _ (.tail _ (.tail _ (.head _))))) (by intro e; rw [hok] at e; cases e)
  have hxl : x ≠ l := ne_of_data (N8.get (.tail _ (.head _))) (N8.get (.head _)) (by simp)
  have hdl : dx ≠ l := ne_of_data (N8.get (.tail _ (.tail _ (.head _)))) (N8.get (.head _)) (by simp)
  have lt8 : ∀ {p : Addr × Obj}, p ∈ ((l, listOf #[] nn) :: (x, instObj 184 dx) :: (dx, dictOf [⟨hs, .str (Str.ofString "_headers") tkh, .ref l⟩] kk) :: (L + 1, ok) :: news) → p.1 ≠ h8.objs.size := fun hp => Nat.ne_of_lt (Heap.lt_size (N8.get hp))
  have hlI := lt8 (.head _)
  have hxI := lt8 (.tail _ (.head _))
  have hdI := lt8 (.tail _ (.tail _ (.head _)))
  have hnI : ∀ p ∈ news, p.1 ≠ h8.objs.size := fun p hp => lt8 (.tail _ (.tail _ (.tail _ (.tail _ hp))))
  dsimp only at hlI hxI hdI hlg hxg hdg hcg
  refine' forRangeC (n := n) (cx := L + 1) (ocx := ok) (vcx := vk)
    (fun i h => ∃ vs k', h.get? l = some (listOf vs.toArray k') ∧ h.get? x = some (instObj 184 dx) ∧ h.get? dx = some (dictOf [⟨hs, .str (Str.ofString "_headers") tkh, .ref l⟩] kk) ∧ Rows h vs (st0 i) ∧ (∀ p ∈ news, h.get? p.1 = some p.2) ∧ ∀ t, Value.ref t ∈ vs → t ≠ L + 1 ∧ t ≠ h8.objs.size)
    (fun _ m' => ∀ y, m' y = m y)
    F8 hr8 hs1 hs2 ?b3 (has1_ext m2) (pick N8 (.tail _ (.tail _ (.tail _ (.head _)))) News.nil) hok ?b5 ?b6 ?b7 rfl rfl rfl rfl
  case b3 => exact ⟨[], nn, N8.get (.head _), N8.get (.tail _ (.head _)), N8.get (.tail _ (.tail _ (.head _))), .nil, fun p hp => N8.get (.tail _ (.tail _ (.tail _ (.tail _ hp)))), fun t ht => nomatch ht⟩
  case b5 =>
    rintro i h h' ⟨vs, k', e1, e2, e3, e4, e5, e6⟩ kk'
    have nm : ∀ {b : Addr}, b ≠ L + 1 → b ≠ h8.objs.size → b ∉ [L + 1, h8.objs.size] := fun u v => by
      simp only [List.mem_cons, List.not_mem_nil, or_false, not_or]; exact ⟨u, v⟩
    exact ⟨vs, k', kk' _ _ e1 (nm hlc hlI), kk' _ _ e2 (nm hxc hxI), kk' _ _ e3 (nm hdc hdI), e4.keepsIn fun t vals hm ht => isTuple_keep kk' ht (nm (e6 t hm).1 (e6 t hm).2), fun p hp => kk' _ _ (e5 p hp) (nm (hoff p hp).2 (hnI p hp)), e6⟩
  case b6 =>
    rintro i tt h tk' m' oI oc hri hoc hi ⟨vs, k', e1, e2, e3, e4, e5, e6⟩ hm' Fh NI
    have G2 := frame_has1 Fh ((hm' _).trans m1)
    have hr' : True → Rows h vs (st0 i) := fun _ => e4
    have Nh : News h₀ L h ((l, listOf vs.toArray k') :: (x, instObj 184 dx) :: (dx, dictOf [⟨hs, .str (Str.ofString "_headers") tkh, .ref l⟩] kk) :: (h8.objs.size, oI) :: (L + 1, oc) :: news) := by
      refine pick (fun p hp => ?_) (List.mem_singleton.mpr rfl) (pick (fun p hp => ?_) (List.mem_singleton.mpr rfl) (pick (fun p hp => ?_) (List.mem_singleton.mpr rfl) (pick NI (.head _) (pick NI (.tail _ (.head _)) (fun p hp => ⟨e5 p hp, hng p hp⟩)))))
      · simp only [List.mem_singleton] at hp; subst hp; exact ⟨e1, hlg⟩
      · simp only [List.mem_singleton] at hp; subst hp; exact ⟨e2, hxg⟩
      · simp only [List.mem_singleton] at hp; subst hp; exact ⟨e3, hdg⟩
    have hsz : vs.length ≤ 100 := by rw [e4.length]; simp [st0]; have := hnn trivial; omega
    have hi5 : i < 5 := by have := hnn trivial; omega
    clear Fh NI e4 F8 N8
    have fin : ∀ vs5 n5 h5 tk5, h5.get? l = some (listOf vs5.toArray n5) → Rows h5 vs5 (st0 i ++ [(i, false)]) → Keep [l] h h5 →
        ∃ h' tk' m'', ({ s with heap := h5, toks := tk5 } : Shared) = { s with heap := h', toks := tk' } ∧ Fr h₀ L h' m'' ∧ (∀ y, m'' y = m y) ∧ (∃ vs k', h'.get? l = some (listOf vs.toArray k') ∧ h'.get? x = some (instObj 184 dx) ∧ h'.get? dx = some (dictOf [⟨hs, .str (Str.ofString "_headers") tkh, .ref l⟩] kk) ∧ Rows h' vs (st0 (i + 1)) ∧ (∀ p ∈ news, h'.get? p.1 = some p.2) ∧ ∀ t, Value.ref t ∈ vs → t ≠ L + 1 ∧ t ≠ h8.objs.size) ∧ h'.get? h8.objs.size = some oI ∧ h'.get? (L + 1) = some oc := by
      intro vs5 n5 h5 tk5 hl5 hr5 kp5
      have F5 := kp5.fr G2 (fun a ha => by simp only [List.mem_singleton] at ha; subst ha; exact hlg)
      have nl : ∀ {b : Addr}, b ≠ l → b ∉ [l] := fun u => by simpa using u
      have z1 := kp5 _ _ (Nh.get (.tail _ (.tail _ (.tail _ (.head _))))) (nl (Ne.symm hlI))
      have z2 := kp5 _ _ (Nh.get (.tail _ (.tail _ (.tail _ (.tail _ (.head _)))))) (nl (Ne.symm hlc))
      refine ⟨h5, tk5, _, rfl, F5, fun y => (has1_ext ((hm' _).trans m1) y).trans (hm' y), ⟨vs5, n5, hl5, kp5 _ _ e2 (nl hxl), kp5 _ _ e3 (nl hdl), st0_succ i ▸ hr5, fun p hp => kp5 _ _ (e5 p hp) (nl (hoff p hp).1), fun t ht => ?_⟩, z1, z2⟩
      obtain ⟨vals, hv⟩ := hr5.mem ht
      refine ⟨?_, isTuple_ne hv z1 (by rw [hri.1]; simp)⟩
      rintro rfl
      obtain ⟨o, ho, _, n9, hd9⟩ := hv
      rw [z2] at ho; cases ho
      rw [hoc] at hd9; cases hd9
    have hci : i = 0 ∨ i = 1 ∨ i = 2 ∨ i = 3 ∨ i = 4 := by omega
    rcases hci with rfl | rfl | rfl | rfl | rfl
    · have hoc' : oc.data = .cell (some (.int 0 tt)) := hoc
      clear hoc
      iterate 20 walk1
      refine ⟨X.keeps G2.keep, ?_⟩
      rw [show Txt.item (Str.ofString "abcde") 0 = ltr 0 false by decide +kernel, show Str.ofString (toString (0 : Int)) = dgt 0 by decide +kernel]
      refine' add_C (i := 0) (b := false) B G2 X T rfl (by ktr_room) (by ktr_units) (tab_of Nh) (hr' trivial) hsz (by decide) ?_
      intro n5 vs5 h5 tk5 hl5 hr5 kp5
      exact wpAny_execs_nil (fin vs5 n5 h5 tk5 hl5 hr5 kp5)
    · have hoc' : oc.data = .cell (some (.int 1 tt)) := hoc
      clear hoc
      iterate 20 walk1
      refine ⟨X.keeps G2.keep, ?_⟩
      rw [show Txt.item (Str.ofString "abcde") 1 = ltr 1 false by decide +kernel, show Str.ofString (toString (1 : Int)) = dgt 1 by decide +kernel]
      refine' add_C (i := 1) (b := false) B G2 X T rfl (by ktr_room) (by ktr_units) (tab_of Nh) (hr' trivial) hsz (by decide) ?_
      intro n5 vs5 h5 tk5 hl5 hr5 kp5
      exact wpAny_execs_nil (fin vs5 n5 h5 tk5 hl5 hr5 kp5)
    · have hoc' : oc.data = .cell (some (.int 2 tt)) := hoc
      clear hoc
      iterate 20 walk1
      refine ⟨X.keeps G2.keep, ?_⟩
      rw [show Txt.item (Str.ofString "abcde") 2 = ltr 2 false by decide +kernel, show Str.ofString (toString (2 : Int)) = dgt 2 by decide +kernel]
      refine' add_C (i := 2) (b := false) B G2 X T rfl (by ktr_room) (by ktr_units) (tab_of Nh) (hr' trivial) hsz (by decide) ?_
      intro n5 vs5 h5 tk5 hl5 hr5 kp5
      exact wpAny_execs_nil (fin vs5 n5 h5 tk5 hl5 hr5 kp5)
    · have hoc' : oc.data = .cell (some (.int 3 tt)) := hoc
      clear hoc
      iterate 20 walk1
      refine ⟨X.keeps G2.keep, ?_⟩
      rw [show Txt.item (Str.ofString "abcde") 3 = ltr 3 false by decide +kernel, show Str.ofString (toString (3 : Int)) = dgt 3 by decide +kernel]
      refine' add_C (i := 3) (b := false) B G2 X T rfl (by ktr_room) (by ktr_units) (tab_of Nh) (hr' trivial) hsz (by decide) ?_
      intro n5 vs5 h5 tk5 hl5 hr5 kp5
      exact wpAny_execs_nil (fin vs5 n5 h5 tk5 hl5 hr5 kp5)
    · have hoc' : oc.data = .cell (some (.int 4 tt)) := hoc
      clear hoc
      iterate 20 walk1
      refine ⟨X.keeps G2.keep, ?_⟩
      rw [show Txt.item (Str.ofString "abcde") 4 = ltr 4 false by decide +kernel, show Str.ofString (toString (4 : Int)) = dgt 4 by decide +kernel]
      refine' add_C (i := 4) (b := false) B G2 X T rfl (by ktr_room) (by ktr_units) (tab_of Nh) (hr' trivial) hsz (by decide) ?_
      intro n5 vs5 h5 tk5 hl5 hr5 kp5
      exact wpAny_execs_nil (fin vs5 n5 h5 tk5 hl5 hr5 kp5)
  case b7 =>
    rintro h tk' m' oc vc hoc Nc ⟨vs, k', e1, e2, e3, e4, e5, e6⟩ hm' Fh
    refine ret vs k' oc vc h tk' ?_ hoc e4 (fr_ext Fh hm')
    refine pick (fun p hp => ?_) (List.mem_singleton.mpr rfl) (pick (fun p hp => ?_) (List.mem_singleton.mpr rfl) (pick (fun p hp => ?_) (List.mem_singleton.mpr rfl) (pick Nc (.head _) (fun p hp => ⟨e5 p hp, hng p hp⟩))))
    · simp only [List.mem_singleton] at hp; subst hp; exact ⟨e1, hlg⟩
    · simp only [List.mem_singleton] at hp; subst hp; exact ⟨e2, hxg⟩
    · simp only [List.mem_singleton] at hp; subst hp; exact ⟨e3, hdg⟩
end
end
section
open PySem PySem.W PyProof.Rows PySem.Spec PySem.Calls PySem.Builtin PySem.Builtin.Str
section
variable {w : World} {p : Program} {loose : List Str} {mean : ExcName → Option Value} {mg mb : Str → Option Value} {dp un : Nat} {gd : Option (List Code)} {a : Addr} {ccd : Value} {outer : List Env} {A₀ : Around} {base h₀ : Heap} {L : Addr} {m : Str → Option Value} {s : Shared} {Q : Flow → Shared → Prop}
theorem law4 {l x dx dl : Addr} {vs dvs : List Value} {ds : List Int} {n k kd : Nat} {hs : Int} {tkh : Tok} {st : List (Nat × Bool)} {oo : Obj} {vo : Option Value} (B : Below A₀ base outer h₀) (F : Fr h₀ L s.heap m) (X : (hd.heap_39 w.params).In h₀) (T : Top p loose mean mg mb h₀) (hd : dp + 200 < recursionLimit) (hu : un + 1200 < cLine)
    (N : News h₀ L s.heap [(l, listOf vs.toArray n), (x, instObj 184 dx), (dx, dictOf [⟨hs, .str (Str.ofString "_headers") tkh, .ref l⟩] k)]) (No : News h₀ L s.heap [(L + 2, oo)]) (hoo : oo.data = .cell vo)
    (hst : Rows s.heap vs st) (hdl : s.heap.get? dl = some (listOf dvs.toArray kd)) (hdn : dl ≠ l) (hdi : IntsAre dvs ds) (hok : okRun st ds = true) (hsz : (runAll st ds).length ≤ 100)
    (m1 : m (Str.ofString "table") = some (.ref x)) (m2 : m (Str.ofString "digits") = some (.ref dl))
    (ret : ∀ D k' ys n' vs' oo' h' tk', s.heap.get? D = none → h'.get? D = some (listOf ys.toArray k') → IntsAre ys ((runAll st ds).map fun e => (e.1 : Int)) → h'.get? l = some (listOf vs'.toArray n') → Rows h' vs' (runAll st ds) → h'.get? (L + 2) = some oo' → oo'.data = .cell (some (.ref D)) → Keep [l, L + 2] s.heap h' → Fr h₀ L h' m → Q .next { s with heap := h', toks := tk' }) :
    wpAny (model PR w) (lawA dp un gd L a ccd outer) (exec S4.1 (lawEnv L a ccd)) Q (fun _ _ => False) s := by
  have G1 := frame_has1 F m1
  have G2 := frame_has1 G1 ((if_neg (by decide)).trans m2)
  clear G1
  have hr' : True → Rows s.heap vs st := fun _ => hst
  clear hst
  dsimp only [S4]
  iterate 9 walk1
  refine ⟨X.keeps G2.keep, ?_⟩
  refine' run_C B F X T rfl (by ktr_room) (by ktr_units) N (hr' trivial) hdl hdn hdi hok hsz ?_
  intro D k3 ys n3 vs3 h3 tk3 hDn hD hys hl3 hr3 kp3
  have hol : L + 2 ≠ l := ne_of_data (No.get (.head _)) (N.get (.head _)) (by rw [hoo]; simp)
  have hog := (No _ (.head _)).2
  have ho3 := kp3 _ _ (No.get (.head _)) (by simpa using hol)
  refine wpAny_storeName_cell rfl rfl (c := L + 2) rfl ⟨oo, ho3, hoo⟩ fun h₂ hv₂ hs₂ => ?_
  replace hs₂ : Heap.SameBut (L + 2) h3 h₂ := hs₂
  obtain ⟨o₂, ho₂, hd₂⟩ := hv₂
  have k2 : Keep [L + 2] h3 h₂ := fun b o e nn => (hs₂.2 b (by simpa using nn)).trans e
  have hDo : D ≠ L + 2 := by rintro rfl; rw [No.get (.head _)] at hDn; cases hDn
  have F3 := k2.fr (kp3.fr F (fun a ha => by simp only [List.mem_singleton] at ha; subst ha; exact (N _ (.head _)).2)) (fun a ha => by simp only [List.mem_singleton] at ha; subst ha; exact hog)
  refine ret D k3 ys n3 vs3 o₂ h₂ _ hDn (k2 _ _ hD (by simpa using hDo)) hys (k2 _ _ hl3 (by simpa using Ne.symm hol)) (hr3.keeps fun t vals ht => isTuple_keep k2 ht ?_) ho₂ hd₂ ?_ F3
  · simp only [List.mem_singleton]
    rintro rfl
    obtain ⟨o, ho, _, n9, hd9⟩ := ht
    rw [ho3] at ho; cases ho
    rw [hoo] at hd9; cases hd9
  · exact fun b o e nn => k2 b o (kp3 b o e (fun q => nn (by simp at q; simp [q]))) (fun q => nn (by simp at q; simp [q]))
end
end
section
open PySem PySem.W PyProof.Rows PySem.Spec PySem.Calls
section
variable {prog : Program} {w : World} {A : Around} {env : Env} {px pos : Pos} {iter elt : Expr} {ifs : List Expr} {scope : Scope} {s : Shared} {x : Str} {cl : List (Str × Addr)}
abbrev testsOf (ifs : List Expr) (cenv : Env) : Sem Bool := forIn ifs true fun c r => if r = true then do let ok ← isTrue c cenv (eval c cenv); pure (ForInStep.yield ok) else pure (ForInStep.yield r)
/-- a block over a list -/
theorem comp_list {E : Value → Shared → Prop} {Q : Value → Shared → Prop} (p : Value → Bool) (F : Value → Value → Prop)
    (h : wpAny (model prog w) A (eval iter env) (fun v s₁ => ∃ (D : Addr) (ys : List Value) (k : Nat), v = .ref D ∧ s₁.heap.get? D = some (listOf ys.toArray k) ∧ ys.length ≤ 100 ∧
      (∀ C v (s₃ : Shared) m₃, v ∈ ys → s₃.heap.Ns C m₃ → m₃ x = some v → Keep [] s₁.heap s₃.heap → wpAny (model prog w) A (testsOf ifs (compEnvC scope cl C env)) (fun ok s₄ => ok = p v ∧ Keeps s₃ s₄) (fun _ _ => False) s₃) ∧
      (∀ C v (s₃ : Shared) m₃, v ∈ ys → p v = true → s₃.heap.Ns C m₃ → m₃ x = some v → Keep [] s₁.heap s₃.heap → wpAny (model prog w) A (eval elt (compEnvC scope cl C env)) (fun y s₄ => F v y ∧ Keeps s₃ s₄) (fun _ _ => False) s₃) ∧
      (∀ D' k' zs h' tk, s₁.heap.get? D' = none → h'.get? D' = some (listOf zs.toArray k') → Paired F (ys.filter p) zs → Keep [] s₁.heap h' → Q (.ref D') { s₁ with heap := h', toks := tk })) E s)
    (hh : A.handled = none) (hclos : closureFor scope env = pure cl) (hcell : ∀ y ∈ scope.names, y.2 ≠ .cell) (hkind : scope.kind = .function)
    (hnames : ∀ y ∈ scope.names, y.2 = .local → scope.names.lookup y.1 = some .local) (hx : scope.names.lookup x = some .local)
    (hs : ∀ x, foldedSetIterable iter env x = pure x) :
    wpAny (model prog w) A (eval (.ListComp elt [⟨.Name x px, iter, ifs, 0⟩] scope pos) env) Q E s := by
  refine wpAny_ListComp_free (p := p) (F := F) hclos hcell hkind hnames hx (wpAny_mono h (fun v s₁ h₁ => ?_) fun _ _ e => e) hs
  obtain ⟨D, ys, k, rfl, hD, hsz, tst, elt', ret⟩ := h₁
  have hl : s₁.heap.IsList D ys.toArray := ⟨_, hD, rfl, k, rfl⟩
  refine wpAny_pyIter_list hl ?_
  have hllt := ltN (Heap.lt_size hD)
  have kp0 : Keep [] s₁.heap (s₁.heap.push { cls := .type "list_iterator", data := .fields #[.ref D, .int 0 0] }) := fun b o e _ => Heap.get?_push_of_some _ e
  refine ⟨_, _, _, _, _, _, rfl, Walks.list (prog := prog) (w := w) hh s₁.heap.objs.size D (Nat.ne_of_lt hllt) ys.toArray, ?_, ⟨⟨_, Heap.get?_push_size _ rfl, rfl, rfl⟩, hl.at fun o e => kp0 _ _ e (by simp)⟩, ?_, ⟨?_, ?_⟩, ?_⟩
  · simp only [List.size_toArray]; rw [sizeLine_eq]; omega
  · intro b hb
    simp only [Heap.size_push]
    simp only [List.mem_cons, List.not_mem_nil, or_false] at hb
    rcases hb with rfl | rfl
    · exact Nat.lt_succ_self _
    · exact Nat.lt_succ_of_lt hllt
  · intro C j v s₃ m₃ E' hC hP hn hmv hk htk
    have hP' : ys[j]? = some v := by simpa using hP
    have hk' : Keep [] s₁.heap s₃.heap := fun b o e _ => hk b o (by have := ltN (Heap.lt_size e); simp only [List.mem_singleton]; exact neN (by omega)) (kp0 b o e (by simp))
    exact wpAny_mono (tst C v s₃ m₃ (List.mem_of_getElem? hP') hn hmv hk') (fun _ _ e => e) fun _ _ e => e.elim
  · intro C j v s₃ m₃ E' hC hP hpv hn hmv hk htk
    have hP' : ys[j]? = some v := by simpa using hP
    have hk' : Keep [] s₁.heap s₃.heap := fun b o e _ => hk b o (by have := ltN (Heap.lt_size e); simp only [List.mem_singleton]; exact neN (by omega)) (kp0 b o e (by simp))
    exact wpAny_mono (elt' C v s₃ m₃ (List.mem_of_getElem? hP') hpv hn hmv hk') (fun _ _ e => e) fun _ _ e => e.elim
  · intro D' h' tk zs us hD' hlD hplD hlen hP hF hk
    have hus : us = ys := List.ext_getElem? fun j => by
      by_cases hj : j < us.length
      · have := hP j us[j] (by simp [hj])
        simp only [List.getElem?_toArray] at this
        rw [this]; simp [hj]
      · rw [List.getElem?_eq_none (by omega), List.getElem?_eq_none (by simp at hlen; omega)]
    subst hus
    obtain ⟨k', hg⟩ := hplD
    refine ret D' k' zs.toList h' tk (Keep.none kp0 hD') (by rw [hg]) hF fun b o eb _ => hk b o (by have := ltN (Heap.lt_size eb); simp only [List.mem_singleton]; exact neN (by omega)) (kp0 b o eb (by simp))
/-- a block over a range from 0 on -/
theorem walks_in {I : Addr} {fp wr : List Addr} {n : Nat} {P : Nat → Value → Prop} {St : Nat → Heap → Prop} (W : Walks prog w A I fp wr n P St) : Walks prog w A I fp wr n (fun i v => i < n ∧ P i v) St :=
  { W with item := fun i s Q E hi x hQ => W.item i s Q E hi x fun v h' tk hP => hQ v h' tk ⟨hi, hP⟩ }
theorem comp_range {E : Value → Shared → Prop} {Q : Value → Shared → Prop} (F : Value → Value → Prop) {n : Nat} (hn5 : n ≤ 5)
    (h : wpAny (model prog w) A (eval iter env) (fun v s₁ => ∃ r t u v', v = .ref r ∧ IsRange s₁.heap r 0 n 1 t u v' ∧
      (∀ C (i : Nat) t (s₃ : Shared) m₃, i < n → s₃.heap.Ns C m₃ → m₃ x = some (.int i t) → Keep [] s₁.heap s₃.heap → wpAny (model prog w) A (eval elt (compEnvC scope cl C env)) (fun y s₄ => F (.int i t) y ∧ Keeps s₃ s₄) (fun _ _ => False) s₃) ∧
      (∀ D' k' zs us h' tk, s₁.heap.get? D' = none → h'.get? D' = some (listOf zs.toArray k') → IntsAre us (rangeKs 0 n) → Paired F us zs → Keep [] s₁.heap h' → Q (.ref D') { s₁ with heap := h', toks := tk })) E s)
    (hh : A.handled = none) (hclos : closureFor scope env = pure cl) (hcell : ∀ y ∈ scope.names, y.2 ≠ .cell) (hkind : scope.kind = .function)
    (hnames : ∀ y ∈ scope.names, y.2 = .local → scope.names.lookup y.1 = some .local) (hx : scope.names.lookup x = some .local)
    (hs : ∀ x, foldedSetIterable iter env x = pure x) :
    wpAny (model prog w) A (eval (.ListComp elt [⟨.Name x px, iter, [], 0⟩] scope pos) env) Q E s := by
  refine wpAny_ListComp_free (p := fun _ => true) (F := F) hclos hcell hkind hnames hx (wpAny_mono h (fun v s₁ h₁ => ?_) fun _ _ e => e) hs
  obtain ⟨r, t, u, v', rfl, hr, elt', ret⟩ := h₁
  obtain ⟨hs1, hs2⟩ := up_range n hn5
  refine wpAny_pyIter_range hr hs1 ?_
  rw [hs2]
  have kp0 : ∀ o, Keep [] s₁.heap (s₁.heap.push o) := fun o b o' e _ => Heap.get?_push_of_some _ e
  refine ⟨_, _, _, _, _, _, rfl, walks_in (Walks.range (prog := prog) (w := w) hh s₁.heap.objs.size 0 1 n), ?_, ?_, ?_, ⟨?_, ?_⟩, ?_⟩
  · rw [sizeLine_eq]; omega
  · show IsRangeIter _ _ _ _ _
    simp only [Int.natCast_zero, Int.zero_mul, Int.add_zero, Int.sub_zero]
    exact Heap.get?_push_size _ rfl
  · intro b hb
    simp only [Heap.size_push]
    simp only [List.mem_singleton] at hb
    subst hb; exact Nat.lt_succ_self _
  · intro C j v s₃ m₃ E' hC hP hn hmv hk htk
    exact wpAny_tests_nil ⟨rfl, s₃.heap, s₃.toks, rfl, fun _ _ e => e⟩
  · intro C j v s₃ m₃ E' hC hP hpv hn hmv hk htk
    obtain ⟨hj, t', rfl⟩ := hP
    have e0 : (0 : Int) + (j : Int) * 1 = j := by omega
    rw [e0] at hmv ⊢
    have hk' : Keep [] s₁.heap s₃.heap := fun b o e _ => hk b o (by have := ltN (Heap.lt_size e); simp only [List.mem_singleton]; exact neN (by omega)) (kp0 _ b o e (by simp))
    exact wpAny_mono (elt' C j t' s₃ m₃ hj hn hmv hk') (fun _ _ e => e) fun _ _ e => e.elim
  · intro D' h' tk zs us hD' hlD hplD hlen hP hF hk
    obtain ⟨k', hg⟩ := hplD
    have e : us.filter (fun _ => true) = us := List.filter_eq_self.mpr fun _ _ => rfl
    rw [e] at hF
    refine ret D' k' zs.toList us h' tk (Keep.none (kp0 _) hD') (by rw [hg]) (kll_ints us 0 n hlen fun j v hj => (hP j v hj).2) hF fun b o eb _ => hk b o (by have := ltN (Heap.lt_size eb); simp only [List.mem_singleton]; exact neN (by omega)) (kp0 _ b o eb (by simp))
end
end
section
open PySem PySem.W PyProof.Rows PySem.Spec PySem.Calls
theorem ok_ltr : ∀ (i : Nat) (b : Bool), i < 5 → (PyData.str (ltr i b)).canLay0 = true
  | 0, true, _ | 1, true, _ | 2, true, _ | 3, true, _ | 4, true, _ | 0, false, _ | 1, false, _ | 2, false, _ | 3, false, _ | 4, false, _ => by decide +kernel
theorem ok_dgt : ∀ (i : Nat), i < 5 → (PyData.str (dgt i)).canLay0 = true
  | 0, _ | 1, _ | 2, _ | 3, _ | 4, _ => by decide +kernel
theorem canLayAll_of : ∀ {ds : List PyData}, (∀ d ∈ ds, d.canLay0 = true) → PyData.canLayAll0 ds = true
  | [], _ => rfl
  | d :: r, h => by
    show (d.canLay0 && PyData.canLayAll0 r) = true
    rw [h d (.head _), canLayAll_of fun x hx => h x (.tail _ hx)]; rfl
theorem depthAll_le {k : Nat} : ∀ {ds : List PyData}, (∀ d ∈ ds, d.depth ≤ k) → PyData.depthAll ds ≤ k
  | [], _ => Nat.zero_le _
  | d :: r, h => by
    show max d.depth (PyData.depthAll r) ≤ k
    exact Nat.max_le.mpr ⟨h d (.head _), depthAll_le fun x hx => h x (.tail _ hx)⟩
theorem shaped_list {ds : List PyData} (h : ∀ d ∈ ds, d.canLay0 = true ∧ d.depth ≤ 3) : SeqAt.shaped (.list ds) = true := by
  unfold SeqAt.shaped
  have h1 : (PyData.list ds).canLay0 = true := canLayAll_of fun d hd => (h d hd).1
  have h2 : (PyData.list ds).depth ≤ 64 := by
    have := depthAll_le (k := 3) fun d hd => (h d hd).2
    show PyData.depthAll ds + 1 ≤ 64
    omega
  rw [h1]; simpa using h2
theorem carried_texts {vs : List Value} {xs : List Str} (h : Texts vs xs) : CarriedAll vs (xs.map PyData.str) := by
  induction h with
  | nil => exact .nil
  | cons _ ih => exact .cons (.str _ _) ih
theorem reads_texts {h : Heap} {D : Addr} {vs : List Value} {xs : List Str} {k : Nat} (hD : h.get? D = some (listOf vs.toArray k)) (hT : Texts vs xs) : Reads h (.ref D) (.list (xs.map PyData.str)) [D] :=
  reads_newData ⟨_, hD, rfl, k, rfl⟩ (carried_texts hT)
theorem paired_texts (f : Int → Str) {vs zs : List Value} (h : Paired (fun v y => ∃ j t t', v = .int j t ∧ y = .str (f j) t') vs zs) : ∀ {js : List Int}, IntsAre vs js → Texts zs (js.map f) := by
  induction h with
  | nil => intro js hI; cases hI; exact .nil
  | cons a _ ih =>
    intro js hI
    obtain ⟨j, t, t', e1, e2⟩ := a
    subst e1 e2
    cases hI with
    | cons _ _ r => exact .cons (ih r)
theorem ints_mem {vs : List Value} {js : List Int} (h : IntsAre vs js) {v : Value} (hv : v ∈ vs) : ∃ j t, v = .int j t ∧ j ∈ js := by
  induction h with
  | nil => cases hv
  | cons j t _ ih =>
    rcases List.mem_cons.mp hv with rfl | hv
    · exact ⟨_, _, rfl, .head _⟩
    · obtain ⟨j, t, e, hj⟩ := ih hv
      exact ⟨j, t, e, .tail _ hj⟩
theorem perm_range {os ns : List Int} {n : Nat} (hp : ns.Perm os) (hw : ns.Pairwise (· ≤ ·)) (ho : os.Perm (rangeKs 0 n)) : ns = rangeKs 0 n := by
  refine List.Perm.eq_of_pairwise (le := fun a b : Int => a ≤ b) (fun a b _ _ h1 h2 => Int.le_antisymm h1 h2) hw ?_ (hp.trans ho)
  unfold rangeKs
  rw [List.pairwise_map]
  exact List.pairwise_lt_range.imp fun h => by omega
end
section
open PySem PySem.W PyProof.Rows PySem.Spec PySem.Calls PySem.Builtin PySem.Builtin.Str
section
variable {w : World} {p : Program} {loose : List Str} {mean : ExcName → Option Value} {mg mb : Str → Option Value} {dp un : Nat} {gd : Option (List Code)} {a : Addr} {ccd : Value} {outer : List Env} {A₀ : Around} {base h₀ : Heap} {L : Addr} {m : Str → Option Value} {s : Shared} {Q : Flow → Shared → Prop}
theorem law5 {l x dx D : Addr} {vs ys : List Value} {os : List Int} {n kn k kD : Nat} {hs : Int} {tkh t2 : Tok} {st : List (Nat × Bool)} {oo : Obj} {news : List (Addr × Obj)} (B : Below A₀ base outer h₀) (F : Fr h₀ L s.heap m) (X : (hd.heap_39 w.params).In h₀) (T : Top p loose mean mg mb h₀) (hd : dp + 200 < recursionLimit) (hu : un + 1200 < cLine)
    (N : News h₀ L s.heap ((l, listOf vs.toArray kn) :: (x, instObj 184 dx) :: (dx, dictOf [⟨hs, .str (Str.ofString "_headers") tkh, .ref l⟩] k) :: (L + 2, oo) :: (D, listOf ys.toArray kD) :: news)) (hoo : oo.data = .cell (some (.ref D)))
    (hback : ∀ h' m', Fr h₀ L h' m' → News h₀ L h' news → Rows h' vs st) (hys : IntsAre ys os) (hsz : vs.length ≤ 100) (hosz : os.length ≤ 5) (ho5 : ∀ j ∈ os, 0 ≤ j ∧ j < 5) (hn5 : n ≤ 5) (hperm : os.Perm (rangeKs 0 n))
    (hkeys : PyData.eqv (.list ((st.map fun e => ltr e.1 e.2).map PyData.str)) (.list ((os.map fun j => ltr j.toNat true).map PyData.str)) = true)
    (m1 : m (Str.ofString "table") = some (.ref x)) (m2 : m (Str.ofString "n") = some (.int n t2))
    (ret : ∀ h' tk', News h₀ L h' ((l, listOf vs.toArray kn) :: (x, instObj 184 dx) :: (dx, dictOf [⟨hs, .str (Str.ofString "_headers") tkh, .ref l⟩] k) :: (L + 2, oo) :: (D, listOf ys.toArray kD) :: news) → Fr h₀ L h' m → Q .next { s with heap := h', toks := tk' }) :
    wpAny (model PR w) (lawA dp un gd L a ccd outer) (exec S5.1 (lawEnv L a ccd)) Q (fun _ _ => False) s := by
  have hmm : ∀ y, (if y = Str.ofString "n" then some (Value.int n t2) else if y = Str.ofString "table" then some (Value.ref x) else m y) = m y := fun y => (has1_ext (m := fun y => if y = Str.ofString "table" then some (Value.ref x) else m y) ((if_neg (by decide)).trans m2) y).trans (has1_ext m1 y)
  have G1 := frame_has1 F m1
  have G2 := frame_has1 G1 ((if_neg (by decide)).trans m2)
  clear G1 F
  have hnn : True → n ≤ 5 := fun _ => hn5
  have hys' : True → IntsAre ys os := fun _ => hys
  clear hn5 hys
  dsimp only [S5]
  iterate 9 walk1
  refine kso_sorted G2 N (News.isList N (by k_mem)) (hys' trivial) (by omega) ?_
  intro D2 vs2 ns2 c2 h2 F2 N2 l2 hi2 hlen2 hperm2 hpw2 _
  have hns : ns2 = rangeKs 0 n := perm_range hperm2 hpw2 hperm
  subst hns
  clear N G2 hperm2 hpw2
  iterate 10 walk1
  clear hlen2
  iterate 2 walk1
  (rename Fr h₀ L _ _ => F3)
  (rename News h₀ L _ _ => N3)
  (rename IsRange _ _ _ _ _ _ _ _ => hr3)
  obtain ⟨hs1, hs2⟩ := up_range n (hnn trivial)
  refine kll_range rfl F3 N3 hr3 hs1 hs2 (by have := hnn trivial; omega) ?_
  intro D4 us4 c4 h4 tk4 F4 N4 l4 hi4
  clear F3 N3
  refine ke_ne_ints (News.isList N4 (by k_mem)) (News.isList N4 (by k_mem)) hi2 hi4 (by ktr_units) ?_
  rw [decide_eq_true rfl]
  iterate 1 walk1
  rw [if_neg (by simp)]
  iterate 6 walk1
  have hr4 := hback _ _ F4 (fun p hp => N4 p (.tail _ (.tail _ (.tail _ (.tail _ (.tail _ (.tail _ (.tail _ hp))))))))
  refine' keys_C B F4 X T rfl (by ktr_room) (by ktr_units) (pick N4 (.tail _ (.tail _ (.head _))) (pick N4 (.tail _ (.tail _ (.tail _ (.head _)))) (pick N4 (.tail _ (.tail _ (.tail _ (.tail _ (.head _))))) News.nil))) hr4 hsz ?_
  have hst5 := hr4.lt
  clear hr4
  intro D5 k5 ys5 h5 tk5 hD5n hD5 hT5 kp5
  have F5 := kp5.fr0 F4
  have N5 := news_add (kp5.news0 N4) F4 hD5n hD5
  clear F4 N4
  refine comp_list (fun _ => true) (fun v y => ∃ j t t', v = .int j t ∧ y = .str (ltr j.toNat true) t') ?_ rfl rfl (by decide) rfl (by decide) rfl (by intro _; rfl)
  walk1
  refine ⟨D, ys, kD, rfl, N5.get (by k_mem), by rw [(hys' trivial).length]; omega, ?_, ?_, ?_⟩
  · intro C v s₃ m₃ hv hn hmv hk
    exact wpAny_tests_nil ⟨rfl, s₃.heap, s₃.toks, rfl, fun _ _ e => e⟩
  · intro C v s₃ m₃ hv hpv hn hmv hk
    obtain ⟨j, t, rfl, hj⟩ := ints_mem (hys' trivial) hv
    have F6 := hk.fr0 F5
    have N6 := hk.news0 N5
    have hj5 : j = 0 ∨ j = 1 ∨ j = 2 ∨ j = 3 ∨ j = 4 := by have := ho5 j hj; omega
    clear F5 N5
    rcases hj5 with rfl | rfl | rfl | rfl | rfl
    · iterate 4 walk1
      rw [show Txt.item (Str.ofString "ABCDE") 0 = ltr 0 true by decide +kernel]
      exact ⟨⟨_, _, _, rfl, rfl⟩, _, _, rfl, fun _ _ e => e⟩
    · iterate 4 walk1
      rw [show Txt.item (Str.ofString "ABCDE") 1 = ltr 1 true by decide +kernel]
      exact ⟨⟨_, _, _, rfl, rfl⟩, _, _, rfl, fun _ _ e => e⟩
    · iterate 4 walk1
      rw [show Txt.item (Str.ofString "ABCDE") 2 = ltr 2 true by decide +kernel]
      exact ⟨⟨_, _, _, rfl, rfl⟩, _, _, rfl, fun _ _ e => e⟩
    · iterate 4 walk1
      rw [show Txt.item (Str.ofString "ABCDE") 3 = ltr 3 true by decide +kernel]
      exact ⟨⟨_, _, _, rfl, rfl⟩, _, _, rfl, fun _ _ e => e⟩
    · iterate 4 walk1
      rw [show Txt.item (Str.ofString "ABCDE") 4 = ltr 4 true by decide +kernel]
      exact ⟨⟨_, _, _, rfl, rfl⟩, _, _, rfl, fun _ _ e => e⟩
  · intro D6 k6 zs6 h6 tk6 hD6n hD6 hP6 kp6
    have F6 := kp6.fr0 F5
    have N6 := news_add (kp6.news0 N5) F5 hD6n hD6
    rw [List.filter_eq_self.mpr fun _ _ => rfl] at hP6
    have hT6 := paired_texts (fun j => ltr j.toNat true) hP6 (hys' trivial)
    refine ne_dataH (reads_texts (N6.get (.tail _ (.head _))) hT5) (reads_texts (N6.get (.head _)) hT6) ?_ ?_ (by ktr_units) ?_
    · refine shaped_list fun d hd => ?_
      obtain ⟨z, hz, rfl⟩ := List.mem_map.mp hd
      obtain ⟨e, he, rfl⟩ := List.mem_map.mp hz
      exact ⟨ok_ltr _ _ (hst5 e he), Nat.zero_le _⟩
    · refine shaped_list fun d hd => ?_
      obtain ⟨z, hz, rfl⟩ := List.mem_map.mp hd
      obtain ⟨e, he, rfl⟩ := List.mem_map.mp hz
      exact ⟨ok_ltr _ _ (by have := ho5 e he; omega), Nat.zero_le _⟩
    rw [hkeys]
    iterate 1 walk1
    rw [if_neg (by simp)]
    iterate 1 walk1
    rw [if_neg (by simp)]
    refine wpAny_execs_nil ?_
    exact ret _ _ (fun p hp => N6 p (.tail _ (.tail _ (.tail _ (.tail _ hp))))) (fr_ext F6 hmm)
end
end
section
open PySem PySem.W PyProof.Rows PySem.Spec PySem.Calls PySem.Builtin PySem.Builtin.Str
section
variable {w : World} {p : Program} {loose : List Str} {mean : ExcName → Option Value} {mg mb : Str → Option Value} {dp un : Nat} {gd : Option (List Code)} {a : Addr} {ccd : Value} {outer : List Env} {A₀ : Around} {base h₀ : Heap} {L : Addr} {m : Str → Option Value} {s : Shared} {Q : Flow → Shared → Prop}
def aheadTo (os : List Int) (n : Nat) : Nat → Int
  | 0 => 0
  | i + 1 => aheadTo os n i + (((os.drop i).filter fun j => decide (j < os.getD i 0)).length : Int) * fac (n - 1 - i)
theorem filter_lt {zs : List Value} {js : List Int} {c : Int} (h : IntsAre zs js) : (zs.filter fun v => match v with | .int j _ => decide (j < c) | _ => false).length = (js.filter fun j => decide (j < c)).length := by
  induction h with
  | nil => rfl
  | cons j t _ ih =>
    simp only [List.filter_cons]
    by_cases hj : j < c
    · simp [hj, ih]
    · simp [hj, ih]
theorem paired_same {vs zs : List Value} (h : Paired (fun v y => y = v) vs zs) : zs = vs := by
  induction h with
  | nil => rfl
  | cons a _ ih => rw [a, ih]
theorem law6 (B : Below A₀ base outer h₀) (F : Fr h₀ L s.heap m) (X : (hd.heap_39 w.params).In h₀) (T : Top p loose mean mg mb h₀) {news : List (Addr × Obj)} (N : News h₀ L s.heap news)
    (ret : ∀ t h' tk', News h₀ L h' news → Fr h₀ L h' (fun y => if y = Str.ofString "ahead" then some (.int 0 t) else m y) → Q .next { s with heap := h', toks := tk' }) :
    wpAny (model PR w) (lawA dp un gd L a ccd outer) (exec S6.1 (lawEnv L a ccd)) Q (fun _ _ => False) s := by
  dsimp only [S6]
  iterate 3 walk1
  exact ret _ _ _ (by assumption) (by assumption)
theorem law7 {D : Addr} {ys : List Value} {os : List Int} {n kD : Nat} {t2 t3 : Tok} {oo ok : Obj} {vk : Option Value} {news : List (Addr × Obj)} (B : Below A₀ base outer h₀) (F : Fr h₀ L s.heap m) (X : (hd.heap_39 w.params).In h₀) (T : Top p loose mean mg mb h₀) (hd : dp + 200 < recursionLimit) (hu : un + 1200 < cLine)
    (N : News h₀ L s.heap ((L + 1, ok) :: (L + 2, oo) :: (D, listOf ys.toArray kD) :: news)) (hok : ok.data = .cell vk) (hoo : oo.data = .cell (some (.ref D))) (hoff : ∀ p ∈ news, p.1 ≠ L + 1)
    (hys : IntsAre ys os) (hos : os.length = n) (hn5 : n ≤ 5)
    (m1 : m (Str.ofString "n") = some (.int n t2)) (m2 : m (Str.ofString "ahead") = some (.int 0 t3))
    (ret : ∀ ok' vk' t m' h' tk', News h₀ L h' ((L + 1, ok') :: (L + 2, oo) :: (D, listOf ys.toArray kD) :: news) → ok'.data = .cell vk' → (∀ y, y ≠ Str.ofString "ahead" → m' y = m y) → m' (Str.ofString "ahead") = some (.int (aheadTo os n n) t) → Fr h₀ L h' m' → Q .next { s with heap := h', toks := tk' }) :
    wpAny (model PR w) (lawA dp un gd L a ccd outer) (exec S7.1 (lawEnv L a ccd)) Q (fun _ _ => False) s := by
  have G1 := frame_has1 F m1
  have hnn : True → n ≤ 5 := fun _ => hn5
  have hys' : True → IntsAre ys os := fun _ => hys
  have hos' : True → os.length = n := fun _ => hos
  have hno : ∀ y, (if y = Str.ofString "n" then some (Value.int n t2) else m y) = m y := has1_ext m1
  clear hn5 hys hos F
  dsimp only [S7]
  refine wpAny_For ?_ (by intro _; rfl)
  iterate 7 walk1
  (rename Fr h₀ L _ _ => F8)
  (rename News h₀ L _ _ => N8)
  (rename IsRange _ _ _ _ _ _ _ _ => hr8)
  obtain ⟨hs1, hs2⟩ := up_range n (hnn trivial)
  rename_i h8 tk8 t8 u8 v8 kp8
  have lt8 : ∀ {p : Addr × Obj}, p ∈ ((L + 1, ok) :: (L + 2, oo) :: (D, listOf ys.toArray kD) :: news) → p.1 ≠ h8.objs.size := fun hp => Nat.ne_of_lt (Heap.lt_size (N8.get hp))
  have hoff' : ∀ p ∈ ((L + 2, oo) :: (D, listOf ys.toArray kD) :: news), p.1 ≠ L + 1 := by
    intro p hp
    rcases List.mem_cons.mp hp with rfl | hp
    · exact Nat.ne_of_gt (Nat.lt_succ_self _)
    · rcases List.mem_cons.mp hp with rfl | hp
      · exact ne_of_data (N8.get (.tail _ (.tail _ (.head _)))) (N8.get (.head _)) (by rw [hok]; simp)
      · exact hoff p hp
  refine' forRangeC (n := n) (cx := L + 1) (ocx := ok) (vcx := vk)
    (fun i h => News h₀ L h ((L + 2, oo) :: (D, listOf ys.toArray kD) :: news))
    (fun i m' => ∃ t, m' (Str.ofString "ahead") = some (.int (aheadTo os n i) t) ∧ ∀ y, y ≠ Str.ofString "ahead" → m' y = m y)
    F8 hr8 hs1 hs2 (fun p hp => N8 p (.tail _ hp)) ⟨t3, (hno _).trans m2, fun y _ => hno y⟩ (pick N8 (.head _) News.nil) hok ?b5 ?b6 ?b7 rfl rfl rfl rfl
  case b5 =>
    intro i h h' Nt kk
    refine kk.news Nt fun p hp => ?_
    simp only [List.mem_cons, List.not_mem_nil, or_false, not_or]
    exact ⟨hoff' p hp, lt8 (.tail _ hp)⟩
  case b6 =>
    rintro i tt h tk' m' oI oc hri hoc hi Nt ⟨t9, q1, q2⟩ Fh NI
    have G2 := frame_has1 Fh q1
    have G3 := frame_has1 G2 ((if_neg (by decide)).trans ((q2 _ (by decide)).trans m1))
    have Nh : News h₀ L h ((h8.objs.size, oI) :: (L + 1, oc) :: (L + 2, oo) :: (D, listOf ys.toArray kD) :: news) := pick NI (.head _) (pick NI (.tail _ (.head _)) Nt)
    have hi5 : i < 5 := by have := hnn trivial; omega
    have hoc' : oc.data = .cell (some (.int i tt)) := by rw [hoc, show (0 : Int) + (i : Int) * 1 = i by omega]
    clear G2 Fh Nt NI N8 F8 hoc
    iterate 2 walk1
    refine wpAny_loadName_local rfl rfl G3.ns rfl ?_
    iterate 5 walk1
    refine comp_list (fun v => match v with | .int j _ => decide (j < os.getD i 0) | _ => false) (fun v y => y = v) ?_ rfl rfl (by decide) rfl (by decide) rfl (by intro _; rfl)
    iterate 7 walk1
    have hpl : kms_pick ys (some (i : Int)) none = (slicePick ys.toArray (some (i : Int)) none none).toList := by rw [kms_pick_eq]
    have hzi : IntsAre (kms_pick ys (some (i : Int)) none) (os.drop i) := by
      rw [hpl]
      have := slice_ints_from (hys' trivial) (x := (i : Int)) (by omega) (by rw [hos' trivial]; omega)
      rwa [Int.toNat_natCast] at this
    refine kms_slice_lit (its := ys.toArray) G3 Nh (News.isList Nh (by k_mem)) (.int _ _) .none (rfl : kms_pick ys (some (i : Int)) none = _) ?_ (by with_unfolding_all rfl) (by intro _; with_unfolding_all rfl) (by simp only [List.size_toArray]; rw [sizeLine_eq, (hys' trivial).length, hos' trivial]; have := hnn trivial; omega)
    intro D2 h2 F2 N2 l2
    generalize kms_pick ys (some (i : Int)) none = zs at hzi N2
    have hzs' : True → IntsAre zs (os.drop i) := fun _ => hzi
    have hzl : zs.length ≤ 5 := by rw [hzi.length, List.length_drop, hos' trivial]; have := hnn trivial; omega
    obtain ⟨c, hc⟩ : ∃ c, os[i]? = some c := ⟨os[i]'(by rw [hos' trivial]; omega), by simp⟩
    have hcd : os.getD i 0 = c := by rw [List.getD_eq_getElem?_getD, hc]; rfl
    clear hzi hpl G3 Nh
    rw [hcd]
    refine ⟨D2, zs, 0, rfl, N2.get (.head _), by omega, ?_, ?_, ?_⟩
    · intro C v s₃ m₃ hv hn hmv hk
      obtain ⟨j, t, rfl, hj⟩ := ints_mem (hzs' trivial) hv
      have F6 := hk.fr0 F2
      have N6 := hk.news0 N2
      clear F2 N2
      refine wpAny_tests_one ?_
      iterate 5 walk1
      refine item_ints (News.isList N6 (by k_mem)) (hys' trivial) (by omega) (by simpa using hc) (by omega) ?_ (by with_unfolding_all rfl)
      intro tq
      iterate 2 walk1
      exact ⟨rfl, _, _, rfl, fun _ _ e => e⟩
    · intro C v s₃ m₃ hv hpv hn hmv hk
      obtain ⟨j, t, rfl, hj⟩ := ints_mem (hzs' trivial) hv
      have F6 := hk.fr0 F2
      have N6 := hk.news0 N2
      clear F2 N2
      iterate 1 walk1
      exact ⟨rfl, _, _, rfl, fun _ _ e => e⟩
    · intro D6 k6 zs6 h6 tk6 hD6n hD6 hP6 kp6
      have F6 := kp6.fr0 F2
      have N6 := news_add (kp6.news0 N2) F2 hD6n hD6
      clear F2 N2
      have hzq : zs6.length = ((os.drop i).filter fun j => decide (j < c)).length := by rw [paired_same hP6, filter_lt (hzs' trivial)]
      have hzq5 : zs6.length ≤ 5 := by
        rw [hzq]
        refine Nat.le_trans (List.length_filter_le _ _) ?_
        rw [List.length_drop, hos' trivial]; have := hnn trivial; omega
      iterate 1 walk1
      refine len_list (News.isList N6 (.head _)) (by simp only [List.size_toArray]; omega) ?_
      rw [List.size_toArray, hzq]
      iterate 12 walk1
      refine ⟨X.keeps F6.keep, ?_⟩
      refine' orders_C B F6 X T rfl (by ktr_room) (by ktr_units) (by omega) (by have := hnn trivial; omega) ?_
      intro t7 h7 tk7 kp7
      have F7 := kp7.fr0 F6
      have N7 := kp7.news0 N6
      clear F6 N6
      rw [show ((n : Int) - 1 - (i : Int)).toNat = n - 1 - i by omega]
      obtain ⟨lz, hlz⟩ : ∃ lz : Nat, ((os.drop i).filter fun j => decide (j < c)).length = lz := ⟨_, rfl⟩
      rw [hlz]
      iterate 3 walk1
      refine wpAny_execs_nil ?_
      (rename Fr h₀ L _ _ => F9)
      (rename News h₀ L _ _ => N9)
      have hah : aheadTo os n (i + 1) = aheadTo os n i + (lz : Int) * fac (n - 1 - i) := by
        show aheadTo os n i + (((os.drop i).filter fun j => decide (j < os.getD i 0)).length : Int) * fac (n - 1 - i) = _
        rw [hcd, hlz]
      rw [hah]
      refine ⟨_, _, _, rfl, F9, ⟨_, rfl, ?_⟩, fun p hp => N9 p (.tail _ (.tail _ (.tail _ (.tail _ hp)))), N9.get (.tail _ (.tail _ (.head _))), N9.get (.tail _ (.tail _ (.tail _ (.head _))))⟩
      · intro y hy
        refine (if_neg hy).trans ?_
        by_cases e : y = Str.ofString "n"
        · subst e; exact (if_pos rfl).trans m1.symm
        · exact (if_neg e).trans ((if_neg hy).trans (q2 y hy))
  case b7 =>
    rintro h tk' m' oc vc hoc Nc Nt ⟨t9, q1, q2⟩ Fh
    exact ret oc vc t9 m' h tk' (pick Nc (.head _) Nt) hoc q2 q1 Fh
end
end
section
open PySem PySem.W PyProof.Rows PySem.Spec PySem.Calls PySem.Builtin PySem.Builtin.Str
section
variable {w : World} {p : Program} {loose : List Str} {mean : ExcName → Option Value} {mg mb : Str → Option Value} {dp un : Nat} {gd : Option (List Code)} {a : Addr} {ccd : Value} {outer : List Env} {A₀ : Around} {base h₀ : Heap} {L : Addr} {m : Str → Option Value} {s : Shared} {Q : Flow → Shared → Prop}
theorem law8 {x ah : Int} {n : Nat} {t1 t2 t3 : Tok} {news : List (Addr × Obj)} (B : Below A₀ base outer h₀) (F : Fr h₀ L s.heap m) (X : (hd.heap_39 w.params).In h₀) (T : Top p loose mean mg mb h₀) (hd : dp + 200 < recursionLimit) (hu : un + 1200 < cLine) (N : News h₀ L s.heap news)
    (hx0 : 0 ≤ x) (hn5 : n ≤ 5) (hah : ah = x % fac n) (m1 : m (Str.ofString "ahead") = some (.int ah t1)) (m2 : m (Str.ofString "number") = some (.int x t2)) (m3 : m (Str.ofString "n") = some (.int n t3))
    (ret : ∀ h' tk', News h₀ L h' news → Fr h₀ L h' m → Q .next { s with heap := h', toks := tk' }) :
    wpAny (model PR w) (lawA dp un gd L a ccd outer) (exec S8.1 (lawEnv L a ccd)) Q (fun _ _ => False) s := by
  have G1 := frame_has1 F m1
  have G2 := frame_has1 G1 ((if_neg (by decide)).trans m2)
  have G3 := frame_has1 G2 ((if_neg (by decide)).trans ((if_neg (by decide)).trans m3))
  clear G1 G2
  have hnn : True → n ≤ 5 := fun _ => hn5
  clear hn5
  dsimp only [S8]
  iterate 11 walk1
  refine ⟨X.keeps G3.keep, ?_⟩
  refine' orders_C B F X T rfl (by ktr_room) (by ktr_units) (by omega) (by have := hnn trivial; omega) ?_
  intro t7 h7 tk7 kp7
  have F7 := kp7.fr0 F
  have N7 := kp7.news0 N
  clear G3 N F
  rw [Int.toNat_natCast]
  obtain ⟨nb, e1, e2, e3, e4, e5⟩ := fac_bits n (hnn trivial)
  clear e1 e2 e3 e5
  iterate 3 walk1
  rw [Int.fmod_eq_emod_of_nonneg _ (by omega), ← hah]
  rw [if_neg (by simp)]
  exact wpAny_execs_nil (ret _ _ N7 F7)
theorem law9 {D : Addr} {ys : List Value} {os : List Int} {kD : Nat} {home : Int} {oo : Obj} {news : List (Addr × Obj)} (B : Below A₀ base outer h₀) (F : Fr h₀ L s.heap m) (X : (hd.heap_39 w.params).In h₀) (T : Top p loose mean mg mb h₀) (hd : dp + 200 < recursionLimit) (hu : un + 1200 < cLine)
    (N : News h₀ L s.heap ((L + 2, oo) :: (D, listOf ys.toArray kD) :: news)) (hoo : oo.data = .cell (some (.ref D))) (hys : IntsAre ys os) (hn5 : os.length ≤ 5) (hr : ringsTo os os.length = some home)
    (ret : ∀ t h' tk', News h₀ L h' ((L + 2, oo) :: (D, listOf ys.toArray kD) :: news) → Fr h₀ L h' (fun y => if y = Str.ofString "home" then some (.int home t) else m y) → Q .next { s with heap := h', toks := tk' }) :
    wpAny (model PR w) (lawA dp un gd L a ccd outer) (exec S9.1 (lawEnv L a ccd)) Q (fun _ _ => False) s := by
  dsimp only [S9]
  have hys' : True → IntsAre ys os := fun _ => hys
  clear hys
  iterate 7 walk1
  refine ⟨X.keeps F.keep, ?_⟩
  refine' rings_C B F X T rfl (by ktr_room) (by ktr_units) (N.get (.tail _ (.head _))) (hys' trivial) hn5 hr ?_
  intro t7 h7 tk7 kp7
  have F7 := kp7.fr0 F
  have N7 := kp7.news0 N
  clear F N
  iterate 1 walk1
  exact ret _ _ _ (by assumption) (by assumption)
theorem law10 {o3 : Obj} {v3 : Option Value} {news : List (Addr × Obj)} (F : Fr h₀ L s.heap m) (X : (hd.heap_39 w.params).In h₀) (T : Top p loose mean mg mb h₀)
    (N : News h₀ L s.heap ((L + 3, o3) :: news)) (ho3 : o3.data = .cell v3) (hoff : ∀ p ∈ news, p.1 ≠ L + 3)
    (ret : ∀ o3' t h' tk', News h₀ L h' ((L + 3, o3') :: news) → o3'.data = .cell (some (.int 1 t)) → Fr h₀ L h' m → Q .next { s with heap := h', toks := tk' }) :
    wpAny (model PR w) (lawA dp un gd L a ccd outer) (exec S10.1 (lawEnv L a ccd)) Q (fun _ _ => False) s := by
  dsimp only [S10]
  iterate 2 walk1
  refine wpAny_storeName_cell rfl rfl (c := L + 3) rfl ⟨o3, N.get (.head _), ho3⟩ fun h₂ hv₂ hs₂ => ?_
  replace hs₂ : Heap.SameBut (L + 3) _ h₂ := hs₂
  obtain ⟨o₂, ho₂, hd₂⟩ := hv₂
  have k2 : Keep [L + 3] _ h₂ := fun b o e nn => (hs₂.2 b (by simpa using nn)).trans e
  have hog := (N _ (.head _)).2
  refine ret o₂ _ h₂ _ (pick (fun p hp => ?_) (List.mem_singleton.mpr rfl) (k2.news (fun p hp => N p (.tail _ hp)) (fun p hp => by simpa using hoff p hp))) hd₂ (k2.fr F (fun a ha => by simp only [List.mem_singleton] at ha; subst ha; exact hog))
  simp only [List.mem_singleton] at hp; subst hp; exact ⟨ho₂, hog⟩
end
end
section
open PySem PySem.W PyProof.Rows PySem.Spec PySem.Calls PySem.Builtin PySem.Builtin.Str
section
variable {w : World} {p : Program} {loose : List Str} {mean : ExcName → Option Value} {mg mb : Str → Option Value} {dp un : Nat} {gd : Option (List Code)} {a : Addr} {ccd : Value} {outer : List Env} {A₀ : Around} {base h₀ : Heap} {L : Addr} {m : Str → Option Value} {s : Shared} {Q : Flow → Shared → Prop}
def runsTo (st : List (Nat × Bool)) (ds : List Int) : Nat → List (Nat × Bool)
  | 0 => st
  | j + 1 => runAll (runsTo st ds j) ds
def strsTo (n : Nat) : PyData := .list (((rangeKs 0 n).map fun j => dgt j.toNat).map PyData.str)
theorem str_dgt : ∀ (i : Nat), i < 5 → Str.ofString (toString (i : Int)) = dgt i
  | 0, _ | 1, _ | 2, _ | 3, _ | 4, _ => by decide +kernel
theorem law11 {l x dx dl : Addr} {vs dvs : List Value} {ds : List Int} {n kn k kd home : Nat} {hs : Int} {tkh t1 t2 : Tok} {st : List (Nat × Bool)} {o3 : Obj} {t3 : Tok} {news : List (Addr × Obj)} (B : Below A₀ base outer h₀) (F : Fr h₀ L s.heap m) (X : (hd.heap_39 w.params).In h₀) (T : Top p loose mean mg mb h₀) (hd : dp + 200 < recursionLimit) (hu : un + 1200 < cLine)
    (N : News h₀ L s.heap ((l, listOf vs.toArray kn) :: (x, instObj 184 dx) :: (dx, dictOf [⟨hs, .str (Str.ofString "_headers") tkh, .ref l⟩] k) :: (L + 3, o3) :: (dl, listOf dvs.toArray kd) :: news)) (ho3 : o3.data = .cell (some (.int 1 t3))) (hoff : ∀ p ∈ news, p.1 ≠ L + 3 ∧ p.1 ≠ l)
    (hdn : dl ≠ l) (hst : Rows s.heap vs (runsTo st ds 1)) (hdi : IntsAre dvs ds) (hn5 : n ≤ 5) (hh1 : 1 ≤ home)
    (hw : ∀ j, 1 ≤ j → j < home → okRun (runsTo st ds j) ds = true ∧ (runsTo st ds j).length ≤ 100 ∧ (runsTo st ds (j + 1)).length ≤ 100 ∧ PyData.eqv (.list (((runsTo st ds j).map fun e => dgt e.1).map PyData.str)) (strsTo n) = false)
    (m1 : m (Str.ofString "table") = some (.ref x)) (m2 : m (Str.ofString "digits") = some (.ref dl)) (m3 : m (Str.ofString "n") = some (.int n t1)) (m4 : m (Str.ofString "home") = some (.int home t2))
    (ret : ∀ vs kn o3 t h' tk', News h₀ L h' ((l, listOf vs.toArray kn) :: (x, instObj 184 dx) :: (dx, dictOf [⟨hs, .str (Str.ofString "_headers") tkh, .ref l⟩] k) :: (L + 3, o3) :: (dl, listOf dvs.toArray kd) :: news) → o3.data = .cell (some (.int home t)) → Rows h' vs (runsTo st ds home) → Fr h₀ L h' m → Q .next { s with heap := h', toks := tk' }) :
    wpAny (model PR w) (lawA dp un gd L a ccd outer) (exec S11.1 (lawEnv L a ccd)) Q (fun _ _ => False) s := by
  dsimp only [S11]
  have hnn : True → n ≤ 5 := fun _ => hn5
  have hdi' : True → IntsAre dvs ds := fun _ => hdi
  have hw' : True → _ := fun _ => hw
  clear hn5 hdi hw
  refine' whileM (fun f h m' => ∃ j vs kn o3 t, f = home - j ∧ 1 ≤ j ∧ j ≤ home ∧ News h₀ L h ((l, listOf vs.toArray kn) :: (x, instObj 184 dx) :: (dx, dictOf [⟨hs, .str (Str.ofString "_headers") tkh, .ref l⟩] k) :: (L + 3, o3) :: (dl, listOf dvs.toArray kd) :: news) ∧ o3.data = .cell (some (.int j t)) ∧ Rows h vs (runsTo st ds j) ∧ ∀ y, m' y = m y) (n₀ := home - 1)
    F ⟨1, vs, kn, o3, t3, rfl, Nat.le_refl _, hh1, N, ho3, hst, fun _ => rfl⟩ ?_
  clear N ho3 hst
  rintro f h tk m' Fh ⟨j, vs, kn, o3, t, rfl, hj1, hj2, Nh, ho3, hst, hm'⟩
  have Fm := fr_ext Fh hm'
  clear Fh
  have G1 := frame_has1 Fm m1
  have G2 := frame_has1 G1 ((if_neg (by decide)).trans m2)
  have G3 := frame_has1 G2 ((if_neg (by decide)).trans ((if_neg (by decide)).trans m3))
  have G4 := frame_has1 G3 ((if_neg (by decide)).trans ((if_neg (by decide)).trans ((if_neg (by decide)).trans m4)))
  clear G1 G2 G3
  obtain ⟨tl, Ntl, hback⟩ := hst.split G4
  have hrows : True → Rows h vs (runsTo st ds j) := fun _ => hst
  have NA := news_app Nh Ntl
  simp only [List.cons_append] at NA
  have Nh' := fun _ : True => Nh
  clear hst Nh Ntl
  iterate 5 walk1
  by_cases hlt : j < home
  · rw [if_pos (by simpa using hlt)]
    obtain ⟨w1, w2, w3, w4⟩ := hw' trivial j hj1 hlt
    have hsz : vs.length ≤ 100 := by rw [(hrows trivial).length]; exact w2
    iterate 7 walk1
    refine' values_C B G4 X T rfl (by ktr_room) (by ktr_units) (tab_of NA) (hrows trivial) hsz ?_
    intro D5 k5 ys5 h5 tk5 hD5n hD5 hT5 kp5
    have F5 := kp5.fr0 G4
    have N5 := news_add (kp5.news0 NA) G4 hD5n hD5
    clear G4 NA
    refine comp_range (fun v y => ∃ j t t', v = .int j t ∧ y = .str (dgt j.toNat) t') (n := n) (hnn trivial) ?_ rfl rfl (by decide) rfl (by decide) rfl (by intro _; rfl)
    iterate 7 walk1
    (rename Fr h₀ L _ _ => F6)
    (rename News h₀ L _ _ => N6)
    (rename IsRange _ _ _ _ _ _ _ _ => hr6)
    refine ⟨_, _, _, _, rfl, hr6, ?_, ?_⟩
    · intro C i t' s₃ m₃ hi hn hmv hk
      have F7 := hk.fr0 F6
      have N7 := hk.news0 N6
      clear F6 N6
      have hi5 : i < 5 := by have := hnn trivial; omega
      iterate 7 walk1
      rw [str_dgt i hi5]
      exact ⟨⟨_, _, _, rfl, rfl⟩, _, _, rfl, fun _ _ e => e⟩
    · intro D7 k7 zs7 us7 h7 tk7 hD7n hD7 hI7 hP7 kp7
      have F7 := kp7.fr0 F6
      have N7 := news_add (kp7.news0 N6) F6 hD7n hD7
      have hT7 := paired_texts (fun j => dgt j.toNat) hP7 hI7
      clear F6 N6
      have hrl := (hrows trivial).lt
      refine eq_dataH (reads_texts (N7.get (.tail _ (.head _))) hT5) (reads_texts (N7.get (.head _)) hT7) ?_ ?_ (by ktr_units) ?_
      · refine shaped_list fun d hd => ?_
        obtain ⟨z, hz, rfl⟩ := List.mem_map.mp hd
        obtain ⟨e, he, rfl⟩ := List.mem_map.mp hz
        exact ⟨ok_dgt _ (hrl e he), Nat.zero_le _⟩
      · refine shaped_list fun d hd => ?_
        obtain ⟨z, hz, rfl⟩ := List.mem_map.mp hd
        obtain ⟨e, he, rfl⟩ := List.mem_map.mp hz
        have := mem_rangeKs he
        exact ⟨ok_dgt _ (by have := hnn trivial; omega), Nat.zero_le _⟩
      rw [show PyData.eqv (.list (((runsTo st ds j).map fun e => dgt e.1).map PyData.str)) (.list (((rangeKs 0 n).map fun j => dgt j.toNat).map PyData.str)) = false from w4]
      iterate 1 walk1
      rw [if_neg (by simp)]
      iterate 11 walk1
      refine ⟨X.keeps F7.keep, ?_⟩
      have NB : News h₀ L h7 ((l, listOf vs.toArray kn) :: (x, instObj 184 dx) :: (dx, dictOf [⟨hs, .str (Str.ofString "_headers") tkh, .ref l⟩] k) :: (L + 3, o3) :: (dl, listOf dvs.toArray kd) :: (news ++ tl)) := fun p hp => N7 p (.tail _ (.tail _ hp))
      have hr7 := hback _ _ F7 (fun p hp => NB p (.tail _ (.tail _ (.tail _ (.tail _ (.tail _ (List.mem_append_right _ hp)))))))
      refine' run_C B F7 X T rfl (by ktr_room) (by ktr_units) (tab_of NB) hr7 (NB.get (.tail _ (.tail _ (.tail _ (.tail _ (.head _)))))) hdn (hdi' trivial) w1 w3 ?_
      clear hr7
      intro D8 k8 ys8 n8 vs8 h8 tk8 hD8n hD8 hI8 hl8 hr8 kp8
      have hog := (NB _ (.tail _ (.tail _ (.tail _ (.head _))))).2
      have hol : L + 3 ≠ l := ne_of_data (NB.get (.tail _ (.tail _ (.tail _ (.head _))))) (NB.get (.head _)) (by rw [ho3]; simp)
      have hxl : x ≠ l := ne_of_data (NB.get (.tail _ (.head _))) (NB.get (.head _)) (by simp)
      have hdl : dx ≠ l := ne_of_data (NB.get (.tail _ (.tail _ (.head _)))) (NB.get (.head _)) (by simp)
      have nl : ∀ {b : Addr}, b ≠ l → b ∉ [l] := fun u => by simpa using u
      have F8 := kp8.fr F7 (fun a ha => by simp only [List.mem_singleton] at ha; subst ha; exact (NB _ (.head _)).2)
      have z3 := kp8 _ _ (NB.get (.tail _ (.tail _ (.tail _ (.head _))))) (nl hol)
      have N8 : News h₀ L h8 ((l, listOf vs8.toArray n8) :: (x, instObj 184 dx) :: (dx, dictOf [⟨hs, .str (Str.ofString "_headers") tkh, .ref l⟩] k) :: (L + 3, o3) :: (dl, listOf dvs.toArray kd) :: news) := by
        intro p hp
        rcases List.mem_cons.mp hp with rfl | hp
        · exact ⟨hl8, (NB _ (.head _)).2⟩
        · have hq : p ∈ (l, listOf vs.toArray kn) :: (x, instObj 184 dx) :: (dx, dictOf [⟨hs, .str (Str.ofString "_headers") tkh, .ref l⟩] k) :: (L + 3, o3) :: (dl, listOf dvs.toArray kd) :: (news ++ tl) := by
            exact .tail _ (List.mem_append_left tl hp)
          refine ⟨kp8 _ _ (NB p hq).1 (nl ?_), (NB p hq).2⟩
          simp only [List.mem_cons] at hp
          rcases hp with h | h | h | h | h
          · rw [h]; exact hxl
          · rw [h]; exact hdl
          · rw [h]; exact hol
          · rw [h]; exact hdn
          · exact (hoff p h).2
      clear F7 N7 NB
      iterate 2 walk1
      refine wpAny_loadName_cell rfl rfl (c := L + 3) rfl ⟨o3, z3, ho3⟩ ?_
      iterate 2 walk1
      refine wpAny_storeName_cell rfl rfl (c := L + 3) rfl ⟨o3, z3, ho3⟩ fun h₂ hv₂ hs₂ => ?_
      replace hs₂ : Heap.SameBut (L + 3) h8 h₂ := hs₂
      obtain ⟨o₂, ho₂, hd₂⟩ := hv₂
      have k2 : Keep [L + 3] h8 h₂ := fun b o e nn => (hs₂.2 b (by simpa using nn)).trans e
      have no : ∀ {b : Addr}, b ≠ L + 3 → b ∉ [L + 3] := fun u => by simpa using u
      have F9 := k2.fr F8 (fun a ha => by simp only [List.mem_singleton] at ha; subst ha; exact hog)
      refine wpAny_execs_nil ?_
      refine ⟨home - (j + 1), h₂, _, _, by omega, rfl, F9, j + 1, vs8, n8, o₂, _, rfl, by omega, by omega, ?_, hd₂, ?_, ?_⟩
      · have kc : ∀ {p : Addr × Obj}, p ∈ (l, listOf vs8.toArray n8) :: (x, instObj 184 dx) :: (dx, dictOf [⟨hs, .str (Str.ofString "_headers") tkh, .ref l⟩] k) :: (L + 3, o3) :: (dl, listOf dvs.toArray kd) :: news → p.1 ≠ L + 3 → News h₀ L h₂ [p] := fun {p} hp hne q hq => by
          simp only [List.mem_singleton] at hq; subst hq
          exact ⟨k2 _ _ (N8 q hp).1 (no hne), (N8 q hp).2⟩
        refine pick (kc (.head _) (Ne.symm hol)) (.head _) (pick (kc (.tail _ (.head _)) (ne_of_data (N8.get (.tail _ (.head _))) z3 (by rw [ho3]; simp))) (.head _) (pick (kc (.tail _ (.tail _ (.head _))) (ne_of_data (N8.get (.tail _ (.tail _ (.head _)))) z3 (by rw [ho3]; simp))) (.head _) (pick (fun p hp => ?_) (List.mem_singleton.mpr rfl) (pick (kc (.tail _ (.tail _ (.tail _ (.tail _ (.head _))))) (ne_of_data (N8.get (.tail _ (.tail _ (.tail _ (.tail _ (.head _)))))) z3 (by rw [ho3]; simp))) (.head _) (fun p hp => kc (.tail _ (.tail _ (.tail _ (.tail _ (.tail _ hp))))) (hoff p hp).1 p (.head _))))))
        simp only [List.mem_singleton] at hp; subst hp; exact ⟨ho₂, hog⟩
      · refine hr8.keeps fun t' vals ht => isTuple_keep k2 ht (no ?_)
        rintro rfl
        obtain ⟨o, ho, _, n9, hd9⟩ := ht
        rw [z3] at ho; cases ho
        rw [ho3] at hd9; cases hd9
      · intro y
        by_cases c1 : y = Str.ofString "home"
        · subst c1; exact (if_pos rfl).trans m4.symm
        · refine (if_neg c1).trans ?_
          by_cases c2 : y = Str.ofString "n"
          · subst c2; exact (if_pos rfl).trans m3.symm
          · refine (if_neg c2).trans ?_
            by_cases c3 : y = Str.ofString "digits"
            · subst c3; exact (if_pos rfl).trans m2.symm
            · refine (if_neg c3).trans ?_
              by_cases c4 : y = Str.ofString "table"
              · subst c4; exact (if_pos rfl).trans m1.symm
              · exact if_neg c4
  · rw [if_neg (by simpa using hlt)]
    have hje : j = home := by omega
    subst hje
    exact ret vs kn o3 t h tk (Nh' trivial) ho3 (hrows trivial) Fm
end
end
section
open PySem PySem.W PyProof.Rows PySem.Spec PySem.Calls PySem.Builtin PySem.Builtin.Str
section
variable {w : World} {p : Program} {loose : List Str} {mean : ExcName → Option Value} {mg mb : Str → Option Value} {dp un : Nat} {gd : Option (List Code)} {cn : Str} {cs : Scope} {a : Addr} {ccd : Value} {cl : List (Str × Addr)} {outer : List Env} {A₀ : Around} {base h₀ : Heap} {L : Addr} {m : Str → Option Value} {s : Shared} {Q E : Value → Shared → Prop}
theorem items_C {x dx l : Addr} {vs : List Value} {n k : Nat} {hs : Int} {tk : Tok} (B : Below A₀ base outer h₀) (F : Fr h₀ L s.heap m) (X : (hd.heap_39 w.params).In h₀) (T : Top p loose mean mg mb h₀) (hk : cs.kind = .function) (hd : dp + 1 < recursionLimit) (hu : un + 8 < cLine)
    (N : News h₀ L s.heap [(l, listOf vs.toArray n), (x, instObj 184 dx), (dx, dictOf [⟨hs, .str (Str.ofString "_headers") tk, .ref l⟩] k)])
    (hsz : vs.length ≤ 100)
    (ret : ∀ D k h' tk', s.heap.get? D = none → h'.get? D = some (listOf vs.toArray k) → Keep [] s.heap h' → Q (.ref D) { s with heap := h', toks := tk' }) :
    wpAny (model PR w) (ktrTop dp un gd cn cs L a ccd cl outer) (call (.ref 148) [.ref x]) Q E s := by
  refine wpAny_call ?_
  k_dflt (walk_at "my enter")
  rename_i g9 L9 h9 FG9 F9 N9 B9 X9 T9 GS9
  refine wpAny_mono (E := fun _ _ => False) ?_ (fun _ _ h => h) (fun _ _ h => h.elim)
  k_steps
  (rename Fr g9 _ _ _ => F5)
  (rename News g9 _ _ _ => N5)
  rw [slicePick_all] at N5
  have hD := N5 _ (.head _)
  refine ret _ 0 _ _ (fresh_of GS9 hD.2.2 ?_) hD.1 (keep_all GS9 F5 N (fun p hp => N5 p (.tail _ hp)))
  intro hm
  obtain ⟨q, hq, e⟩ := List.mem_map.mp hm
  exact absurd e (Nat.ne_of_lt (Nat.lt_succ_of_lt (Heap.lt_size (N9.get hq))))
end
end
section
open PySem PySem.W PyProof.Rows PySem.Spec PySem.Calls
def stB (b : Bool) (i : Nat) : List (Nat × Bool) := (List.range i).map fun j => (j, b)
theorem stB_succ (b : Bool) (i : Nat) : stB b (i + 1) = stB b i ++ [(i, b)] := by unfold stB; rw [List.range_succ, List.map_append]; rfl
section
variable {prog : Program} {w : World} {A : Around} {env : Env} {px pos : Pos} {iter elt : Expr} {scope : Scope} {s : Shared} {x : Str} {cl : List (Str × Addr)}
/-- a block over a range that makes the table's pairs -/
theorem comp_pairs {E : Value → Shared → Prop} {Q : Value → Shared → Prop} (b : Bool) {n : Nat} (hn5 : n ≤ 5)
    (h : wpAny (model prog w) A (eval iter env) (fun v s₁ => ∃ r t u v', v = .ref r ∧ IsRange s₁.heap r 0 n 1 t u v' ∧
      (∀ C (i : Nat) t (s₃ : Shared) m₃, i < n → s₃.heap.Ns C m₃ → m₃ x = some (.int i t) → Keep [] s₁.heap s₃.heap → wpAny (model prog w) A (eval elt (compEnvC scope cl C env)) (fun y s₄ => (∃ T t1 t2, y = .ref T ∧ s₃.heap.get? T = none ∧ s₄.heap.IsTuple T #[.str (ltr i b) t1, .str (dgt i) t2]) ∧ Keeps s₃ s₄) (fun _ _ => False) s₃) ∧
      (∀ D' k' zs h' tk, s₁.heap.get? D' = none → h'.get? D' = some (listOf zs.toArray k') → Rows h' zs (stB b n) → Keep [] s₁.heap h' → Q (.ref D') { s₁ with heap := h', toks := tk })) E s)
    (hh : A.handled = none) (hclos : closureFor scope env = pure cl) (hcell : ∀ y ∈ scope.names, y.2 ≠ .cell) (hkind : scope.kind = .function)
    (hnames : ∀ y ∈ scope.names, y.2 = .local → scope.names.lookup y.1 = some .local) (hx : scope.names.lookup x = some .local)
    (hs : ∀ x, foldedSetIterable iter env x = pure x) :
    wpAny (model prog w) A (eval (.ListComp elt [⟨.Name x px, iter, [], 0⟩] scope pos) env) Q E s := by
  rw [eval_ListComp]
  refine wpAny_comprehension_free (use := none) rfl hs hclos hkind hnames (wpAny_mono h (fun v s₁ h₁ => ?_) fun _ _ e => e)
  obtain ⟨r, t, u, v', rfl, hr, elt', ret⟩ := h₁
  obtain ⟨hs1, hs2⟩ := up_range n hn5
  refine wpAny_pyIter_range hr hs1 ?_
  rw [hs2]
  refine wpAny_newObj_type (wpAny_newFunctionEnv hcell (by intro y hy; simp at hy) (fun h₁ hns₁ hsb₁ => ?_) hkind)
  dsimp only at hns₁ hsb₁ ⊢
  generalize hH1 : s₁.heap.push { cls := .type "range_iterator", dict := none, data := .fields #[rawInt 0, rawInt (n : Int), rawInt 1], slots := #[] } = H1 at hns₁ hsb₁ ⊢
  generalize hH2 : H1.push { cls := .type "list", dict := none, data := .seq ([] : List Value).toArray } = H2 at hns₁ hsb₁ ⊢
  have z1 : H1.objs.size = s₁.heap.objs.size + 1 := by rw [← hH1, Heap.size_push]
  have z2 : H2.objs.size = s₁.heap.objs.size + 2 := by rw [← hH2, Heap.size_push, z1]
  have lt0 : ∀ (b : Nat) o, s₁.heap.get? b = some o → b < s₁.heap.objs.size := fun b o e => Heap.lt_size e
  have up : ∀ b o, s₁.heap.get? b = some o → h₁.get? b = some o := fun b o e => hsb₁.extBut b o (neN (by have := lt0 b o e; omega)) (Heap.get?_push_of_some _ (hH2 ▸ Heap.get?_push_of_some _ (hH1 ▸ Heap.get?_push_of_some _ e)))
  have gI : h₁.get? s₁.heap.objs.size = some { cls := .type "range_iterator", dict := none, data := .fields #[rawInt 0, rawInt (n : Int), rawInt 1], slots := #[] } :=
    hsb₁.extBut _ _ (neN (by omega)) (Heap.get?_push_of_some _ (hH2 ▸ Heap.get?_push_of_some _ (hH1 ▸ Heap.get?_push_size _ rfl)))
  have gD : h₁.get? H1.objs.size = some (listOf #[] 0) :=
    hsb₁.extBut _ _ (neN (by omega)) (Heap.get?_push_of_some _ (hH2 ▸ Heap.get?_push_size _ rfl))
  have fD : s₁.heap.get? H1.objs.size = none := by
    cases e : s₁.heap.get? H1.objs.size with
    | none => rfl
    | some o => have := lt0 _ _ e; omega
  have fC : s₁.heap.get? H2.objs.size = none := by
    cases e : s₁.heap.get? H2.objs.size with
    | none => rfl
    | some o => have := lt0 _ _ e; omega
  have hIC : s₁.heap.objs.size ≠ H2.objs.size := neN (by omega)
  have hID : s₁.heap.objs.size ≠ H1.objs.size := neN (by omega)
  have hDC : H1.objs.size ≠ H2.objs.size := neN (by omega)
  have W := Walks.range (prog := prog) (w := w) hh s₁.heap.objs.size 0 1 n
  have hst0 : IsRangeIter h₁ s₁.heap.objs.size (0 + ((0 : Nat) : Int) * 1) ((n : Int) - ((0 : Nat) : Int)) 1 := by
    show IsRangeIter _ _ _ _ _
    simp only [Int.natCast_zero, Int.zero_mul, Int.add_zero, Int.sub_zero]
    exact gI
  have loop : ∀ s₃ : Shared, s₃ = { s₁ with heap := h₁, toks := s₁.toks + ([] : List (Str × Value)).length } →
      codeAny (model prog w) A (.compLoop (.ListComp elt [⟨.Name x px, iter, [], 0⟩] scope pos) 0 (.ref s₁.heap.objs.size) (.ref H1.objs.size) (compEnvC scope cl H2.objs.size env))
        (compPost (model prog w) A E none Q (.ref H1.objs.size) H2.objs.size) s₃ := by
    rintro s₃ rfl
    refine codeAny_compLoop_tests (fun k s' => ∃ h tk i m' ys kD, s' = { s₁ with heap := h, toks := tk } ∧ IsRangeIter h s₁.heap.objs.size (0 + (i : Nat) * 1) ((n : Int) - (i : Nat)) 1 ∧ h.get? H1.objs.size = some (listOf ys.toArray kD) ∧ h.Ns H2.objs.size m' ∧ Rows h ys (stB b i) ∧ (∀ t, Value.ref t ∈ ys → t ≠ H2.objs.size ∧ t ≠ s₁.heap.objs.size ∧ t ≠ H1.objs.size) ∧ Keep [] s₁.heap h ∧ i ≤ n ∧ k = n + 1 - i) ?_ (n + 1)
      ⟨h₁, _, 0, _, [], 0, rfl, hst0, gD, hns₁, .nil, (fun t ht => nomatch ht), (fun b o e _ => up b o e), Nat.zero_le _, rfl⟩
    clear h
    rintro k s' ⟨h, tk, i, m', ys, kD, rfl, hst, hD, hn, hrw, hap, kp, hle, rfl⟩
    by_cases hlt : i < n
    · refine W.item i _ _ _ hlt hst fun v h₂ tk₂ hP hst₂ hk₂ => ?_
      obtain ⟨tt, rfl⟩ := hP
      have e0 : (0 : Int) + (i : Int) * 1 = i := by omega
      rw [e0]
      have k2 : Keep [s₁.heap.objs.size] h h₂ := fun b o e nn => hk₂ b o nn e
      have hn₂ : h₂.Ns H2.objs.size m' := hn.at' fun o e => k2 _ _ e (by simpa using Ne.symm hIC)
      refine wpAny_assign_Name (wpAny_storeName_local (lookup_relabel_local hx) hn₂ (fun h₃ hn₃ hs₃ => ?_) (by simp [compEnvC, relabel, hkind]))
      replace hs₃ : Heap.SameBut H2.objs.size h₂ h₃ := hs₃
      replace hn₃ : h₃.Ns H2.objs.size _ := hn₃
      have k3 : Keep [s₁.heap.objs.size, H2.objs.size] h h₃ := fun b o e nn => hs₃.extBut b o (fun q => nn (by simp [q])) (k2 b o e (fun q => nn (by simp at q; simp [q])))
      have kk3 : Keep [] s₁.heap h₃ := fun b o e _ => k3 b o (kp b o e (by simp)) (by have := lt0 b o e; simp only [List.mem_cons, List.not_mem_nil, or_false, not_or]; exact ⟨neN (by omega), neN (by omega)⟩)
      refine wpAny_tests_nil ?_
      rw [if_pos rfl]
      refine wpAny_mono (elt' H2.objs.size i tt _ _ hlt hn₃ (by simp) kk3) (fun y s₄ h₄ => ?_) fun _ _ e => e.elim
      obtain ⟨⟨T, t1, t2, rfl, hTn, hT⟩, h₄, tk₄, rfl, hk₄⟩ := h₄
      replace hTn : h₃.get? T = none := hTn
      have k4 : Keep [] h₃ h₄ := fun b o e _ => hk₄ b o e
      have hD3 : h₃.get? H1.objs.size = some (listOf ys.toArray kD) := k3 _ _ hD (by simp only [List.mem_cons, List.not_mem_nil, or_false, not_or]; exact ⟨Ne.symm hID, hDC⟩)
      have hI3 : IsRangeIter h₃ _ _ _ _ := hs₃.extBut _ _ hIC hst₂
      have hTC : T ≠ H2.objs.size := by
        rintro rfl
        obtain ⟨_, _, _, ho, _⟩ := hn₃
        rw [ho] at hTn; cases hTn
      have hTI : T ≠ s₁.heap.objs.size := by
        rintro rfl
        rw [show h₃.get? s₁.heap.objs.size = _ from hI3] at hTn; cases hTn
      have hTD : T ≠ H1.objs.size := by
        rintro rfl
        rw [hD3] at hTn; cases hTn
      have hyl : ys.length ≤ 5 := by rw [hrw.length]; simp [stB]; omega
      refine wpAny_list_append_plain (items := ys.toArray) ⟨kD, k4 _ _ hD3 (by simp)⟩ (fun h₅ hl₅ hs₅ => ?_) (by simp only [List.size_toArray]; rw [sizeLine_eq]; omega)
      obtain ⟨n5, hl₅⟩ := hl₅
      rw [List.push_toArray] at hl₅
      replace hs₅ : Heap.SameBut H1.objs.size h₄ h₅ := hs₅
      have k5 : Keep [H1.objs.size] h₄ h₅ := fun b o e nn => hs₅.extBut b o (by simpa using nn) e
      refine ⟨n + 1 - (i + 1), by omega, h₅, _, i + 1, _, ys ++ [.ref T], n5, rfl, k5 _ _ (k4 _ _ hI3 (by simp)) (by simpa using hID), hl₅, (hn₃.at' fun o e => k5 _ _ (k4 _ _ e (by simp)) (by simpa using Ne.symm hDC)), ?_, ?_, ?_, hlt, rfl⟩
      · rw [stB_succ]
        refine Rows.snoc (hrw.keepsIn fun t vals hm ht => ?_) (by omega) (isTuple_keep k5 hT (by simpa using hTD))
        obtain ⟨a1, a2, a3⟩ := hap t hm
        exact isTuple_keep k5 (isTuple_keep k4 (isTuple_keep k3 ht (by simp only [List.mem_cons, List.not_mem_nil, or_false, not_or]; exact ⟨a2, a1⟩)) (by simp)) (by simpa using a3)
      · intro t ht
        rcases List.mem_append.mp ht with ht | ht
        · exact hap t ht
        · simp only [List.mem_singleton] at ht
          cases ht
          exact ⟨hTC, hTI, hTD⟩
      · exact fun b o e _ => k5 b o (k4 b o (kk3 b o e (by simp)) (by simp)) (by have := lt0 b o e; simp only [List.mem_singleton]; exact neN (by omega))
    · have hin : i = n := by omega
      subst hin
      refine W.done _ _ _ hst fun h₂ tk₂ hk₂ => ?_
      have k2 : Keep [s₁.heap.objs.size] h h₂ := fun b o e nn => hk₂ b o nn e
      refine ⟨m', hn.at' fun o e => k2 _ _ e (by simpa using Ne.symm hIC), fun h₃ hs₃ => ?_⟩
      have k3 : Keep [s₁.heap.objs.size, H2.objs.size] h h₃ := fun b o e nn => hs₃.extBut b o (fun q => nn (by simp [q])) (k2 b o e (fun q => nn (by simp at q; simp [q])))
      refine ret H1.objs.size kD ys h₃ _ fD (k3 _ _ hD (by simp only [List.mem_cons, List.not_mem_nil, or_false, not_or]; exact ⟨Ne.symm hID, hDC⟩)) (hrw.keepsIn fun t vals hm ht => ?_) (fun b o e _ => k3 b o (kp b o e (by simp)) (by have := lt0 b o e; simp only [List.mem_cons, List.not_mem_nil, or_false, not_or]; exact ⟨neN (by omega), neN (by omega)⟩))
      obtain ⟨a1, a2, a3⟩ := hap t hm
      exact isTuple_keep k3 ht (by simp only [List.mem_cons, List.not_mem_nil, or_false, not_or]; exact ⟨a2, a1⟩)
  exact codeAny_compStart_list (loop _ rfl) (W.self 0 _ _ _ hst0 (loop _ rfl))
end
end
section
open PySem PySem.W PyProof.Rows PySem.Spec PySem.Calls PySem.Builtin PySem.Builtin.Str
section
variable {w : World} {p : Program} {loose : List Str} {mean : ExcName → Option Value} {mg mb : Str → Option Value} {dp un : Nat} {gd : Option (List Code)} {a : Addr} {ccd : Value} {outer : List Env} {A₀ : Around} {base h₀ : Heap} {L : Addr} {m : Str → Option Value} {s : Shared} {Q : Flow → Shared → Prop}
def rowD (e : Nat × Bool) : PyData := .tuple [.str (ltr e.1 e.2), .str (dgt e.1)]
theorem readsAll_rows {h : Heap} {vs : List Value} {st : List (Nat × Bool)} (r : Rows h vs st) : ReadsAll h vs (st.map rowD) [] := by
  induction r with
  | nil => exact .nil
  | cons hi ht _ ih =>
    obtain ⟨o, ho, hc, n, hd⟩ := ht
    exact readsAll_cons_val (reads_tuple_at ho hc hd (readsAll_cons_val (Reads.str _ _) (readsAll_cons_val (Reads.str _ _) .nil))) ih
theorem reads_rows {h : Heap} {D : Addr} {vs : List Value} {st : List (Nat × Bool)} {k : Nat} (hD : h.get? D = some (listOf vs.toArray k)) (r : Rows h vs st) : Reads h (.ref D) (.list (st.map rowD)) [D] :=
  reads_list_at hD rfl rfl (by simpa using readsAll_rows r)
theorem shaped_rows {st : List (Nat × Bool)} (h : ∀ e ∈ st, e.1 < 5) : SeqAt.shaped (.list (st.map rowD)) = true := by
  refine shaped_list fun d hd => ?_
  obtain ⟨e, he, rfl⟩ := List.mem_map.mp hd
  have h1 := ok_ltr e.1 e.2 (h e he)
  have h2 := ok_dgt e.1 (h e he)
  refine ⟨?_, by show max _ (max _ _) + 1 ≤ 3; simp [PyData.depth, PyData.depthAll]⟩
  show ((PyData.str (ltr e.1 e.2)).canLay0 && ((PyData.str (dgt e.1)).canLay0 && true)) = true
  rw [h1, h2]; rfl
theorem law12 {l x dx : Addr} {vs : List Value} {n kn k : Nat} {hs : Int} {tkh t1 t3 : Tok} {r : Int} {b : Bool} {o3 : Obj} {st : List (Nat × Bool)} {news : List (Addr × Obj)} (B : Below A₀ base outer h₀) (F : Fr h₀ L s.heap m) (X : (hd.heap_39 w.params).In h₀) (T : Top p loose mean mg mb h₀) (hd : dp + 200 < recursionLimit) (hu : un + 1200 < cLine)
    (N : News h₀ L s.heap ((l, listOf vs.toArray kn) :: (x, instObj 184 dx) :: (dx, dictOf [⟨hs, .str (Str.ofString "_headers") tkh, .ref l⟩] k) :: (L + 3, o3) :: news)) (ho3 : o3.data = .cell (some (.int r t3)))
    (hst : Rows s.heap vs st) (hsz : vs.length ≤ 100) (hb : r.fmod 2 = if b then 1 else 0) (hn5 : n ≤ 5)
    (hfin : PyData.eqv (.list (st.map rowD)) (.list ((stB b n).map rowD)) = true)
    (m1 : m (Str.ofString "table") = some (.ref x)) (m3 : m (Str.ofString "n") = some (.int n t1))
    (ret : ∀ h' tk' m', News h₀ L h' news → Fr h₀ L h' m' → Q (.ret (.bool true)) { s with heap := h', toks := tk' }) :
    wpAny (model PR w) (lawA dp un gd L a ccd outer) (exec S12.1 (lawEnv L a ccd)) Q (fun _ _ => False) s := by
  have G1 := frame_has1 F m1
  have G2 := frame_has1 G1 ((if_neg (by decide)).trans m3)
  clear G1 F
  obtain ⟨tl, Ntl, hback⟩ := hst.split G2
  have hrows : True → Rows s.heap vs st := fun _ => hst
  have hnn : True → n ≤ 5 := fun _ => hn5
  have NA := news_app N Ntl
  simp only [List.cons_append] at NA
  clear hst N Ntl hn5
  dsimp only [S12]
  iterate 6 walk1
  refine' items_C B G2 X T rfl (by ktr_room) (by ktr_units) (tab_of NA) hsz ?_
  intro D5 k5 h5 tk5 hD5n hD5 kp5
  have F5 := kp5.fr0 G2
  have N5 := news_add (kp5.news0 NA) G2 hD5n hD5
  clear G2 NA
  refine comp_pairs b (n := n) (hnn trivial) ?_ rfl rfl (by decide) rfl (by decide) rfl (by intro _; rfl)
  iterate 7 walk1
  (rename Fr h₀ L _ _ => F6)
  (rename News h₀ L _ _ => N6)
  (rename IsRange _ _ _ _ _ _ _ _ => hr6)
  refine ⟨_, _, _, _, rfl, hr6, ?_, ?_⟩
  · intro C i t' s₃ m₃ hi hn hmv hk
    have F7 := hk.fr0 F6
    have N7 := hk.news0 N6
    clear F6 N6
    have hi5 : i < 5 := by have := hnn trivial; omega
    iterate 10 walk1
    refine wpAny_newTuple ?_
    have F8 := F7.push { cls := .type "tuple", data := .seq [Value.str (Str.ofString "abcde") s₃.toks, Value.str (Str.ofString "ABCDE") (s₃.toks + 1)].toArray }
    have N8 := News.push F7 N7 { cls := .type "tuple", data := .seq [Value.str (Str.ofString "abcde") s₃.toks, Value.str (Str.ofString "ABCDE") (s₃.toks + 1)].toArray }
    have k8 : Keep [] s₃.heap (s₃.heap.push { cls := .type "tuple", data := .seq [Value.str (Str.ofString "abcde") s₃.toks, Value.str (Str.ofString "ABCDE") (s₃.toks + 1)].toArray }) := fun b o e _ => Heap.get?_push_of_some _ e
    have hn8 := hn.at' (h' := s₃.heap.push { cls := .type "tuple", data := .seq [Value.str (Str.ofString "abcde") s₃.toks, Value.str (Str.ofString "ABCDE") (s₃.toks + 1)].toArray }) fun o e => k8 _ _ e (by simp)
    clear F7 N7 hn
    dsimp only
    generalize s₃.heap.push { cls := .type "tuple", data := .seq [Value.str (Str.ofString "abcde") s₃.toks, Value.str (Str.ofString "ABCDE") (s₃.toks + 1)].toArray } = H at F8 N8 k8 hn8 ⊢
    iterate 4 walk1
    rw [hb]
    have fin : ∀ (t4 t5 : Tok) (tk9 : Nat), (∃ T t1 t2, Value.ref H.objs.size = .ref T ∧ s₃.heap.get? T = none ∧ (H.push { cls := .type "tuple", data := .seq [Value.str (ltr i b) t4, Value.str (dgt i) t5].toArray }).IsTuple T #[.str (ltr i b) t1, .str (dgt i) t2]) ∧ Keeps s₃ { s₃ with heap := H.push { cls := .type "tuple", data := .seq [Value.str (ltr i b) t4, Value.str (dgt i) t5].toArray }, toks := tk9 } := fun t4 t5 tk9 => by
      refine ⟨⟨_, t4, t5, rfl, ?_, ⟨_, Heap.get?_push_size _ rfl, rfl, _, rfl⟩⟩, _, _, rfl, fun b o e => Heap.get?_push_of_some _ (k8 b o e (by simp))⟩
      cases e : s₃.heap.get? H.objs.size with
      | none => rfl
      | some o => exact absurd (Heap.lt_size (k8 _ _ e (by simp))) (Nat.lt_irrefl _)
    have hci : i = 0 ∨ i = 1 ∨ i = 2 ∨ i = 3 ∨ i = 4 := by omega
    cases b
    · rw [if_neg Bool.false_ne_true]
      rcases hci with rfl | rfl | rfl | rfl | rfl
      · replace hmv : m₃ (Str.ofString "k") = some (.int 0 t') := hmv
        iterate 12 walk1
        rw [show Txt.item (Str.ofString "abcde") 0 = ltr 0 false by decide +kernel, show Str.ofString (toString (0 : Int)) = dgt 0 by decide +kernel]
        refine wpAny_newTuple ?_
        exact fin _ _ _
      · replace hmv : m₃ (Str.ofString "k") = some (.int 1 t') := hmv
        iterate 12 walk1
        rw [show Txt.item (Str.ofString "abcde") 1 = ltr 1 false by decide +kernel, show Str.ofString (toString (1 : Int)) = dgt 1 by decide +kernel]
        refine wpAny_newTuple ?_
        exact fin _ _ _
      · replace hmv : m₃ (Str.ofString "k") = some (.int 2 t') := hmv
        iterate 12 walk1
        rw [show Txt.item (Str.ofString "abcde") 2 = ltr 2 false by decide +kernel, show Str.ofString (toString (2 : Int)) = dgt 2 by decide +kernel]
        refine wpAny_newTuple ?_
        exact fin _ _ _
      · replace hmv : m₃ (Str.ofString "k") = some (.int 3 t') := hmv
        iterate 12 walk1
        rw [show Txt.item (Str.ofString "abcde") 3 = ltr 3 false by decide +kernel, show Str.ofString (toString (3 : Int)) = dgt 3 by decide +kernel]
        refine wpAny_newTuple ?_
        exact fin _ _ _
      · replace hmv : m₃ (Str.ofString "k") = some (.int 4 t') := hmv
        iterate 12 walk1
        rw [show Txt.item (Str.ofString "abcde") 4 = ltr 4 false by decide +kernel, show Str.ofString (toString (4 : Int)) = dgt 4 by decide +kernel]
        refine wpAny_newTuple ?_
        exact fin _ _ _
    · rw [if_pos rfl]
      rcases hci with rfl | rfl | rfl | rfl | rfl
      · replace hmv : m₃ (Str.ofString "k") = some (.int 0 t') := hmv
        iterate 12 walk1
        rw [show Txt.item (Str.ofString "ABCDE") 0 = ltr 0 true by decide +kernel, show Str.ofString (toString (0 : Int)) = dgt 0 by decide +kernel]
        refine wpAny_newTuple ?_
        exact fin _ _ _
      · replace hmv : m₃ (Str.ofString "k") = some (.int 1 t') := hmv
        iterate 12 walk1
        rw [show Txt.item (Str.ofString "ABCDE") 1 = ltr 1 true by decide +kernel, show Str.ofString (toString (1 : Int)) = dgt 1 by decide +kernel]
        refine wpAny_newTuple ?_
        exact fin _ _ _
      · replace hmv : m₃ (Str.ofString "k") = some (.int 2 t') := hmv
        iterate 12 walk1
        rw [show Txt.item (Str.ofString "ABCDE") 2 = ltr 2 true by decide +kernel, show Str.ofString (toString (2 : Int)) = dgt 2 by decide +kernel]
        refine wpAny_newTuple ?_
        exact fin _ _ _
      · replace hmv : m₃ (Str.ofString "k") = some (.int 3 t') := hmv
        iterate 12 walk1
        rw [show Txt.item (Str.ofString "ABCDE") 3 = ltr 3 true by decide +kernel, show Str.ofString (toString (3 : Int)) = dgt 3 by decide +kernel]
        refine wpAny_newTuple ?_
        exact fin _ _ _
      · replace hmv : m₃ (Str.ofString "k") = some (.int 4 t') := hmv
        iterate 12 walk1
        rw [show Txt.item (Str.ofString "ABCDE") 4 = ltr 4 true by decide +kernel, show Str.ofString (toString (4 : Int)) = dgt 4 by decide +kernel]
        refine wpAny_newTuple ?_
        exact fin _ _ _
  · intro D7 k7 zs7 h7 tk7 hD7n hD7 hr7 kp7
    have F7 := kp7.fr0 F6
    have N7 := news_add (kp7.news0 N6) F6 hD7n hD7
    clear F6 N6
    have hr8 := hback _ _ F7 (fun p hp => N7 p (.tail _ (.tail _ (.tail _ (.tail _ (.tail _ (.tail _ (List.mem_append_right _ hp))))))))
    refine eq_dataH (reads_rows (N7.get (.tail _ (.head _))) hr8) (reads_rows (N7.get (.head _)) hr7) (shaped_rows hr8.lt) (shaped_rows hr7.lt) (by ktr_units) ?_
    rw [hfin]
    exact ret _ _ _ (fun p hp => N7 p (.tail _ (.tail _ (.tail _ (.tail _ (.tail _ (.tail _ (List.mem_append_left _ hp)))))))) F7
end
end
section
open PySem PySem.W PyProof.Rows PySem.Spec PySem.Calls
def ordOf (st : List (Nat × Bool)) : List Int := st.map fun e => (e.1 : Int)
/-- what the law asks of one size and one rest, in plain terms -/
def chk (n r : Nat) : Bool :=
  let ds := (fdig n (r : Int) n).1
  let s1 := runAll (st0 n) ds
  let os := ordOf s1
  okRun (st0 n) ds && decide (s1.length = n) && s1.all (fun e => decide (e.1 < 5) && e.2) && os.isPerm (rangeKs 0 n) && decide (aheadTo os n n = (r : Int)) &&
  match ringsTo os n with
  | some h => decide (1 ≤ h) && decide (runsTo (st0 n) ds h.toNat = stB (decide (h.fmod 2 = 1)) n) &&
      (List.range h.toNat).all fun j => j == 0 || (okRun (runsTo (st0 n) ds j) ds && decide ((runsTo (st0 n) ds j).length = n) && decide ((runsTo (st0 n) ds (j + 1)).length = n) && decide ((runsTo (st0 n) ds j).map (·.1) ≠ List.range n))
  | none => false
theorem chk3 : ∀ r, r < 6 → chk 3 r = true := by decide +kernel
theorem chk4 : ∀ r, r < 24 → chk 4 r = true := by decide +kernel
theorem chk5a : ∀ r, r < 24 → chk 5 r = true := by decide +kernel
theorem chk5b : ∀ r, r < 24 → chk 5 (24 + r) = true := by decide +kernel
theorem chk5c : ∀ r, r < 24 → chk 5 (48 + r) = true := by decide +kernel
theorem chk5d : ∀ r, r < 24 → chk 5 (72 + r) = true := by decide +kernel
theorem chk5e : ∀ r, r < 24 → chk 5 (96 + r) = true := by decide +kernel
theorem chk_all {n : Nat} {r : Nat} (hn : n = 3 ∨ n = 4 ∨ n = 5) (hr : (r : Int) < fac n) : chk n r = true := by
  rcases hn with rfl | rfl | rfl
  · exact chk3 r (by have e : fac 3 = 6 := by decide
                     rw [e] at hr; omega)
  · exact chk4 r (by have e : fac 4 = 24 := by decide
                     rw [e] at hr; omega)
  · have e : fac 5 = 120 := by decide
    rw [e] at hr
    by_cases h1 : r < 24
    · exact chk5a r h1
    · by_cases h2 : r < 48
      · have := chk5b (r - 24) (by omega)
        rwa [show 24 + (r - 24) = r by omega] at this
      · by_cases h3 : r < 72
        · have := chk5c (r - 48) (by omega)
          rwa [show 48 + (r - 48) = r by omega] at this
        · by_cases h4 : r < 96
          · have := chk5d (r - 72) (by omega)
            rwa [show 72 + (r - 72) = r by omega] at this
          · have := chk5e (r - 96) (by omega)
            rwa [show 96 + (r - 96) = r by omega] at this
theorem eqv_texts : ∀ xs ys : List Str, PyData.eqvAll (xs.map PyData.str) (ys.map PyData.str) = decide (xs = ys)
  | [], [] => by simp [PyData.eqvAll]
  | [], _ :: _ => by simp [PyData.eqvAll]
  | _ :: _, [] => by simp [PyData.eqvAll]
  | a :: r, b :: t => by
    simp only [List.map_cons, PyData.eqvAll, PyData.eqv, eqv_texts r t]
    by_cases h : a = b <;> by_cases h' : r = t <;> simp [h, h']
theorem eqv_rows : ∀ st : List (Nat × Bool), PyData.eqvAll (st.map rowD) (st.map rowD) = true
  | [] => by simp [PyData.eqvAll]
  | a :: r => by simp only [List.map_cons, PyData.eqvAll, eqv_rows r, rowD, PyData.eqv]; simp
theorem dgt_map_inj {a b : List Nat} (h : a.map dgt = b.map dgt) : a = b := by
  induction a generalizing b with
  | nil => cases b with | nil => rfl | cons _ _ => cases h
  | cons x r ih =>
    cases b with
    | nil => cases h
    | cons y t =>
      simp only [List.map_cons, List.cons.injEq] at h
      rw [dgt_inj h.1, ih h.2]
theorem range_dgt (n : Nat) : ((rangeKs 0 n).map fun j => dgt j.toNat) = (List.range n).map dgt := by
  unfold rangeKs
  rw [List.map_map]
  refine List.map_congr_left fun i _ => ?_
  show dgt (0 + (i : Int)).toNat = dgt i
  congr 1; omega
/-- what the walk asks -/
structure Good (n : Nat) (r : Int) (home : Nat) (b : Bool) : Prop where
  ok : okRun (st0 n) (fdig n r n).1 = true
  len : (runAll (st0 n) (fdig n r n).1).length = n
  lt : ∀ j ∈ ordOf (runAll (st0 n) (fdig n r n).1), 0 ≤ j ∧ j < 5
  perm : (ordOf (runAll (st0 n) (fdig n r n).1)).Perm (rangeKs 0 n)
  keys : PyData.eqv (.list (((runAll (st0 n) (fdig n r n).1).map fun e => ltr e.1 e.2).map PyData.str)) (.list (((ordOf (runAll (st0 n) (fdig n r n).1)).map fun j => ltr j.toNat true).map PyData.str)) = true
  ahead : aheadTo (ordOf (runAll (st0 n) (fdig n r n).1)) n n = r
  rings : ringsTo (ordOf (runAll (st0 n) (fdig n r n).1)) n = some (home : Int)
  one : 1 ≤ home
  turns : ∀ j, 1 ≤ j → j < home → okRun (runsTo (st0 n) (fdig n r n).1 j) (fdig n r n).1 = true ∧ (runsTo (st0 n) (fdig n r n).1 j).length ≤ 100 ∧ (runsTo (st0 n) (fdig n r n).1 (j + 1)).length ≤ 100 ∧ PyData.eqv (.list (((runsTo (st0 n) (fdig n r n).1 j).map fun e => dgt e.1).map PyData.str)) (strsTo n) = false
  par : (home : Int).fmod 2 = if b then 1 else 0
  fin : PyData.eqv (.list ((runsTo (st0 n) (fdig n r n).1 home).map rowD)) (.list ((stB b n).map rowD)) = true
  finl : (runsTo (st0 n) (fdig n r n).1 home).length ≤ 100
theorem good_of {n : Nat} {r : Int} (hn : n = 3 ∨ n = 4 ∨ n = 5) (h0 : 0 ≤ r) (h1 : r < fac n) : ∃ home b, Good n r home b := by
  obtain ⟨R, rfl⟩ := Int.eq_ofNat_of_zero_le h0
  have h := chk_all hn h1
  unfold chk at h
  simp only [Bool.and_eq_true, decide_eq_true_eq] at h
  obtain ⟨⟨⟨⟨⟨c1, c2⟩, c3⟩, c4⟩, c5⟩, c6⟩ := h
  generalize hds : (fdig n (R : Int) n).1 = ds at *
  generalize hs1 : runAll (st0 n) ds = s1 at *
  cases hr : ringsTo (ordOf s1) n with
  | none => rw [hr] at c6; cases c6
  | some hz =>
    rw [hr] at c6
    simp only [Bool.and_eq_true, decide_eq_true_eq, List.all_eq_true, Bool.or_eq_true, beq_iff_eq] at c6
    obtain ⟨⟨d1, d2⟩, d3⟩ := c6
    simp only [List.all_eq_true, Bool.and_eq_true, decide_eq_true_eq] at c3
    have hh : hz = (hz.toNat : Int) := by omega
    have hp := List.isPerm_iff.mp c4
    refine ⟨hz.toNat, decide (hz.fmod 2 = 1), ?_⟩
    constructor
    all_goals try rw [hds]
    all_goals try rw [hs1]
    · exact c1
    · exact c2
    · intro j hj
      obtain ⟨e, he, rfl⟩ := List.mem_map.mp hj
      have := (c3 e he).1
      omega
    · exact hp
    · show PyData.eqvAll _ _ = true
      rw [eqv_texts, decide_eq_true_eq]
      unfold ordOf
      rw [List.map_map]
      refine List.map_congr_left fun e he => ?_
      show ltr e.1 e.2 = ltr (e.1 : Int).toNat true
      rw [Int.toNat_natCast, (c3 e he).2]
    · exact c5
    · rw [hr, ← hh]
    · omega
    · intro j hj1 hj2
      have := d3 j (List.mem_range.mpr hj2)
      rcases this with h | h
      · omega
      · obtain ⟨⟨⟨g1, g2⟩, g3⟩, g4⟩ := h
        have hn5 : n ≤ 5 := by omega
        refine ⟨g1, by omega, by omega, ?_⟩
        show PyData.eqvAll _ _ = false
        rw [eqv_texts, decide_eq_false_iff_not]
        intro e
        rw [range_dgt] at e
        refine g4 (dgt_map_inj ?_)
        rw [← e, List.map_map]; rfl
    · rw [← hh]
      by_cases e : hz.fmod 2 = 1
      · simp [e]
      · have : hz.fmod 2 = 0 := by
          rw [Int.fmod_eq_emod_of_nonneg _ (by omega)] at e ⊢; omega
        simp [this]
    · show PyData.eqvAll _ _ = true
      rw [d2]; exact eqv_rows _
    · rw [d2]; simp [stB]; omega
end
section
open PySem PySem.W PyProof.Rows PySem.Spec PySem.Calls PySem.Builtin PySem.Builtin.Str
section
variable {w : World} {p : Program} {loose : List Str} {mean : ExcName → Option Value} {mg mb : Str → Option Value} {dp un : Nat} {gd : Option (List Code)} {a : Addr} {ccd : Value} {outer : List Env} {A₀ : Around} {base h₀ : Heap} {L : Addr} {m : Str → Option Value} {s : Shared} {Q : Flow → Shared → Prop}
theorem rows_split2 {g h : Heap} {L : Addr} {m : Str → Option Value} {vs : List Value} {st : List (Nat × Bool)} (r : Rows h vs st) (F : Fr g L h m) : ∃ tl, News g L h tl ∧ (∀ p ∈ tl, ∃ its n, p.2.data = .seq its n) ∧ ∀ h' m', Fr g L h' m' → News g L h' tl → Rows h' vs st := by
  induction r with
  | nil => exact ⟨[], News.nil, (fun _ hp => nomatch hp), (fun _ _ _ _ => .nil)⟩
  | cons a b _ ih =>
    obtain ⟨tl, Nt, hd, hb⟩ := ih
    rename_i t _ _ _ _ _ _ _
    obtain ⟨o, ho, hc, n, hdt⟩ := id b
    cases e : g.get? t with
    | some o' =>
      have : o' = o := by have := F.keep _ _ e; rw [ho] at this; exact (Option.some.inj this).symm
      subst this
      exact ⟨tl, Nt, hd, fun h' m' F' N' => .cons a ⟨o', F'.keep _ _ e, hc, n, hdt⟩ (hb h' m' F' N')⟩
    | none =>
      refine ⟨(t, o) :: tl, pick (fun p hp => ?_) (List.mem_singleton.mpr rfl) Nt, fun p hp => ?_, fun h' m' F' N' => .cons a ⟨o, N'.get (.head _), hc, n, hdt⟩ (hb h' m' F' fun p hp => N' p (.tail _ hp))⟩
      · simp only [List.mem_singleton] at hp; subst hp
        exact ⟨ho, isTuple_ns b F.ns, e⟩
      · rcases List.mem_cons.mp hp with rfl | hp
        · exact ⟨_, _, hdt⟩
        · exact hd p hp
/-- an object that is no cell lies off a cell -/
theorem off_cell {g h : Heap} {L c : Addr} {oc : Obj} {v : Option Value} {news : List (Addr × Obj)} (N : News g L h news) (hc : h.get? c = some oc) (hd : oc.data = .cell v) {p : Addr × Obj} (hp : p ∈ news) (hn : ∀ v, p.2.data ≠ .cell v) : p.1 ≠ c :=
  ne_of_data (N.get hp) hc (by rw [hd]; exact hn v)
theorem tabO_nocell {o : Obj} (h : TabO o) : ∀ v, o.data ≠ .cell v := by
  obtain ⟨⟨vs, e⟩, _⟩ := h
  intro v; rw [e]; simp
theorem partB {l x dx dl D : Addr} {vs dvs ys : List Value} {r xn : Int} {n kn k kd kD home : Nat} {b : Bool} {hs : Int} {tkh t1 t2 : Tok} {ok oo o3 : Obj} {vk v3 : Option Value} {tb1 tb2 : List (Addr × Obj)} (B : Below A₀ base outer h₀) (F : Fr h₀ L s.heap m) (X : (hd.heap_39 w.params).In h₀) (T : Top p loose mean mg mb h₀) (hd : dp + 200 < recursionLimit) (hu : un + 1200 < cLine)
    (N : News h₀ L s.heap ((l, listOf vs.toArray kn) :: (x, instObj 184 dx) :: (dx, dictOf [⟨hs, .str (Str.ofString "_headers") tkh, .ref l⟩] k) :: (L + 1, ok) :: (L + 2, oo) :: (L + 3, o3) :: (dl, listOf dvs.toArray kd) :: (D, listOf ys.toArray kD) :: (tb1 ++ tb2)))
    (hok : ok.data = .cell vk) (hoo : oo.data = .cell (some (.ref D))) (ho3 : o3.data = .cell v3) (ht1 : T204 tb1) (ht2 : T211 tb2)
    (hdn : dl ≠ l) (hDl : D ≠ l) (hst : Rows s.heap vs (runAll (st0 n) (fdig n r n).1)) (hdi : IntsAre dvs (fdig n r n).1) (hys : IntsAre ys (ordOf (runAll (st0 n) (fdig n r n).1)))
    (hn5 : n ≤ 5) (hx0 : 0 ≤ xn) (hxr : r = xn % fac n) (G : Good n r home b)
    (m1 : m (Str.ofString "table") = some (.ref x)) (m2 : m (Str.ofString "digits") = some (.ref dl)) (m3 : m (Str.ofString "n") = some (.int n t1)) (m4 : m (Str.ofString "number") = some (.int xn t2))
    (ret : ∀ h' tk' m', News h₀ L h' (tb1 ++ tb2) → Fr h₀ L h' m' → Q (.ret (.bool true)) { s with heap := h', toks := tk' }) :
    wpAny (model PR w) (lawA dp un gd L a ccd outer) (execs [S5.1, S6.1, S7.1, S8.1, S9.1, S10.1, S11.1, S12.1] (lawEnv L a ccd)) Q (fun _ _ => False) s := by
  have hlen : (ordOf (runAll (st0 n) (fdig n r n).1)).length = n := by unfold ordOf; rw [List.length_map, G.len]
  have hvl : vs.length ≤ 100 := by rw [hst.length, G.len]; omega
  have htb : ∀ p ∈ tb1 ++ tb2, TabO p.2 := fun p hp => (List.mem_append.mp hp).elim (tab_O ht1 p) (tab_O ht2 p)
  obtain ⟨tl, Ntl, hTl, hback⟩ := rows_split2 hst F
  have NA : News h₀ L s.heap ((l, listOf vs.toArray kn) :: (x, instObj 184 dx) :: (dx, dictOf [⟨hs, .str (Str.ofString "_headers") tkh, .ref l⟩] k) :: (L + 2, oo) :: (D, listOf ys.toArray kD) :: ((L + 1, ok) :: (L + 3, o3) :: (dl, listOf dvs.toArray kd) :: (tb1 ++ tb2 ++ tl))) := news_sub (news_app N Ntl) (fun p hp => by simp only [List.mem_cons, List.mem_append] at hp ⊢; grind)
  refine wpAny_execs_cons ?_
  refine law5 B F X T hd hu NA hoo (fun h' m' F' N' => hback h' m' F' (news_sub N' (fun p hp => by simp only [List.mem_cons, List.mem_append] at hp ⊢; grind))) hys hvl (by omega) G.lt hn5 G.perm G.keys m1 m3 ?_
  intro h5 tk5 N5 F5
  refine wpAny_execs_cons ?_
  refine law6 B F5 X T N5 ?_
  intro t6 h6 tk6 N6 F6
  have N6' : News h₀ L h6 ((L + 1, ok) :: (L + 2, oo) :: (D, listOf ys.toArray kD) :: ((l, listOf vs.toArray kn) :: (x, instObj 184 dx) :: (dx, dictOf [⟨hs, .str (Str.ofString "_headers") tkh, .ref l⟩] k) :: (L + 3, o3) :: (dl, listOf dvs.toArray kd) :: (tb1 ++ tb2 ++ tl))) := news_sub N6 (fun p hp => by simp only [List.mem_cons, List.mem_append] at hp ⊢; grind)
  refine wpAny_execs_cons ?_
  refine law7 B F6 X T hd hu N6' hok hoo ?_ hys hlen hn5 ((if_neg (by decide)).trans m3) (if_pos rfl) ?_
  · intro p hp
    have hc := N6'.get (.head _)
    simp only [List.mem_cons, List.mem_append] at hp
    rcases hp with rfl | rfl | rfl | rfl | rfl | (hp | hp) | hp
    · exact off_cell N6' hc hok (.tail _ (.tail _ (.tail _ (.head _)))) (fun v => by simp)
    · exact off_cell N6' hc hok (.tail _ (.tail _ (.tail _ (.tail _ (.head _))))) (fun v => by simp)
    · exact off_cell N6' hc hok (.tail _ (.tail _ (.tail _ (.tail _ (.tail _ (.head _)))))) (fun v => by simp)
    · exact Nat.ne_of_gt (Nat.lt_succ_of_lt (Nat.lt_succ_self _))
    · exact off_cell N6' hc hok (.tail _ (.tail _ (.tail _ (.tail _ (.tail _ (.tail _ (.tail _ (.head _)))))))) (fun v => by simp)
    · exact off_cell N6' hc hok (by simp only [List.mem_cons, List.mem_append]; grind) (tabO_nocell (htb p (List.mem_append_left _ hp)))
    · exact off_cell N6' hc hok (by simp only [List.mem_cons, List.mem_append]; grind) (tabO_nocell (htb p (List.mem_append_right _ hp)))
    · exact off_cell N6' hc hok (by simp only [List.mem_cons, List.mem_append]; grind) (by obtain ⟨its, n', e⟩ := hTl p hp; intro v; rw [e]; simp)
  intro ok7 vk7 t7 m7 h7 tk7 N7 hok7 hm7 hm7a F7
  refine wpAny_execs_cons ?_
  have hm7' : ∀ y, y ≠ Str.ofString "ahead" → m7 y = m y := fun y hy => (hm7 y hy).trans (if_neg hy)
  refine law8 B F7 X T hd hu N7 hx0 hn5 (G.ahead.trans hxr) hm7a ((hm7' _ (by decide)).trans m4) ((hm7' _ (by decide)).trans m3) ?_
  intro h8 tk8 N8 F8
  refine wpAny_execs_cons ?_
  refine law9 B F8 X T hd hu (news_sub N8 (fun p hp => .tail _ hp)) hoo hys (by omega) (by rw [hlen]; exact G.rings) ?_
  intro t9 h9 tk9 N9 F9
  have N9' : News h₀ L h9 ((L + 3, o3) :: ((l, listOf vs.toArray kn) :: (x, instObj 184 dx) :: (dx, dictOf [⟨hs, .str (Str.ofString "_headers") tkh, .ref l⟩] k) :: (dl, listOf dvs.toArray kd) :: (tb1 ++ tb2 ++ tl))) := news_sub N9 (fun p hp => by simp only [List.mem_cons, List.mem_append] at hp ⊢; grind)
  have off3 : ∀ p ∈ (l, listOf vs.toArray kn) :: (x, instObj 184 dx) :: (dx, dictOf [⟨hs, .str (Str.ofString "_headers") tkh, .ref l⟩] k) :: (dl, listOf dvs.toArray kd) :: (tb1 ++ tb2 ++ tl), p.1 ≠ L + 3 := by
    intro p hp
    have hc := N9'.get (.head _)
    have hp' := List.Mem.tail (L + 3, o3) hp
    simp only [List.mem_cons, List.mem_append] at hp
    rcases hp with rfl | rfl | rfl | rfl | (hp | hp) | hp
    · exact off_cell N9' hc ho3 hp' (fun v => by simp)
    · exact off_cell N9' hc ho3 hp' (fun v => by simp)
    · exact off_cell N9' hc ho3 hp' (fun v => by simp)
    · exact off_cell N9' hc ho3 hp' (fun v => by simp)
    · exact off_cell N9' hc ho3 hp' (tabO_nocell (htb p (List.mem_append_left _ hp)))
    · exact off_cell N9' hc ho3 hp' (tabO_nocell (htb p (List.mem_append_right _ hp)))
    · exact off_cell N9' hc ho3 hp' (by obtain ⟨its, n', e⟩ := hTl p hp; intro v; rw [e]; simp)
  refine wpAny_execs_cons ?_
  refine law10 F9 X T N9' ho3 off3 ?_
  intro o10 t10 h10 tk10 N10 ho10 F10
  refine wpAny_execs_cons ?_
  have hst10 : Rows h10 vs (runsTo (st0 n) (fdig n r n).1 1) := hback _ _ F10 (news_sub N10 (fun p hp => by simp only [List.mem_cons, List.mem_append] at hp ⊢; grind))
  have hm : ∀ y, y ≠ Str.ofString "ahead" → y ≠ Str.ofString "home" → (if y = Str.ofString "home" then some (Value.int home t9) else m7 y) = m y := fun y h1 h2 => (if_neg h2).trans (hm7' y h1)
  have N10' : News h₀ L h10 ((l, listOf vs.toArray kn) :: (x, instObj 184 dx) :: (dx, dictOf [⟨hs, .str (Str.ofString "_headers") tkh, .ref l⟩] k) :: (L + 3, o10) :: (dl, listOf dvs.toArray kd) :: (tb1 ++ tb2)) := news_sub N10 (fun p hp => by simp only [List.mem_cons, List.mem_append] at hp ⊢; grind)
  refine law11 (news := tb1 ++ tb2) B F10 X T hd hu N10' ho10 ?_ hdn hst10 hdi hn5 G.one G.turns ((hm _ (by decide) (by decide)).trans m1) ((hm _ (by decide) (by decide)).trans m2) ((hm _ (by decide) (by decide)).trans m3) (if_pos rfl) ?_
  · intro p hp
    refine ⟨off3 p (by simp only [List.mem_cons, List.mem_append] at hp ⊢; grind), ?_⟩
    exact tabO_seq (htb p hp) (N10.get (by simp only [List.mem_cons, List.mem_append] at hp ⊢; grind)) (N10.get (.tail _ (.head _))) rfl
  intro vs11 kn11 o11 t11 h11 tk11 N11 ho11 hst11 F11
  refine wpAny_execs_cons ?_
  refine law12 (news := (dl, listOf dvs.toArray kd) :: (tb1 ++ tb2)) B F11 X T hd hu N11 ho11 hst11 (by rw [hst11.length]; exact G.finl) G.par hn5 G.fin ((hm _ (by decide) (by decide)).trans m1) ((hm _ (by decide) (by decide)).trans m3) ?_
  intro h12 tk12 m12 N12 F12
  exact ret h12 tk12 m12 (fun p hp => N12 p (.tail _ hp)) F12
end
end
section
open PySem PySem.W PyProof.Rows PySem.Spec PySem.Calls PySem.Builtin PySem.Builtin.Str
section
variable {w : World} {p : Program} {loose : List Str} {mean : ExcName → Option Value} {mg mb : Str → Option Value} {dp un : Nat} {gd : Option (List Code)} {a : Addr} {ccd : Value} {outer : List Env} {A₀ : Around} {base h₀ : Heap} {L : Addr} {m : Str → Option Value} {s : Shared} {Q : Flow → Shared → Prop}
theorem partA {xn : Int} {n : Nat} {t1 t2 : Tok} {ok oo o3 : Obj} {vk vo v3 : Option Value} {tb1 tb2 : List (Addr × Obj)} (B : Below A₀ base outer h₀) (F : Fr h₀ L s.heap m) (X : (hd.heap_39 w.params).In h₀) (T : Top p loose mean mg mb h₀) (hd : dp + 200 < recursionLimit) (hu : un + 1200 < cLine) (C1 : CodeHd h₀ 208 204) (C2 : CodeHd h₀ 215 211)
    (N : News h₀ L s.heap ((L + 1, ok) :: (L + 2, oo) :: (L + 3, o3) :: (tb1 ++ tb2))) (hok : ok.data = .cell vk) (hoo : oo.data = .cell vo) (ho3 : o3.data = .cell v3) (ht1 : T204 tb1) (ht2 : T211 tb2)
    (hn : n = 3 ∨ n = 4 ∨ n = 5) (hx0 : 0 ≤ xn) (hx1 : xn < 10 ^ 30)
    (m1 : m (Str.ofString "number") = some (.int xn t1)) (m2 : m (Str.ofString "n") = some (.int n t2))
    (ret : ∀ h' tk' m' tb1' tb2', T204 tb1' → T211 tb2' → News h₀ L h' (tb1' ++ tb2') → Fr h₀ L h' m' → Q (.ret (.bool true)) { s with heap := h', toks := tk' }) :
    wpAny (model PR w) (lawA dp un gd L a ccd outer) (execs [S1.1, S2.1, S3.1, S4.1, S5.1, S6.1, S7.1, S8.1, S9.1, S10.1, S11.1, S12.1] (lawEnv L a ccd)) Q (fun _ _ => False) s := by
  have hn5 : n ≤ 5 := by omega
  obtain ⟨nb, _, _, _, f1, f2⟩ := fac_bits n hn5
  obtain ⟨home, b, G⟩ := good_of hn (Int.emod_nonneg xn (b := fac n) (by omega)) (Int.emod_lt_of_pos xn (b := fac n) (by omega))
  have htb : ∀ p ∈ tb1 ++ tb2, TabO p.2 := fun p hp => (List.mem_append.mp hp).elim (tab_O ht1 p) (tab_O ht2 p)
  refine wpAny_execs_cons ?_
  refine law1 B F X T hd hu C1 C2 (fun p hp => N p (.tail _ (.tail _ (.tail _ hp)))) ht1 ht2 hx0 hx1 (by omega) hn5 m1 m2 ?_
  intro D items kD tb3 tb4 h1 tk1 hD hi hDn ht3 ht4 N1 kp1 F1
  have htb' : ∀ p ∈ tb3 ++ tb4, TabO p.2 := fun p hp => (List.mem_append.mp hp).elim (tab_O ht3 p) (tab_O ht4 p)
  have cof : ∀ {p : Addr × Obj} {v : Option Value}, p ∈ (L + 1, ok) :: (L + 2, oo) :: (L + 3, o3) :: (tb1 ++ tb2) → p.2.data = .cell v → News h₀ L h1 [p] := by
    intro p v hp hv q hq
    simp only [List.mem_singleton] at hq; subst hq
    obtain ⟨o1, q1⟩ := tab_head ht1
    obtain ⟨o2, q2⟩ := tab_head ht2
    refine ⟨kp1 _ _ (N q hp).1 ?_, (N q hp).2⟩
    simp only [List.mem_cons, List.not_mem_nil, or_false, not_or]
    refine ⟨(N q hp).2.1, ?_, ?_⟩
    · exact Ne.symm (off_cell N (N.get hp) hv (.tail _ (.tail _ (.tail _ (List.mem_append_left _ q1)))) (tabO_nocell (htb _ (List.mem_append_left _ q1))))
    · exact Ne.symm (off_cell N (N.get hp) hv (.tail _ (.tail _ (.tail _ (List.mem_append_right _ q2)))) (tabO_nocell (htb _ (List.mem_append_right _ q2))))
  have NB1 : News h₀ L h1 ((L + 1, ok) :: (L + 2, oo) :: (L + 3, o3) :: (D, listOf items.toArray kD) :: (tb3 ++ tb4)) := by
    refine pick (cof (.head _) hok) (.head _) (pick (cof (.tail _ (.head _)) hoo) (.head _) (pick (cof (.tail _ (.tail _ (.head _))) ho3) (.head _) (pick (fun p hp => ?_) (List.mem_singleton.mpr rfl) N1)))
    simp only [List.mem_singleton] at hp; subst hp
    exact ⟨hD, fr_fresh F hDn⟩
  refine wpAny_execs_cons ?_
  refine law2 B F1 X T hd hu NB1 ?_
  intro l x dx hs tkh k2 n2 h2 tk2 N2 l2 l3 l4 F2
  have N2' : News h₀ L h2 ((l, listOf #[] n2) :: (x, instObj 184 dx) :: (dx, dictOf [⟨hs, .str (Str.ofString "_headers") tkh, .ref l⟩] k2) :: (L + 1, ok) :: ((L + 2, oo) :: (L + 3, o3) :: (D, listOf items.toArray kD) :: (tb3 ++ tb4))) := N2
  have hltl : ∀ p ∈ (L + 1, ok) :: (L + 2, oo) :: (L + 3, o3) :: (D, listOf items.toArray kD) :: (tb3 ++ tb4), p.1 ≠ l := fun p hp => Nat.ne_of_lt (Nat.lt_trans (l2 p hp) (Nat.lt_trans l3 l4))
  refine wpAny_execs_cons ?_
  refine law3 (n := n) (x := x) B F2 X T hd hu N2' hok ?_ hn5 (if_pos rfl) ((if_neg (by decide)).trans ((if_neg (by decide)).trans m2)) ?_
  · intro p hp
    refine ⟨hltl p (.tail _ hp), ?_⟩
    have hc := N2'.get (.tail _ (.tail _ (.tail _ (.head _))))
    have hp' : p ∈ (l, listOf #[] n2) :: (x, instObj 184 dx) :: (dx, dictOf [⟨hs, .str (Str.ofString "_headers") tkh, .ref l⟩] k2) :: (L + 1, ok) :: ((L + 2, oo) :: (L + 3, o3) :: (D, listOf items.toArray kD) :: (tb3 ++ tb4)) := .tail _ (.tail _ (.tail _ (.tail _ hp)))
    rcases List.mem_cons.mp hp with rfl | hp
    · exact Nat.ne_of_gt (Nat.lt_succ_self _)
    · rcases List.mem_cons.mp hp with rfl | hp
      · exact Nat.ne_of_gt (Nat.lt_succ_of_lt (Nat.lt_succ_self _))
      · rcases List.mem_cons.mp hp with rfl | hp
        · exact off_cell N2' hc hok hp' (fun v => by simp)
        · exact off_cell N2' hc hok hp' (tabO_nocell (htb' p hp))
  intro vs n3 ok3 vk3 h3 tk3 N3 hok3 hr3 F3
  refine wpAny_execs_cons ?_
  refine law4 (x := x) (dl := D) B F3 X T hd hu (tab_of N3) (pick N3 (.tail _ (.tail _ (.tail _ (.tail _ (.head _))))) News.nil) hoo hr3 (N3.get (.tail _ (.tail _ (.tail _ (.tail _ (.tail _ (.tail _ (.head _)))))))) (hltl (D, listOf items.toArray kD) (.tail _ (.tail _ (.tail _ (.head _))))) hi G.ok (by rw [G.len]; omega) (if_pos rfl) ((if_neg (by decide)).trans (if_pos rfl)) ?_
  intro D4 k4 ys n4 vs4 oo4 h4 tk4 hDn4 hD4 hys hl4 hr4 ho4 hod4 kp4 F4
  have hc3 := N3.get (.tail _ (.tail _ (.tail _ (.tail _ (.head _)))))
  have kc : ∀ {p : Addr × Obj}, p ∈ (l, listOf vs.toArray n3) :: (x, instObj 184 dx) :: (dx, dictOf [⟨hs, .str (Str.ofString "_headers") tkh, .ref l⟩] k2) :: (L + 1, ok3) :: ((L + 2, oo) :: (L + 3, o3) :: (D, listOf items.toArray kD) :: (tb3 ++ tb4)) → p.1 ≠ l → p.1 ≠ L + 2 → News h₀ L h4 [p] := by
    intro p hp e1 e2 q hq
    simp only [List.mem_singleton] at hq; subst hq
    refine ⟨kp4 _ _ (N3 q hp).1 ?_, (N3 q hp).2⟩
    simp only [List.mem_cons, List.not_mem_nil, or_false, not_or]
    exact ⟨e1, e2⟩
  have N4 : News h₀ L h4 ((l, listOf vs4.toArray n4) :: (x, instObj 184 dx) :: (dx, dictOf [⟨hs, .str (Str.ofString "_headers") tkh, .ref l⟩] k2) :: (L + 1, ok3) :: (L + 2, oo4) :: (L + 3, o3) :: (D, listOf items.toArray kD) :: (D4, listOf ys.toArray k4) :: (tb3 ++ tb4)) := by
    refine pick (fun p hp => ?_) (List.mem_singleton.mpr rfl) (pick (kc (.tail _ (.head _)) (Nat.ne_of_lt l4) (off_cell N3 hc3 hoo (.tail _ (.head _)) (fun v => by simp))) (.head _) (pick (kc (.tail _ (.tail _ (.head _))) (Nat.ne_of_lt (Nat.lt_trans l3 l4)) (off_cell N3 hc3 hoo (.tail _ (.tail _ (.head _))) (fun v => by simp))) (.head _) (pick (kc (.tail _ (.tail _ (.tail _ (.head _)))) (hltl (L + 1, ok) (.head _)) (Nat.ne_of_lt (Nat.lt_succ_self _))) (.head _) (pick (fun p hp => ?_) (List.mem_singleton.mpr rfl) (pick (kc (.tail _ (.tail _ (.tail _ (.tail _ (.tail _ (.head _)))))) (hltl (L + 3, o3) (.tail _ (.tail _ (.head _)))) (Nat.ne_of_gt (Nat.lt_succ_self _))) (.head _) (pick (kc (.tail _ (.tail _ (.tail _ (.tail _ (.tail _ (.tail _ (.head _))))))) (hltl (D, listOf items.toArray kD) (.tail _ (.tail _ (.tail _ (.head _))))) (off_cell N3 hc3 hoo (.tail _ (.tail _ (.tail _ (.tail _ (.tail _ (.tail _ (.head _))))))) (fun v => by simp))) (.head _) (pick (fun p hp => ?_) (List.mem_singleton.mpr rfl) (fun p hp => kc (.tail _ (.tail _ (.tail _ (.tail _ (.tail _ (.tail _ (.tail _ hp))))))) (hltl p (.tail _ (.tail _ (.tail _ (.tail _ hp))))) (off_cell N3 hc3 hoo (.tail _ (.tail _ (.tail _ (.tail _ (.tail _ (.tail _ (.tail _ hp))))))) (tabO_nocell (htb' p hp))) p (.head _)))))))))
    · simp only [List.mem_singleton] at hp; subst hp
      exact ⟨hl4, (N3 _ (.head _)).2⟩
    · simp only [List.mem_singleton] at hp; subst hp
      exact ⟨ho4, (N3 _ (.tail _ (.tail _ (.tail _ (.tail _ (.head _)))))).2⟩
    · simp only [List.mem_singleton] at hp; subst hp
      exact ⟨hD4, fr_fresh F3 hDn4⟩
  have hD4l : D4 ≠ l := by
    rintro rfl
    have : h3.get? D4 = none := hDn4
    rw [N3.get (.head _)] at this; cases this
  refine partB (xn := xn) B F4 X T hd hu N4 hok3 hod4 ho3 ht3 ht4 (hltl (D, listOf items.toArray kD) (.tail _ (.tail _ (.tail _ (.head _))))) hD4l hr4 hi hys hn5 hx0 rfl G (if_pos rfl) ((if_neg (by decide)).trans (if_pos rfl)) ((if_neg (by decide)).trans ((if_neg (by decide)).trans m2)) ((if_neg (by decide)).trans ((if_neg (by decide)).trans m1)) ?_
  intro h5 tk5 m5 N5 F5
  exact ret h5 tk5 m5 tb3 tb4 ht3 ht4 N5 F5
end
end
section
open PySem PySem.W PyProof.Rows PySem.Spec PySem.Calls PySem.Builtin PySem.Builtin.Str
theorem tab_grown {g h : Heap} {L t : Addr} {l : Int} {q : Str} {tb : List (Addr × Obj)} (ht : Tab2 t l q tb) (N : News g L h tb) : GrownAt t h := by
  cases ht with
  | nil => exact GrownAt.of N (.head _)
  | one _ _ => exact GrownAt.of N (.head _)
theorem top : PySem.Challenge.rw_ny0257_02.Holds := Mine.hd (by
  k_go0
  all_goals try k_fold
  iterate 55 walk1
  refine wpAny_mono (E := fun _ _ => False) ?_ (fun _ _ h => h) (fun _ _ h => h.elim)
  (rename Fr _ _ _ _ => F1)
  (rename News _ _ _ _ => N1)
  (rename Below _ _ _ _ => B1)
  (rename (Mine.hd.heap_39 _).In (ghostOf _ _) => X1)
  (rename Top _ _ _ _ _ (ghostOf _ _) => T1)
  (rename List Int => ns)
  obtain ⟨n, hn, hne⟩ : ∃ n : Nat, (n = 3 ∨ n = 4 ∨ n = 5) ∧ 3 + ((List.drop 1 ns ++ [1]).getD (Int.toNat 0) 0).fmod 3 = (n : Int) := by
    generalize (List.drop 1 ns ++ [1]).getD (Int.toNat 0) 0 = v
    rw [Int.fmod_eq_emod_of_nonneg _ (by omega)]
    exact ⟨(3 + v % 3).toNat, by omega, by omega⟩
  rw [hne] at F1
  refine' partA (n := n) (tb1 := [(204, tabObj #[])]) (tb2 := [(211, tabObj #[])]) B1 F1 X1 T1 ?a1 ?a2 (by assumption) (by assumption) (pick N1 (.tail _ (.tail _ (.tail _ (.tail _ (.tail _ (.tail _ (.tail _ (.head _)))))))) (pick N1 (.tail _ (.tail _ (.tail _ (.tail _ (.tail _ (.tail _ (.head _))))))) (pick N1 (.tail _ (.tail _ (.tail _ (.tail _ (.tail _ (.head _)))))) (pick N1 (.tail _ (.tail _ (.tail _ (.tail _ (.tail _ (.tail _ (.tail _ (.tail _ (.tail _ (.head _)))))))))) (pick N1 (.tail _ (.tail _ (.tail _ (.tail _ (.tail _ (.tail _ (.tail _ (.tail _ (.head _))))))))) News.nil))))) (by assumption) (by assumption) (by assumption) .nil .nil hn ?a8 ?a9 (if_pos rfl) ((if_neg (by decide)).trans (if_pos rfl)) ?a12
  case a1 => decide
  case a2 => decide
  case a8 =>
    rw [Int.fmod_eq_emod_of_nonneg _ (by decide)]
    exact Int.emod_nonneg _ (by decide)
  case a9 =>
    rw [Int.fmod_eq_emod_of_nonneg _ (by decide)]
    exact Int.emod_lt_of_pos _ (by decide)
  case a12 =>
    clear N1 F1
    intro h9 tk9 m9 tb1' tb2' ht1' ht2' N9 F9
    refine ⟨?_, ?_⟩
    · k_steps
    · exact ⟨tab_grown ht2' (fun p hp => N9 p (List.mem_append_right _ hp)), tab_grown ht1' (fun p hp => N9 p (List.mem_append_left _ hp)), trivial⟩)
end
end Mine
theorem PySem.Challenge.cw_ny0257_02_holds : PySem.Challenge.rw_ny0257_02.Holds :=
  Mine.top
