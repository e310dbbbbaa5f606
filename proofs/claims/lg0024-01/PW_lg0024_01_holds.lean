import PyProof.Rows.All
import Wide.All
import OpenK.AllK
import Wide.FinOn
import PySem.Challenge.RW_lg0024_01
set_option Elab.async false
-- part: Hd
section
open PySem PySem.W PyProof.Rows
set_option maxRecDepth 100000
set_option maxHeartbeats 8000000
namespace Mine
open_top hd for PySem.Challenge.rw_lg0024_01
end Mine
end
-- part: Base
section
open PySem PySem.W PyProof.Rows
set_option maxRecDepth 100000
set_option maxHeartbeats 8000000
namespace Mine

noncomputable abbrev VW : Program := hd.view_39
/-- what every call finds: the text's own objects, the top's facts -/
structure Rdy (w : World) (mean : ExcName → Option Value) (mg mb : Str → Option Value) (h : Heap) : Prop where
  k : (hd.heap_39 w.params).In h
  t : Top VW (looseW VW []) mean mg mb h
abbrev Keep (h h' : Heap) : Prop := ∀ b o, h.get? b = some o → h'.get? b = some o
theorem Keep.trans {a b c : Heap} (x : Keep a b) (y : Keep b c) : Keep a c := fun i o e => y i o (x i o e)
theorem Rdy.keep {w : World} {mean : ExcName → Option Value} {mg mb : Str → Option Value} {h h' : Heap} (R : Rdy w mean mg mb h) (k : Keep h h') : Rdy w mean mg mb h' :=
  ⟨R.k.keeps k, R.t.keeps k⟩
end Mine
end
-- part: Rules
section
open PySem PySem.W PyProof.Rows
set_option maxRecDepth 100000
set_option maxHeartbeats 8000000
namespace Mine
/-- a mark at which the walk stops -/
def Stop (P : Prop) : Prop := P
abbrev Nope : Value → Shared → Prop := fun _ _ => False
section
variable {prog : Program} {w : World} {A : Around} {E : Value → Shared → Prop} {s : Shared} {env : Env}
theorem nope {α : Type} {M : Model} {t : Sem α} {Q : α → Shared → Prop} (h : wpAny M A t Q Nope s) : wpAny M A t Q E s :=
  wpAny_mono h (fun _ _ x => x) (fun _ _ x => x.elim)
theorem stop_cons {M : Model} {st rest} {Q : Flow → Shared → Prop}
    (h : wpAny M A (exec st env) (fun f s' => match f with | .next => Stop (wpAny M A (execs rest env) Q E s') | f => Q f s') E s) :
    wpAny M A (execs (st :: rest) env) Q E s := wpAny_execs_cons h
/-- one statement, what holds behind it said -/
theorem frEqv {h₀ h : Heap} {L : Addr} {m m' : Str → Option Value} (F : Fr h₀ L h m) (e : ∀ y, m y = m' y) : Fr h₀ L h m' := by
  rw [← funext e]; exact F
theorem frAgain {h₀ h : Heap} {L : Addr} {m : Str → Option Value} {x : Str} {v v' : Option Value} (F : Fr h₀ L h (fun y => if y = x then v else if y = x then v' else m y)) : Fr h₀ L h (fun y => if y = x then v else m y) :=
  frEqv F fun y => by by_cases e : y = x <;> simp [e]
theorem cut_cons {M : Model} {st rest} {Q : Flow → Shared → Prop} (P : Shared → Prop)
    (h : wpAny M A (exec st env) (fun f s' => match f with | .next => Stop (P s') | _ => False) Nope s) (k : ∀ s', P s' → wpAny M A (execs rest env) Q E s') :
    wpAny M A (execs (st :: rest) env) Q E s :=
  wpAny_execs_cons (wpAny_mono h (fun f s' q => by cases f; exact k s' q; exact q.elim; exact q.elim; exact q.elim) (fun _ _ x => x.elim))
theorem wp_cut {α : Type} {M : Model} {t : Sem α} {Q : α → Shared → Prop} (P : α → Shared → Prop) (h : wpAny M A t (fun a s' => Stop (P a s')) Nope s) (k : ∀ a s', P a s' → Q a s') : wpAny M A t Q E s :=
  wpAny_mono h (fun a s' q => k a s' q) (fun _ _ x => x.elim)
theorem if_cut {M : Model} {test body orelse pos} {Q} (P : Bool → Shared → Prop)
    (h : wpAny M A (isTrue test env (eval test env)) (fun b s' => Stop (P b s')) Nope s)
    (k1 : ∀ s', P true s' → wpAny M A (execs body env) Q E s') (k2 : ∀ s', P false s' → wpAny M A (execs orelse env) Q E s') :
    wpAny M A (exec (.If test body orelse pos) env) Q E s :=
  wpAny_If (wpAny_mono h (fun b s' q => by cases b; exact k2 s' q; exact k1 s' q) (fun _ _ x => x.elim))
theorem while_inv {test body pos} {Q : Flow → Shared → Prop} (J : Nat → Shared → Prop)
    (turn : ∀ n s, J n s → wpAny (model prog w) A (isTrue test env (eval test env)) (fun b s₂ =>
        if b then wpAny (model prog w) A (execs body env) (fun f s₃ => Stop (f = .next ∧ ∃ m, m < n ∧ J m s₃)) Nope s₂
        else Q .next s₂) Nope s)
    (n : Nat) (h : J n s) : wpAny (model prog w) A (exec (.While test body [] pos) env) Q E s := by
  refine wpAny_While (codeAny_whileLoop J (fun n s hJ => ?_) n h)
  refine wpAny_mono (turn n s hJ) (fun b s₂ hb => ?_) (fun _ _ x => x.elim)
  split
  · rename_i hb'
    rw [if_pos hb'] at hb
    refine wpAny_mono hb (fun f s₃ q => ?_) (fun _ _ x => x.elim)
    obtain ⟨rfl, q⟩ := q
    exact q
  · rename_i hb'
    rw [if_neg hb'] at hb
    exact wpAny_execs_nil hb
/-- a for over any walk of the library's; no break, no return in the body -/
theorem for_loop {target body it} {Q : Flow → Shared → Prop} {I : Addr} {fp wr : List Addr} {n : Nat} {P : Nat → Value → Prop} {St : Nat → Heap → Prop}
    (W : Walks prog w A I fp wr n P St) (J : Nat → Shared → Prop)
    (hJ : ∀ i s, J i s → St i s.heap)
    (turn : ∀ i s v h' tk, i < n → J i s → P i v → St (i + 1) h' → (∀ b o, b ∉ wr → s.heap.get? b = some o → h'.get? b = some o) →
      wpAny (model prog w) A (letOwnedTupleGo target (.ref I) v) (fun _ s₁ => wpAny (model prog w) A (assign target env v) (fun _ s₂ =>
        wpAny (model prog w) A (execs body env) (fun f s₃ => match f with | .next | .cont => Stop (J (i + 1) s₃) | .brk => False | .ret v => Q (.ret v) s₃) Nope s₂) Nope s₁) Nope { s with heap := h', toks := tk })
    (done : ∀ s h' tk, J n s → (∀ b o, b ∉ wr → s.heap.get? b = some o → h'.get? b = some o) → Q .next { s with heap := h', toks := tk })
    (h : J 0 s) (hit : it = .ref I) :
    codeAny (model prog w) A (.forLoop target it body [] env) (fun r s' => match r with | .ok f => Q f s' | .error e => cameBackBy (model prog w) A env E e s') s := by
  subst hit
  refine codeAny_forLoop_any (fun k s => k ≤ n ∧ J (n - k) s) (fun k s hk => ?_) n ⟨Nat.le_refl _, by simpa using h⟩
  obtain ⟨hkn, hj⟩ := hk
  by_cases h0 : k = 0
  · subst h0
    simp only [Nat.sub_zero] at hj
    refine W.done s _ _ (hJ _ _ hj) fun h' tk hk' => ?_
    exact wpAny_execs_nil (done s h' tk hj hk')
  · refine W.item (n - k) s _ _ (by omega) (hJ _ _ hj) fun v h' tk hP hS hk' => ?_
    refine wpAny_mono (turn (n - k) s v h' tk (by omega) hj hP hS hk') (fun _ s₁ q₁ => wpAny_mono q₁ (fun _ s₂ q₂ => wpAny_mono q₂ (fun f s₃ q₃ => ?_) (fun _ _ x => x.elim)) (fun _ _ x => x.elim)) (fun _ _ x => x.elim)
    have e : n - k + 1 = n - (k - 1) := by omega
    cases f with
    | next => exact ⟨k - 1, by omega, by omega, e ▸ q₃⟩
    | cont => exact ⟨k - 1, by omega, by omega, e ▸ q₃⟩
    | brk => exact q₃.elim
    | ret v => exact q₃
end
/-- the map, one name more -/
def up (m : Str → Option Value) (x : Str) (v : Value) : Str → Option Value := fun y => if y = x then some v else m y
theorem frTwice {h₀ h : Heap} {L : Addr} {m : Str → Option Value} {x : Str} {v v' : Value} (F : Fr h₀ L h (up (up m x v') x v)) : Fr h₀ L h (up m x v) := frAgain (v := some v) (v' := some v') F
theorem up_swap {m : Str → Option Value} {x x' : Str} {v v' : Value} (hne : x ≠ x') : up (up m x v) x' v' = up (up m x' v') x v := by
  funext y; unfold up; by_cases e : y = x
  · simp [e, hne]
  · simp [e]
theorem up_up {m : Str → Option Value} {x : Str} {v v' : Value} : up (up m x v) x v' = up m x v' := by
  funext y; unfold up; by_cases e : y = x <;> simp [e]
/-- a name that may be bound or not -/
def upo (m : Str → Option Value) (x : Str) (o : Option Value) : Str → Option Value := fun y => if y = x then o else m y
theorem upo_none {m : Str → Option Value} {x : Str} (h : m x = none) : upo m x none = m := by
  funext y; unfold upo; by_cases e : y = x
  · simp [e, h]
  · simp [e]
theorem up_upo {m : Str → Option Value} {x : Str} {o : Option Value} {v : Value} : up (upo m x o) x v = upo m x (some v) := by
  funext y; unfold up upo; by_cases e : y = x <;> simp [e]
theorem up_upo_swap {m : Str → Option Value} {x x' : Str} {o : Option Value} {v : Value} (hne : x ≠ x') : up (upo m x o) x' v = upo (up m x' v) x o := by
  funext y; unfold up upo; by_cases e : y = x
  · simp [e, hne]
  · simp [e]
/-- the names bound, as a map -/
def mp (l : List (Str × Value)) : Str → Option Value := fun x => l.lookup x
theorem enter_plain {prog : Program} {w : World} {A : Around} {R : Result → Shared → Prop} {s : Shared} {name : Str} {params : Arguments} {body : List Stmt} {scope : Scope}
    {pm cd doc : Value} {a : Addr} {o : Obj} {args : List Value} (binds : List (Str × Value))
    (hroom : A.depth < recursionLimit) (ho : s.heap.get? a = some o) (hdata : o.data = .func (Calls.docDef name params body scope pm cd doc)) (hlim : s.heap.NoLimit) (hcd : s.heap.CodeRec cd name)
    (hbind : bindArgs (Calls.docDef name params body scope pm cd doc) ⟨args, []⟩ = pure binds.reverse)
    (hloc : ∀ x ∈ binds.reverse, scope.names.lookup x.1 = some .local)
    (h : ∀ L h₁ tk, L = s.heap.objs.size → Fr s.heap L h₁ (mp binds) →
      wpAny (model prog w) (A.deeper (envOf name scope L a cd)) (execs body (envOf name scope L a cd))
        (fun f s' => Stop (R (.ok (.ret (match f with | .ret v => v | _ => .none))) s')) Nope
        { s with heap := h₁, toks := tk })
    (hco : scope.isCoroutine = false := by rfl) (hgen : scope.isGenerator = false := by rfl) (hk : scope.kind = .function := by rfl)
    (hcell : ∀ x ∈ scope.names, x.2 ≠ .cell := by decide) :
    codeAny (model prog w) A (.call (.ref a) ⟨args, []⟩) R s :=
  call_plain_ret hroom ho hdata hlim hcd hbind hloc (fun h₁ F => h _ h₁ _ rfl (show Fr s.heap s.heap.objs.size h₁ (fun x => binds.lookup x) from by simpa using F)) hco hgen hk hcell
end Mine
end
-- part: Lead
section
open PySem PySem.W PyProof.Rows
set_option maxRecDepth 100000
set_option maxHeartbeats 8000000
namespace Mine
local macro_rules | `(tactic| walk_at "go") => `(tactic| repeat' (first | (k_unfold; (try dsimp only)) | walk1 | (dsimp only; walk1) | (leave1; try dsimp only) | fail "no step"))
/-- the blank signs ahead -/
noncomputable def leadN : List Nat → Nat
  | [] => 0
  | c :: r => if Unicode.isSpace c then leadN r + 1 else 0
theorem charAt_nat {x : Str} {k : Nat} (h : k < x.length) : Txt.charAt x (k : Int) = some (x.cps.toList.getD k 0) := by
  unfold Txt.charAt
  have e : seqIndex? (k : Int) x.length = some k := by
    unfold seqIndex?
    have h1 : ¬ (k : Int) < 0 := by omega
    simp only [if_neg h1]
    rw [if_pos (by simp; omega)]
    simp
  rw [e]
  have h' : k < x.cps.size := h
  simp [Array.getElem?_eq_getElem h']
theorem item_nat {x : Str} {k : Nat} (h : k < x.length) : Txt.item x (k : Int) = ⟨#[x.cps.toList.getD k 0]⟩ := by
  unfold Txt.item; rw [charAt_nat h]; rfl
theorem isspace_one (c : Nat) : Txt.isspace ⟨#[c]⟩ = Unicode.isSpace c := by
  simp [Txt.isspace, Str.length]
theorem drop_cons {l : List Nat} {k : Nat} (h : k < l.length) : l.drop k = l.getD k 0 :: l.drop (k + 1) := by
  rw [List.drop_eq_getElem_cons h]; simp [h]
theorem lead_call {w : World} {mean : ExcName → Option Value} {mg mb : Str → Option Value} {A : Around} {s : Shared} {x : Str} {t : Tok} {R : Result → Shared → Prop}
   (hr : Rdy w mean mg mb s.heap) (hA : A.handled = none) (hdp : A.depth + 10 < recursionLimit) (hun : A.units + 50 < cLine) (hx : x.length ≤ 1000)
   (hR : ∀ h' tk u, Keep s.heap h' → R (.ok (.ret (.int (leadN x.cps.toList : Int) u))) { s with heap := h', toks := tk }) :
   codeAny (model PySem.Challenge.rw_lg0024_01.row.prog w) A (.call (.ref 61) ⟨[.str x t], []⟩) R s := by
  have KX := hr.k
  have T := hr.t
  revert KX; k_fill; intro KX
  refine enter_plain [(Str.ofString "title", .str x t)] (by omega) (hr.k 61 _ (by with_unfolding_all rfl)) (by with_unfolding_all rfl) hr.t.nolimit (by exact codeRec_of hr.k (by k_is)) rfl (locs rfl) ?_
  intro L h₁ tk hL F
  have N := News.nil (h₀ := s.heap) (h := h₁) (L := L)
  refine stop_cons ?_
  walk_at "go"
  (show wpAny _ _ _ _ _ _)
  rename_i h2 F2 N2
  refine wpAny_execs_cons ?_
  refine while_inv (fun n s' => ∃ k h tk u, s' = { s with heap := h, toks := tk } ∧ Fr s.heap L h (fun y => if y = Str.ofString "count" then some (.int (k : Nat) u) else mp [(Str.ofString "title", .str x t)] y) ∧ n = x.length - k ∧ k ≤ x.length ∧ leadN x.cps.toList = k + leadN (x.cps.toList.drop k)) ?_ x.length ⟨0, _, _, _, rfl, F2, by simp, by simp, by simp⟩
  rintro n s' ⟨k, h, tk', u, rfl, F3, hn, hk, hl⟩
  have N3 := News.nil (h₀ := s.heap) (h := h) (L := L)
  clear F2 N2
  walk_at "go"
  · show Stop _
    rename (Txt.isspace _ = _) => hs
    rename ((_ : Int) < _) => hk1
    rename Fr _ _ _ _ => F4
    have hk2 : k < x.length := by omega
    have hk3 : k < x.cps.toList.length := by simp; exact hk2
    rw [item_nat hk2, isspace_one] at hs
    rw [drop_cons hk3] at hl
    simp only [leadN, hs, if_true] at hl
    replace F4 := frAgain F4
    rw [show (k : Int) + 1 = ((k + 1 : Nat) : Int) from by omega] at F4
    exact ⟨rfl, x.length - (k + 1), by omega, k + 1, _, _, _, rfl, F4, rfl, by omega, by omega⟩
  · show Stop _
    rename (Txt.isspace _ = false) => hs
    rename ((_ : Int) < _) => hk1
    have hk2 : k < x.length := by omega
    have hk3 : k < x.cps.toList.length := by simp; exact hk2
    rw [item_nat hk2, isspace_one] at hs
    rw [drop_cons hk3] at hl
    simp only [leadN] at hl
    rw [if_neg (by simpa using hs)] at hl
    have e : (k : Int) = (leadN x.cps.toList : Int) := by omega
    rw [e]
    exact hR _ _ _ F3.keep
  · show Stop _
    rename (¬ (_ : Int) < _) => hk1
    have hk2 : x.cps.toList.drop k = [] := by
      have : x.cps.toList.length ≤ k := by have : ¬ k < x.length := by omega
                                           have : x.length ≤ k := by omega
                                           simp; exact this
      exact List.drop_eq_nil_of_le this
    rw [hk2] at hl
    have e : (k : Int) = (leadN x.cps.toList : Int) := by simp [leadN] at hl; omega
    rw [e]
    exact hR _ _ _ F3.keep
end Mine
end
-- part: Blanks
section
open PySem PySem.W PyProof.Rows
set_option maxRecDepth 100000
set_option maxHeartbeats 2000000
set_option linter.unusedVariables false
namespace Mine
/-- tabs laid out, from a column: the text -/
noncomputable def exS : List Nat → Nat → List Nat
  | [], _ => []
  | c :: r, k => if c = 9 then List.replicate (8 - k % 8) 32 ++ exS r (k + (8 - k % 8))
      else if c = 10 ∨ c = 13 then c :: exS r 0 else c :: exS r (k + 1)
/-- and the column at its end -/
noncomputable def exC : List Nat → Nat → Nat
  | [], k => k
  | c :: r, k => if c = 9 then exC r (k + (8 - k % 8))
      else if c = 10 ∨ c = 13 then exC r 0 else exC r (k + 1)
theorem exC_append (a b : List Nat) (k : Nat) : exC (a ++ b) k = exC b (exC a k) := by
  induction a generalizing k with
  | nil => rfl
  | cons c r ih => simp only [List.cons_append, exC]; split; exact ih _; split; exact ih _; exact ih _
theorem exS_append (a b : List Nat) (k : Nat) : exS (a ++ b) k = exS a k ++ exS b (exC a k) := by
  induction a generalizing k with
  | nil => rfl
  | cons c r ih =>
    simp only [List.cons_append, exS, exC]
    split
    · rw [ih]; simp
    · split
      · rw [ih]; simp
      · rw [ih]; simp
/-- blanks and tabs up to column k -/
structure IsBl (x : Str) (k : Nat) : Prop where
  bl : ∀ c ∈ x.cps.toList, c = 9 ∨ c = 32
  ex : exS x.cps.toList 0 = List.replicate k 32
  col : exC x.cps.toList 0 = k
  len : x.length ≤ k
theorem cps_app (x y : Str) : (x ++ y).cps.toList = x.cps.toList ++ y.cps.toList := by
  rw [Str.cps_append]; simp
theorem isBl_nil : IsBl (Str.ofString "") 0 := by
  have : (Str.ofString "").cps.toList = [] := by decide
  refine ⟨?_, ?_, ?_, by decide⟩ <;> simp [this, exS, exC]
theorem isBl_tab {x : Str} {k : Nat} (h : IsBl x k) : IsBl (x ++ Str.ofString "\t") (k + (8 - k % 8)) := by
  have e : (Str.ofString "\t").cps.toList = [9] := by decide
  have l : (Str.ofString "\t").length = 1 := by decide
  refine ⟨?_, ?_, ?_, ?_⟩
  · intro c hc
    rw [cps_app, e] at hc
    rcases List.mem_append.1 hc with h1 | h1
    · exact h.bl c h1
    · simp at h1; exact .inl h1
  · rw [cps_app, e, exS_append, h.ex, h.col]; simp [exS, List.replicate_append_replicate]
  · rw [cps_app, e, exC_append, h.col]; simp [exC]
  · rw [Str.length_append, l]; have := h.len; omega
theorem isBl_blank {x : Str} {k : Nat} (h : IsBl x k) : IsBl (x ++ Str.ofString " ") (k + 1) := by
  have e : (Str.ofString " ").cps.toList = [32] := by decide
  have l : (Str.ofString " ").length = 1 := by decide
  refine ⟨?_, ?_, ?_, ?_⟩
  · intro c hc
    rw [cps_app, e] at hc
    rcases List.mem_append.1 hc with h1 | h1
    · exact h.bl c h1
    · simp at h1; exact .inr h1
  · rw [cps_app, e, exS_append, h.ex, h.col]; simp [exS, List.replicate_succ']
  · rw [cps_app, e, exC_append, h.col]; simp [exC]
  · rw [Str.length_append, l]; have := h.len; omega
theorem stop_nat (k : Nat) : (k : Int) - (k : Int).fmod 8 + 8 = ((k + (8 - k % 8) : Nat) : Int) := by
  rw [Int.fmod_eq_emod_of_nonneg _ (by omega)]
  have : ((k % 8 : Nat) : Int) = (k : Int) % 8 := by omega
  omega
/-- a tab is due -/
def tabQ (bits wd : Int) (k : Nat) : Prop := (bits.fdiv (2 ^ ((k : Int).fmod 20).toNat)).fmod 2 = 1 ∧ (k : Int) - (k : Int).fmod 8 + 8 ≤ wd
theorem tabQ_stop {bits wd : Int} {k : Nat} (h : tabQ bits wd k) : k + (8 - k % 8) ≤ wd.toNat := by
  have := h.2; rw [stop_nat] at this; omega
local macro_rules | `(tactic| walk_at "go") => `(tactic| repeat' (first | (k_unfold; (try dsimp only)) | walk1 | (dsimp only; walk1) | (leave1; try dsimp only) | fail "no step"))
abbrev mB (bits wd : Int) (t t' : Tok) : Str → Option Value := mp [(Str.ofString "bits", .int bits t'), (Str.ofString "width", .int wd t)]
def invB (s : Shared) (L : Addr) (bits wd : Int) (t t' : Tok) (n : Nat) (s' : Shared) : Prop :=
  ∃ k h tk u x u' o, s' = { s with heap := h, toks := tk } ∧ Fr s.heap L h (up (up (upo (mB bits wd t t') (Str.ofString "stop") o) (Str.ofString "made") (.str x u)) (Str.ofString "column") (.int (k : Nat) u')) ∧ IsBl x k ∧ n = wd.toNat - k ∧ k ≤ wd.toNat
theorem mapB {h₀ h : Heap} {L : Addr} {m : Str → Option Value} {o : Option Value} {a b v : Value}
    (F : Fr h₀ L h (up (up (up (upo m (Str.ofString "stop") o) (Str.ofString "made") a) (Str.ofString "column") b) (Str.ofString "stop") v)) :
    Fr h₀ L h (up (up (upo m (Str.ofString "stop") (some v)) (Str.ofString "made") a) (Str.ofString "column") b) := by
  rw [up_swap (x := Str.ofString "column") (by decide), up_swap (x := Str.ofString "made") (by decide), up_upo] at F; exact F
theorem mapB2 {h₀ h : Heap} {L : Addr} {m : Str → Option Value} {a b a' b' : Value}
    (F : Fr h₀ L h (up (up (up (up m (Str.ofString "made") a) (Str.ofString "column") b) (Str.ofString "made") a') (Str.ofString "column") b')) :
    Fr h₀ L h (up (up m (Str.ofString "made") a') (Str.ofString "column") b') := by
  rw [up_swap (x := Str.ofString "column") (by decide), up_up, up_up] at F; exact F
theorem blanks_call {w : World} {mean : ExcName → Option Value} {mg mb : Str → Option Value} {A : Around} {s : Shared} {wd bits : Int} {t t' : Tok} {R : Result → Shared → Prop}
   (hr : Rdy w mean mg mb s.heap) (hA : A.handled = none) (hdp : A.depth + 10 < recursionLimit) (hun : A.units + 50 < cLine)
   (hw0 : 0 ≤ wd) (hw1 : wd ≤ 1000) (hb0 : 0 ≤ bits) (hb1 : bits < 100000000000000)
   (hR : ∀ h' tk x u, Keep s.heap h' → IsBl x wd.toNat → R (.ok (.ret (.str x u))) { s with heap := h', toks := tk }) :
   codeAny (model PySem.Challenge.rw_lg0024_01.row.prog w) A (.call (.ref 54) ⟨[.int wd t, .int bits t'], []⟩) R s := by
  have KX := hr.k
  have T := hr.t
  revert KX; k_fill; intro KX
  refine enter_plain [(Str.ofString "bits", .int bits t'), (Str.ofString "width", .int wd t)] (by omega) (hr.k 54 _ (by with_unfolding_all rfl)) (by with_unfolding_all rfl) hr.t.nolimit (by exact codeRec_of hr.k (by k_is)) rfl (locs rfl) ?_
  intro L h₁ tk hL F
  have N := News.nil (h₀ := s.heap) (h := h₁) (L := L)
  refine cut_cons (fun s' => ∃ h tk u, s' = { s with heap := h, toks := tk } ∧ Fr s.heap L h (up (mB bits wd t t') (Str.ofString "made") (.str (Str.ofString "") u))) ?_ ?_
  · walk_at "go"
    (show Stop _)
    rename Fr _ _ _ _ => F2
    exact ⟨_, _, _, rfl, F2⟩
  clear F N
  rintro _ ⟨h, tk, u, rfl, F⟩
  have N := News.nil (h₀ := s.heap) (h := h) (L := L)
  refine cut_cons (fun s' => ∃ h tk u', s' = { s with heap := h, toks := tk } ∧ Fr s.heap L h (up (up (mB bits wd t t') (Str.ofString "made") (.str (Str.ofString "") u)) (Str.ofString "column") (.int 0 u'))) ?_ ?_
  · walk_at "go"
    (show Stop _)
    rename Fr _ _ _ _ => F2
    exact ⟨_, _, _, rfl, F2⟩
  clear F N
  rintro _ ⟨h, tk, u', rfl, F⟩
  refine wpAny_execs_cons ?_
  rw [← upo_none (m := mB bits wd t t') (x := Str.ofString "stop") rfl] at F
  refine while_inv (invB s L bits wd t t') ?_ wd.toNat ⟨0, h, tk, u, _, u', _, rfl, F, isBl_nil, by simp, by simp⟩
  clear F
  rintro n _ ⟨k, h, tk, u, x, u', o, rfl, F, hx, hn, hk⟩
  have N := News.nil (h₀ := s.heap) (h := h) (L := L)
  have hkk : (k : Int) ≤ 1000 := by omega
  have hml : x.length ≤ 1000 := by have := hx.len; omega
  refine wp_cut (fun b s' => b = decide ((k : Int) < wd) ∧ ∃ tk, s' = { s with heap := h, toks := tk }) ?_ ?_
  · walk_at "go"
    exact ⟨rfl, _, rfl⟩
  rintro b _ ⟨rfl, tk', rfl⟩
  split
  · rename_i hlt
    have hlt : (k : Int) < wd := by simpa using hlt
    refine cut_cons (fun s' => ∃ h tk v, s' = { s with heap := h, toks := tk } ∧ Fr s.heap L h (up (up (upo (mB bits wd t t') (Str.ofString "stop") (some (.int ((k : Int) - (k : Int).fmod 8 + 8) v))) (Str.ofString "made") (.str x u)) (Str.ofString "column") (.int (k : Nat) u'))) ?_ ?_
    · walk_at "go"
      (show Stop _)
      rename Fr _ _ _ _ => F2
      exact ⟨_, _, _, rfl, mapB F2⟩
    clear F N
    rintro _ ⟨h, tk, v, rfl, F⟩
    have N := News.nil (h₀ := s.heap) (h := h) (L := L)
    refine wpAny_execs_cons ?_
    refine if_cut (fun b s' => (b = true ↔ tabQ bits wd k) ∧ ∃ tk, s' = { s with heap := h, toks := tk }) ?_ ?_ ?_
    · walk_at "go"
      · rename ((Int.fdiv _ _).fmod 2 = 1) => h1
        rename ((_ : Int) ≤ wd) => h2
        exact ⟨⟨fun _ => ⟨h1, h2⟩, fun _ => rfl⟩, _, rfl⟩
      · rename (¬ (_ : Int) ≤ wd) => h2
        exact ⟨⟨fun e => Bool.noConfusion e, fun q => absurd q.2 h2⟩, _, rfl⟩
      · rename (¬ (Int.fdiv _ _).fmod 2 = 1) => h1
        exact ⟨⟨fun e => Bool.noConfusion e, fun q => absurd q.1 h1⟩, _, rfl⟩
    · rintro _ ⟨q, tk, rfl⟩
      have q := q.1 rfl
      have q1 := tabQ_stop q
      walk_at "go"
      (show Stop _)
      rename Fr _ _ _ _ => F2
      replace F2 := mapB2 F2
      rw [stop_nat] at F2
      exact ⟨rfl, wd.toNat - (k + (8 - k % 8)), by omega, k + (8 - k % 8), _, _, _, _, _, _, rfl, F2, isBl_tab hx, rfl, q1⟩
    · rintro _ ⟨-, tk, rfl⟩
      walk_at "go"
      (show Stop _)
      rename Fr _ _ _ _ => F2
      replace F2 := mapB2 F2
      rw [show (k : Int) + 1 = ((k + 1 : Nat) : Int) from by omega] at F2
      exact ⟨rfl, wd.toNat - (k + 1), by omega, k + 1, _, _, _, _, _, _, rfl, F2, isBl_blank hx, rfl, by omega⟩
  · rename_i hlt
    have hlt : ¬ (k : Int) < wd := by simpa using hlt
    have e : k = wd.toNat := by omega
    walk_at "go"
    all_goals (show Stop _)
    rw [e] at hx
    exact hR _ _ _ _ F.keep hx
end Mine
end
-- part: Exp
section
open PySem PySem.W PyProof.Rows PySem.Builtin PySem.Builtin.Str
set_option maxRecDepth 100000
set_option maxHeartbeats 2000000
set_option linter.unusedVariables false
namespace Mine
/-- expandtabs -/
noncomputable def exT (x : Str) : Str := ⟨(exS x.cps.toList 0).toArray⟩
theorem exT_cps (x : Str) : (exT x).cps.toList = exS x.cps.toList 0 := by simp [exT]
theorem exS_len (l : List Nat) (k : Nat) : (exS l k).length ≤ 8 * l.length := by
  induction l generalizing k with
  | nil => simp [exS]
  | cons c r ih =>
    simp only [exS]
    split
    · simp; have := ih (k + (8 - k % 8)); omega
    · split
      · simp; have := ih 0; omega
      · simp; have := ih (k + 1); omega
theorem exT_len (x : Str) : (exT x).length ≤ 8 * x.length := by
  have := exS_len x.cps.toList 0
  simpa [exT, Str.length] using this
theorem exS_none (l : List Nat) (k : Nat) (h : 9 ∉ l) : exS l k = l := by
  induction l generalizing k with
  | nil => rfl
  | cons c r ih =>
    simp only [List.mem_cons, not_or] at h
    simp only [exS]
    rw [if_neg (Ne.symm h.1)]
    split
    · rw [ih _ h.2]
    · rw [ih _ h.2]
theorem exT_none {x : Str} (h : x.cps.contains 9 = false) : exT x = x := by
  have : 9 ∉ x.cps.toList := by
    intro m
    have : x.cps.contains 9 = true := by rw [Array.contains_iff_mem]; exact Array.mem_toList_iff.1 m
    rw [this] at h; cases h
  unfold exT; rw [exS_none _ _ this]
/-- the loop's body -/
def exB (c : Nat) (r : Array Nat × Nat) : Sem (ForInStep (Array Nat × Nat)) :=
  if (c == 9) = true then
    (if tooLong (r.fst.size + (if (8 : Int) > 0 then (8 : Int).toNat - r.snd % (8 : Int).toNat else 0)) = true then
      (do let _ ← (unsupported "str.expandtabs:memory" : Sem PUnit); pure (.yield (r.fst ++ Array.replicate (if (8 : Int) > 0 then (8 : Int).toNat - r.snd % (8 : Int).toNat else 0) 32, r.snd + (if (8 : Int) > 0 then (8 : Int).toNat - r.snd % (8 : Int).toNat else 0))))
     else pure (.yield (r.fst ++ Array.replicate (if (8 : Int) > 0 then (8 : Int).toNat - r.snd % (8 : Int).toNat else 0) 32, r.snd + (if (8 : Int) > 0 then (8 : Int).toNat - r.snd % (8 : Int).toNat else 0))))
  else pure (.yield (r.fst.push c, if (c == 10 || c == 13) = true then 0 else r.snd + 1))
theorem exB_run (l : List Nat) (o : Array Nat) (k : Nat) (h : o.size + (exS l k).length ≤ sizeLine) :
    forIn l (o, k) exB = (pure (o ++ (exS l k).toArray, exC l k) : Sem (Array Nat × Nat)) := by
  induction l generalizing o k with
  | nil => rw [List.forIn_nil]; simp [exS, exC]
  | cons c r ih =>
    rw [List.forIn_cons]
    have e8 : (if (8 : Int) > 0 then (8 : Int).toNat - k % (8 : Int).toNat else 0) = 8 - k % 8 := by rw [if_pos (by decide)]; rfl
    by_cases h9 : c = 9
    · subst h9
      have hb : exB 9 (o, k) = pure (.yield (o ++ Array.replicate (8 - k % 8) 32, k + (8 - k % 8))) := by
        unfold exB
        simp only [exS, if_true, List.length_append, List.length_replicate] at h
        have ht : tooLong (o.size + (8 - k % 8)) = false := by simp [tooLong]; omega
        simp only [e8, ht]
        rfl
      rw [hb]
      show forIn r (o ++ Array.replicate (8 - k % 8) 32, k + (8 - k % 8)) exB = _
      rw [ih _ _ (by simp only [exS, if_true, List.length_append, List.length_replicate] at h; simp; omega)]
      simp [exS, exC]
      congr 2
      apply Array.toList_inj.1
      simp
    · have hb : exB c (o, k) = pure (.yield (o.push c, if c = 10 ∨ c = 13 then 0 else k + 1)) := by
        unfold exB
        simp [h9]
      rw [hb]
      show forIn r (o.push c, if c = 10 ∨ c = 13 then 0 else k + 1) exB = _
      rw [ih _ _ (by simp only [exS, h9, if_false] at h; split <;> rename_i hc <;> simp [hc] at h ⊢ <;> omega)]
      simp only [exS, exC, h9, if_false]
      split <;> simp
theorem gives_exp (x : Str) (t : Tok) (hx : (exT x).length ≤ sizeLine) : Gives («str.expandtabs» ⟨[.str x t], []⟩) (if (!x.cps.contains 9) = true then .val (.str x t) else .str (exT x)) := by
  unfold «str.expandtabs»
  show Gives (if (!x.cps.contains 9) = true then (do rule "str.expandtabs.no-tab"; ret (← strUnchanged (.str x t) x)) else (do
      let r ← forIn x.cps ((#[], 0) : Array Nat × Nat) exB
      retStr ⟨r.fst⟩)) _
  cases hc : x.cps.contains 9
  · exact .rule (.of_eq rfl)
  · rw [← Array.forIn_toList, exB_run _ _ _ (by simpa [exT, Str.length] using hx)]
    have e : exT x = ⟨#[] ++ (exS x.cps.toList 0).toArray⟩ := by simp [exT]
    rw [e]
    exact .of_eq rfl
section
variable {prog : Program} {w : World} {M : Model} {A : Around} {E : Value → Shared → Prop} {s : Shared} {x : Str} {t : Tok}
theorem gm_exp {pl : Sem Bool} {Q : Value × List Value → Shared → Prop} (h : Q (.builtin "str.expandtabs", [.str x t]) s) : wpAny M A (getMethod (.str x t) "expandtabs" pl) Q E s := by
  with_reducible exact GM.of (.str x t) (typeIs_str _ _ _) F.slot_str_expandtabs F.type_str_expandtabs GM.noRef h
theorem call_exp {Q : Value → Shared → Prop} (hsz : x.length ≤ 2000000) (hq : ∀ t' k, (exT x).length ≤ 8 * x.length → Q (.str (exT x) t') { s with toks := k }) :
    wpAny (model prog w) A (call (.builtin "str.expandtabs") [.str x t]) Q E s := by
  have hl := exT_len x
  have h2 : (exT x).length ≤ sizeLine := by unfold sizeLine; omega
  refine call_gives F.slot_str_expandtabs (typeIs_str _ _ _) F.entry_str_expandtabs (F.args_str_expandtabs_1 _) (gives_exp x t h2) ?_
  refine post_val_or_made (fun _ => h2) ?_
  intro t' k
  have e : (if (!x.cps.contains 9) = true then x else exT x) = exT x := by
    split
    · rename_i hc; exact (exT_none (by simpa using hc)).symm
    · rfl
  rw [e]
  exact hq t' k hl
end
end Mine
end
-- part: Indent
section
open PySem PySem.W PyProof.Rows
set_option maxRecDepth 100000
set_option maxHeartbeats 2000000
set_option linter.unusedVariables false
namespace Mine
local macro_rules | `(tactic| walk_at "getMethod str") => `(tactic| with_reducible refine gm_exp ?_)
local macro_rules | `(tactic| walk_at "call builtin:str.expandtabs") => `(tactic| ((refine call_exp (hsz := ?hsz) ?_); (case hsz => omega); intro _ _ _))
local macro_rules | `(tactic| walk_at "go") => `(tactic| repeat' (first | (k_unfold; (try dsimp only)) | walk1 | (dsimp only; walk1) | (leave1; try dsimp only) | fail "no step"))
theorem indent_call {w : World} {mean : ExcName → Option Value} {mg mb : Str → Option Value} {A : Around} {s : Shared} {x : Str} {t : Tok} {R : Result → Shared → Prop}
   (hr : Rdy w mean mg mb s.heap) (hA : A.handled = none) (hdp : A.depth + 10 < recursionLimit) (hun : A.units + 50 < cLine) (hx : x.length ≤ 100000)
   (hR : ∀ h' tk u, Keep s.heap h' → R (.ok (.ret (.int (((exT x).length : Int) - ((Txt.lstrip (exT x)).length : Int)) u))) { s with heap := h', toks := tk }) :
   codeAny (model PySem.Challenge.rw_lg0024_01.row.prog w) A (.call (.ref 21) ⟨[.str x t], []⟩) R s := by
  have KX := hr.k
  have T := hr.t
  revert KX; k_fill; intro KX
  refine enter_plain [(Str.ofString "line", .str x t)] (by omega) (hr.k 21 _ (by with_unfolding_all rfl)) (by with_unfolding_all rfl) hr.t.nolimit (by exact codeRec_of hr.k (by k_is)) rfl (locs rfl) ?_
  intro L h₁ tk hL F
  have N := News.nil (h₀ := s.heap) (h := h₁) (L := L)
  walk_at "go"
  (show Stop _)
  rename Fr _ _ _ _ => F4
  exact hR _ _ _ F4.keep
end Mine
end
-- part: Title
section
open PySem PySem.W PyProof.Rows
set_option maxRecDepth 100000
set_option maxHeartbeats 2000000
set_option linter.unusedVariables false
namespace Mine
local macro_rules | `(tactic| walk_at "go") => `(tactic| repeat' (first | (k_unfold; (try dsimp only)) | walk1 | (dsimp only; walk1) | (leave1; try dsimp only) | fail "no step"))
/-- a title: three signs, no tab, newline, return; the first no blank -/
def IsTi (x : Str) : Prop := ∃ a b c, x = ⟨#[a, b, c]⟩ ∧ (a ≠ 32 ∧ a ≠ 9 ∧ a ≠ 10 ∧ a ≠ 13) ∧ (b ≠ 9 ∧ b ≠ 10 ∧ b ≠ 13) ∧ (c ≠ 9 ∧ c ≠ 10 ∧ c ≠ 13)
def oddS : Str := ⟨#[160, 121, 32, 11, 8232, 31, 12288, 122]⟩
theorem occ_not {c : Nat} (h : (Builtin.Str.occurrences (Str.ofString " \t\n\x0d") ⟨#[c]⟩ 0 (Str.ofString " \t\n\x0d").length 1).isEmpty = true) : c ≠ 32 ∧ c ≠ 9 ∧ c ≠ 10 ∧ c ≠ 13 := by
  refine ⟨?_, ?_, ?_, ?_⟩ <;> (rintro rfl; revert h; decide +kernel)
theorem odd_item {i : Int} (h0 : 0 ≤ i) (h1 : i < 8) : ∃ c, Txt.item oddS i = ⟨#[c]⟩ ∧ (c ≠ 9 ∧ c ≠ 10 ∧ c ≠ 13) := by
  have : i = 0 ∨ i = 1 ∨ i = 2 ∨ i = 3 ∨ i = 4 ∨ i = 5 ∨ i = 6 ∨ i = 7 := by omega
  rcases this with rfl | rfl | rfl | rfl | rfl | rfl | rfl | rfl
  · exact ⟨160, by decide, by decide⟩
  · exact ⟨121, by decide, by decide⟩
  · exact ⟨32, by decide, by decide⟩
  · exact ⟨11, by decide, by decide⟩
  · exact ⟨8232, by decide, by decide⟩
  · exact ⟨31, by decide, by decide⟩
  · exact ⟨12288, by decide, by decide⟩
  · exact ⟨122, by decide, by decide⟩
theorem fmod8 (a : Int) : 0 ≤ a.fmod 8 ∧ a.fmod 8 < 8 := ⟨Int.fmod_nonneg_of_pos _ (by decide), Int.fmod_lt_of_pos _ (by decide)⟩
theorem ti_make {a : Nat} {i j : Int} (ha : a ≠ 32 ∧ a ≠ 9 ∧ a ≠ 10 ∧ a ≠ 13) : IsTi ((⟨#[a]⟩ : Str) ++ Txt.item oddS (i.fmod 8) ++ Txt.item oddS (j.fmod 8)) := by
  obtain ⟨b, eb, hb⟩ := odd_item (fmod8 i).1 (fmod8 i).2
  obtain ⟨c, ec, hc⟩ := odd_item (fmod8 j).1 (fmod8 j).2
  rw [eb, ec]
  exact ⟨a, b, c, rfl, ha, hb, hc⟩
theorem title_call {w : World} {mean : ExcName → Option Value} {mg mb : Str → Option Value} {A : Around} {s : Shared} {q : Int} {t : Tok} {R : Result → Shared → Prop}
   (hr : Rdy w mean mg mb s.heap) (hA : A.handled = none) (hdp : A.depth + 10 < recursionLimit) (hun : A.units + 50 < cLine)
   (hb0 : 0 ≤ q) (hb1 : q < 100000000000000)
   (hR : ∀ h' tk x u, Keep s.heap h' → IsTi x → R (.ok (.ret (.str x u))) { s with heap := h', toks := tk }) :
   codeAny (model PySem.Challenge.rw_lg0024_01.row.prog w) A (.call (.ref 35) ⟨[.int q t], []⟩) R s := by
  have KX := hr.k
  have T := hr.t
  revert KX; k_fill; intro KX
  refine enter_plain [(Str.ofString "q", .int q t)] (by omega) (hr.k 35 _ (by with_unfolding_all rfl)) (by with_unfolding_all rfl) hr.t.nolimit (by exact codeRec_of hr.k (by k_is)) rfl (locs rfl) ?_
  intro L h₁ tk hL F
  have N := News.nil (h₀ := s.heap) (h := h₁) (L := L)
  refine cut_cons (fun s' => ∃ h tk u, s' = { s with heap := h, toks := tk } ∧ Fr s.heap L h (up (mp [(Str.ofString "q", .int q t)]) (Str.ofString "odd") (.str oddS u))) ?_ ?_
  · walk_at "go"
    (show Stop _)
    rename Fr _ _ _ _ => F2
    exact ⟨_, _, _, rfl, F2⟩
  clear F N
  rintro _ ⟨h, tk, u, rfl, F⟩
  have N := News.nil (h₀ := s.heap) (h := h) (L := L)
  refine cut_cons (fun s' => ∃ h tk c u', s' = { s with heap := h, toks := tk } ∧ Fr s.heap L h (up (up (mp [(Str.ofString "q", .int q t)]) (Str.ofString "odd") (.str oddS u)) (Str.ofString "first") (.str ⟨#[c]⟩ u'))) ?_ ?_
  · walk_at "go"
    · rename Fr _ _ _ _ => F2
      exact ⟨_, _, _, _, rfl, F2⟩
    · rename Fr _ _ _ _ => F2
      show Stop _
      obtain ⟨c, ec, -⟩ := odd_item (fmod8 (q.fdiv 2)).1 (fmod8 (q.fdiv 2)).2
      rw [ec] at F2
      exact ⟨_, _, _, _, rfl, F2⟩
  clear F N
  rintro _ ⟨h, tk, c, u', rfl, F⟩
  have N := News.nil (h₀ := s.heap) (h := h) (L := L)
  refine cut_cons (fun s' => ∃ h tk c u', s' = { s with heap := h, toks := tk } ∧ Fr s.heap L h (up (up (mp [(Str.ofString "q", .int q t)]) (Str.ofString "odd") (.str oddS u)) (Str.ofString "first") (.str ⟨#[c]⟩ u')) ∧ (c ≠ 32 ∧ c ≠ 9 ∧ c ≠ 10 ∧ c ≠ 13)) ?_ ?_
  · refine if_cut (fun b s' => (b = false → (c ≠ 32 ∧ c ≠ 9 ∧ c ≠ 10 ∧ c ≠ 13)) ∧ ∃ tk, s' = { s with heap := h, toks := tk }) ?_ ?_ ?_
    · walk_at "go"
      · exact ⟨fun e => Bool.noConfusion e, _, rfl⟩
      · rename (List.isEmpty _ = true) => ho
        exact ⟨fun _ => occ_not ho, _, rfl⟩
      · rename (List.isEmpty _ = true) => ho
        exact ⟨fun _ => occ_not ho, _, rfl⟩
      · exact ⟨fun e => Bool.noConfusion e, _, rfl⟩
    · rintro _ ⟨-, tk, rfl⟩
      walk_at "go"
      (show Stop _)
      rename Fr _ _ _ _ => F2
      exact ⟨_, _, 120, _, rfl, frTwice F2, by decide⟩
    · rintro _ ⟨q, tk, rfl⟩
      walk_at "go"
      (show Stop _)
      exact ⟨_, _, _, _, rfl, F, q rfl⟩
  clear F N
  rintro _ ⟨h, tk, c, u', rfl, F, hc⟩
  have N := News.nil (h₀ := s.heap) (h := h) (L := L)
  walk_at "go"
  (show Stop _)
  exact hR _ _ _ _ F.keep (ti_make hc)
end Mine
end
-- part: Loops
section
open PySem PySem.W PyProof.Rows
set_option maxRecDepth 100000
set_option maxHeartbeats 2000000
set_option linter.unusedVariables false
namespace Mine
section
variable {prog : Program} {w : World} {A : Around} {E : Value → Shared → Prop} {s : Shared} {env : Env} {h₀ : Heap} {L : Addr}
theorem fr_but {h h' : Heap} {m : Str → Option Value} {I : Addr} (F : Fr h₀ L h m) (hI : I ≠ L) (h0 : h₀.get? I = none) (hk : ∀ b o, b ∉ [I] → h.get? b = some o → h'.get? b = some o) : Fr h₀ L h' m :=
  ⟨F.ns.at' fun o e => hk L o (by simpa using hI.symm) e, fun b o e => hk b o (by intro hb; simp at hb; subst hb; rw [h0] at e; cases e) (F.keep b o e), F.above⟩
theorem news_but {h h' : Heap} {news : List (Addr × Obj)} {I : Addr} (N : News h₀ L h news) (hne : ∀ p ∈ news, p.1 ≠ I) (hk : ∀ b o, b ∉ [I] → h.get? b = some o → h'.get? b = some o) : News h₀ L h' news :=
  fun p hp => ⟨hk _ _ (by simpa using hne p hp) (N p hp).1, (N p hp).2⟩
theorem news_ne {h : Heap} {news : List (Addr × Obj)} {I : Addr} {o : Obj} (N : News h₀ L h ((I, o) :: news)) (hne : ∀ p ∈ news, p.2.cls ≠ o.cls) : ∀ p ∈ news, p.1 ≠ I := by
  intro p hp e
  have h1 := (N p (.tail _ hp)).1
  have h2 := (N (I, o) (.head _)).1
  simp only at h2
  rw [e, h2] at h1
  exact hne p hp (by rw [Option.some.inj h1])
/-- no iterator of the class c: another class, or a cell -/
def NotIt (c : Value) (o : Obj) : Prop := o.cls ≠ c ∨ ∃ v, o.data = .cell v
theorem news_ne2 {h : Heap} {news : List (Addr × Obj)} {I : Addr} {o : Obj} {c : Value} (N : News h₀ L h ((I, o) :: news)) (hc : o.cls = c) (hd : ∀ v, o.data ≠ .cell v) (hne : ∀ p ∈ news, NotIt c p.2) : ∀ p ∈ news, p.1 ≠ I := by
  intro p hp e
  have h1 := (N p (.tail _ hp)).1
  have h2 := (N (I, o) (.head _)).1
  simp only at h2
  rw [e, h2] at h1
  have e9 := Option.some.inj h1
  rcases hne p hp with h | ⟨v, h⟩
  · exact h (by rw [← e9]; exact hc)
  · exact hd v (by rw [e9]; exact h)
/-- two of the ledger, their data apart -/
theorem news_apart {h : Heap} {news : List (Addr × Obj)} {a b : Addr} {o o' : Obj} (N : News h₀ L h news) (ha : (a, o) ∈ news) (hb : (b, o') ∈ news) (hd : o.data ≠ o'.data) : @Ne Nat a b := by
  intro e
  have h1 := (N _ ha).1
  have h2 := (N _ hb).1
  simp only at h1 h2
  rw [show a = b from e, h2] at h1
  exact hd (by rw [Option.some.inj h1])
/-- a for, what it walks in the ledger -/
theorem for_walk {target body} {Q : Flow → Shared → Prop} {I : Addr} {fp : List Addr} {n : Nat} {P : Nat → Value → Prop} {St : Nat → Heap → Prop} {it : Nat → Obj → Prop} {c : Value} {m : Str → Option Value} {news : List (Addr × Obj)} {oI : Obj}
    (W : Walks prog w A I fp [I] n P St) (J : Nat → (Str → Option Value) → List (Addr × Obj) → Prop)
    (to : ∀ i h, St i h → ∃ o, h.get? I = some o ∧ it i o) (hc : ∀ i o, it i o → o.cls = c)
    (back : ∀ i h m' news' o, J i m' news' → Fr h₀ L h m' → News h₀ L h ((I, o) :: news') → it i o → St i h)
    (hd : ∀ i o, it i o → ∀ v, o.data ≠ .cell v)
    (hcl : ∀ i m' news', J i m' news' → ∀ p ∈ news', NotIt c p.2)
    (turn : ∀ i h tk m' news' o v, i < n → J i m' news' → P i v → it (i + 1) o → Fr h₀ L h m' → News h₀ L h ((I, o) :: news') →
      wpAny (model prog w) A (letOwnedTupleGo target (.ref I) v) (fun _ s₁ => wpAny (model prog w) A (assign target env v) (fun _ s₂ =>
        wpAny (model prog w) A (execs body env) (fun f s₃ => match f with | .next | .cont => Stop (∃ h tk m' news', s₃ = { s with heap := h, toks := tk } ∧ Fr h₀ L h m' ∧ News h₀ L h ((I, o) :: news') ∧ J (i + 1) m' news') | .brk => False | .ret v => Q (.ret v) s₃) Nope s₂) Nope s₁) Nope { s with heap := h, toks := tk })
    (done : ∀ h tk m' news', J n m' news' → Fr h₀ L h m' → News h₀ L h news' → Q .next { s with heap := h, toks := tk })
    (F : Fr h₀ L s.heap m) (N : News h₀ L s.heap ((I, oI) :: news)) (h0 : it 0 oI) (h : J 0 m news) :
    codeAny (model prog w) A (.forLoop target (.ref I) body [] env) (fun r s' => match r with | .ok f => Q f s' | .error e => cameBackBy (model prog w) A env E e s') s := by
  have hIL : I ≠ L := (N (I, oI) (.head _)).2.1
  have hI0 : h₀.get? I = none := (N (I, oI) (.head _)).2.2
  refine for_loop W (fun i s' => ∃ h tk m' news' o, s' = { s with heap := h, toks := tk } ∧ it i o ∧ Fr h₀ L h m' ∧ News h₀ L h ((I, o) :: news') ∧ J i m' news') ?_ ?_ ?_ ⟨s.heap, s.toks, m, news, oI, rfl, h0, F, N, h⟩ rfl
  · rintro i _ ⟨h, tk, m', news', o, rfl, ho, F', N', hj⟩
    exact back i h m' news' o hj F' N' ho
  · rintro i _ v h' tk' hi ⟨h, tk, m', news', o, rfl, ho, F', N', hj⟩ hP hS hk
    obtain ⟨o', e', ho'⟩ := to _ _ hS
    have hne := news_ne2 N' (hc _ _ ho) (hd _ _ ho) (hcl _ _ _ hj)
    have F2 : Fr h₀ L h' m' := fr_but F' hIL hI0 hk
    have N2 : News h₀ L h' ((I, o') :: news') := by
      intro p hp
      rcases List.mem_cons.1 hp with rfl | hp
      · exact ⟨e', hIL, hI0⟩
      · exact news_but (fun p hp => N' p (.tail _ hp)) hne hk p hp
    refine wpAny_mono (turn i h' tk' m' news' o' v hi hj hP ho' F2 N2) (fun _ s₁ q₁ => wpAny_mono q₁ (fun _ s₂ q₂ => wpAny_mono q₂ (fun f s₃ q₃ => ?_) (fun _ _ x => x)) (fun _ _ x => x)) (fun _ _ x => x)
    cases f with
    | next => obtain ⟨h, tk, m', news', e, F, N, hj⟩ := q₃; exact ⟨h, tk, m', news', o', e, ho', F, N, hj⟩
    | cont => obtain ⟨h, tk, m', news', e, F, N, hj⟩ := q₃; exact ⟨h, tk, m', news', o', e, ho', F, N, hj⟩
    | brk => exact q₃
    | ret v => exact q₃
  · rintro _ h' tk' ⟨h, tk, m', news', o, rfl, ho, F', N', hj⟩ hk
    have hne := news_ne2 N' (hc _ _ ho) (hd _ _ ho) (hcl _ _ _ hj)
    exact done h' tk' m' news' hj (fr_but F' hIL hI0 hk) (news_but (fun p hp => N' p (.tail _ hp)) hne hk)
/-- an object of the list iterators -/
def itL (ax : Addr) (i : Nat) (o : Obj) : Prop := o.cls = .type "list_iterator" ∧ o.data = .fields #[.ref ax, .int i 0]
/-- a for over a list -/
theorem for_list {E' : Value → Shared → Prop} {target body} {Q : Flow → Shared → Prop} {ax : Addr} {items : Array Value} {m : Str → Option Value} {news : List (Addr × Obj)}
    (hh : A.handled = none) (J : Nat → (Str → Option Value) → List (Addr × Obj) → Prop)
    (back : ∀ i h m' news', J i m' news' → Fr h₀ L h m' → News h₀ L h news' → h.IsList ax items)
    (hcl : ∀ i m' news', J i m' news' → ∀ p ∈ news', NotIt (.type "list_iterator") p.2)
    (turn : ∀ I i h tk m' news' o v, i < items.size → J i m' news' → items[i]? = some v → itL ax (i + 1) o → Fr h₀ L h m' → News h₀ L h ((I, o) :: news') →
      wpAny (model prog w) A (letOwnedTupleGo target (.ref I) v) (fun _ s₁ => wpAny (model prog w) A (assign target env v) (fun _ s₂ =>
        wpAny (model prog w) A (execs body env) (fun f s₃ => match f with | .next | .cont => Stop (∃ h tk m' news', s₃ = { s with heap := h, toks := tk } ∧ Fr h₀ L h m' ∧ News h₀ L h ((I, o) :: news') ∧ J (i + 1) m' news') | .brk => False | .ret v => Q (.ret v) s₃) Nope s₂) Nope s₁) Nope { s with heap := h, toks := tk })
    (done : ∀ h tk m' news', J items.size m' news' → Fr h₀ L h m' → News h₀ L h news' → Q .next { s with heap := h, toks := tk })
    (F : Fr h₀ L s.heap m) (N : News h₀ L s.heap news) (hj : J 0 m news) :
    wpAny (model prog w) A (pyIter (.ref ax)) (fun it s₂ => codeAny (model prog w) A (.forLoop target it body [] env) (fun r s' => match r with | .ok f => Q f s' | .error e => cameBackBy (model prog w) A env E e s') s₂) E' s := by
  have hl := back 0 s.heap m news hj F N
  refine wpAny_pyIter_list hl ?_
  have hne : ax ≠ s.heap.objs.size := by obtain ⟨o, ho, _⟩ := hl; exact Nat.ne_of_lt (Heap.lt_size ho)
  refine for_walk (h₀ := h₀) (L := L) (s := { s with heap := s.heap.push { cls := .type "list_iterator", data := .fields #[.ref ax, .int 0 0] } }) (Walks.list hh s.heap.objs.size ax hne items) J (it := itL ax) (c := .type "list_iterator") ?_ ?_ ?_ ?_ hcl ?_ ?_ (F.push _) (N.push F _) ⟨rfl, rfl⟩ hj
  · rintro i h ⟨⟨o, ho, r⟩, -⟩; exact ⟨o, ho, r⟩
  · rintro i o ho; exact ho.1
  · intro i h m' news' o hj F N ho
    exact ⟨⟨o, (N _ (.head _)).1, ho⟩, back i h m' news' hj F (fun p hp => N p (.tail _ hp))⟩
  · rintro i o ho v e; rw [ho.2] at e; cases e
  · intro i h tk m' news' o v hi hj hP ho F N
    exact turn _ i h tk m' news' o v hi hj hP ho F N
  · intro h tk m' news' hj F N
    exact done h tk m' news' hj F N
def itT (ax : Addr) (i : Nat) (o : Obj) : Prop := o.cls = .type "tuple_iterator" ∧ o.data = .fields #[.ref ax, .int i 0]
/-- a for over a tuple -/
theorem for_tuple {E' : Value → Shared → Prop} {target body} {Q : Flow → Shared → Prop} {ax : Addr} {items : Array Value} {m : Str → Option Value} {news : List (Addr × Obj)}
    (hh : A.handled = none) (J : Nat → (Str → Option Value) → List (Addr × Obj) → Prop)
    (back : ∀ i h m' news', J i m' news' → Fr h₀ L h m' → News h₀ L h news' → h.IsTuple ax items)
    (hcl : ∀ i m' news', J i m' news' → ∀ p ∈ news', NotIt (.type "tuple_iterator") p.2)
    (turn : ∀ I i h tk m' news' o v, i < items.size → J i m' news' → items[i]? = some v → itT ax (i + 1) o → Fr h₀ L h m' → News h₀ L h ((I, o) :: news') →
      wpAny (model prog w) A (letOwnedTupleGo target (.ref I) v) (fun _ s₁ => wpAny (model prog w) A (assign target env v) (fun _ s₂ =>
        wpAny (model prog w) A (execs body env) (fun f s₃ => match f with | .next | .cont => Stop (∃ h tk m' news', s₃ = { s with heap := h, toks := tk } ∧ Fr h₀ L h m' ∧ News h₀ L h ((I, o) :: news') ∧ J (i + 1) m' news') | .brk => False | .ret v => Q (.ret v) s₃) Nope s₂) Nope s₁) Nope { s with heap := h, toks := tk })
    (done : ∀ h tk m' news', J items.size m' news' → Fr h₀ L h m' → News h₀ L h news' → Q .next { s with heap := h, toks := tk })
    (F : Fr h₀ L s.heap m) (N : News h₀ L s.heap news) (hj : J 0 m news) :
    wpAny (model prog w) A (pyIter (.ref ax)) (fun it s₂ => codeAny (model prog w) A (.forLoop target it body [] env) (fun r s' => match r with | .ok f => Q f s' | .error e => cameBackBy (model prog w) A env E e s') s₂) E' s := by
  have hl := back 0 s.heap m news hj F N
  refine wpAny_pyIter_tuple hl ?_
  have hne : ax ≠ s.heap.objs.size := by obtain ⟨o, ho, _⟩ := hl; exact Nat.ne_of_lt (Heap.lt_size ho)
  refine for_walk (h₀ := h₀) (L := L) (s := { s with heap := s.heap.push { cls := .type "tuple_iterator", data := .fields #[.ref ax, .int 0 0] } }) (Walks.tuple hh s.heap.objs.size ax hne items) J (it := itT ax) (c := .type "tuple_iterator") ?_ ?_ ?_ ?_ hcl ?_ ?_ (F.push _) (N.push F _) ⟨rfl, rfl⟩ hj
  · rintro i h ⟨⟨o, ho, r⟩, -⟩; exact ⟨o, ho, r⟩
  · rintro i o ho; exact ho.1
  · intro i h m' news' o hj F N ho
    exact ⟨⟨o, (N _ (.head _)).1, ho⟩, back i h m' news' hj F (fun p hp => N p (.tail _ hp))⟩
  · rintro i o ho v e; rw [ho.2] at e; cases e
  · intro i h tk m' news' o v hi hj hP ho F N
    exact turn _ i h tk m' news' o v hi hj hP ho F N
  · intro h tk m' news' hj F N
    exact done h tk m' news' hj F N
def itR (lo : Int) (n : Nat) (i : Nat) (o : Obj) : Prop := o = { cls := .type "range_iterator", data := .fields #[rawInt (lo + (i : Nat) * 1), rawInt ((n : Int) - (i : Nat)), rawInt 1] }
/-- a for over range(lo, hi) -/
theorem for_range {E' : Value → Shared → Prop} {target body} {Q : Flow → Shared → Prop} {r : Addr} {lo hi : Int} {t u v : Tok} {m : Str → Option Value} {news : List (Addr × Obj)}
    (hh : A.handled = none) (hr : IsRange s.heap r lo hi 1 t u v) (h0 : 0 ≤ lo) (h1 : lo ≤ 1000000) (h2 : 0 ≤ hi) (h3 : hi ≤ 1000000)
    (J : Nat → (Str → Option Value) → List (Addr × Obj) → Prop)
    (hcl : ∀ i m' news', J i m' news' → ∀ p ∈ news', NotIt (.type "range_iterator") p.2)
    (turn : ∀ I i h tk m' news' o t, i < (hi - lo).toNat → J i m' news' → itR lo (hi - lo).toNat (i + 1) o → Fr h₀ L h m' → News h₀ L h ((I, o) :: news') →
      wpAny (model prog w) A (letOwnedTupleGo target (.ref I) (.int (lo + (i : Nat)) t)) (fun _ s₁ => wpAny (model prog w) A (assign target env (.int (lo + (i : Nat)) t)) (fun _ s₂ =>
        wpAny (model prog w) A (execs body env) (fun f s₃ => match f with | .next | .cont => Stop (∃ h tk m' news', s₃ = { s with heap := h, toks := tk } ∧ Fr h₀ L h m' ∧ News h₀ L h ((I, o) :: news') ∧ J (i + 1) m' news') | .brk => False | .ret v => Q (.ret v) s₃) Nope s₂) Nope s₁) Nope { s with heap := h, toks := tk })
    (done : ∀ h tk m' news', J (hi - lo).toNat m' news' → Fr h₀ L h m' → News h₀ L h news' → Q .next { s with heap := h, toks := tk })
    (F : Fr h₀ L s.heap m) (N : News h₀ L s.heap news) (hj : J 0 m news) :
    wpAny (model prog w) A (pyIter (.ref r)) (fun it s₂ => codeAny (model prog w) A (.forLoop target it body [] env) (fun r s' => match r with | .ok f => Q f s' | .error e => cameBackBy (model prog w) A env E e s') s₂) E' s := by
  refine wpAny_pyIter_range hr (small_one (by omega) (by omega) (by omega) (by omega)) ?_
  have hsz : Builtin.Range.rangeSize lo hi 1 = ((hi - lo).toNat : Int) := by rw [rangeSize_one]; split <;> omega
  rw [hsz]
  refine for_walk (h₀ := h₀) (L := L) (s := { s with heap := s.heap.push { cls := .type "range_iterator", data := .fields #[rawInt lo, rawInt ((hi - lo).toNat : Int), rawInt 1] } }) (Walks.range hh s.heap.objs.size lo 1 (hi - lo).toNat) J (it := itR lo (hi - lo).toNat) (c := .type "range_iterator") ?_ ?_ ?_ ?_ hcl ?_ ?_ (F.push _) (N.push F _) (by simp [itR]) hj
  · intro i h st; exact ⟨_, st, rfl⟩
  · rintro i o rfl; rfl
  · rintro i h m' news' o hj F N rfl
    exact (N _ (.head _)).1
  · rintro i o rfl v e; cases e
  · rintro i h tk m' news' o v hi hj ⟨t, rfl⟩ ho F N
    have e : lo + (i : Int) * 1 = lo + (i : Int) := by omega
    rw [e]
    exact turn _ i h tk m' news' o t hi hj ho F N
  · intro h tk m' news' hj F N
    exact done h tk m' news' hj F N
end
end Mine
end
-- part: Lists
section
open PySem PySem.W PyProof.Rows
set_option maxRecDepth 100000
set_option maxHeartbeats 2000000
set_option linter.unusedVariables false
namespace Mine
section
variable {prog : Program} {w : World} {A : Around} {E : Value → Shared → Prop} {s : Shared} {h₀ : Heap} {L D : Addr} {m : Str → Option Value} {news news' : List (Addr × Obj)} {vs : List Value} {n : Nat} {k : Int} {t : Tok} {v : Value}
theorem ls_set {Q : Unit → Shared → Prop} (F : Fr h₀ L s.heap m) (N : News h₀ L s.heap news) (U : Upd D (listOf vs.toArray n) (listOf (vs.set k.toNat v).toArray n) news news') (h0 : 0 ≤ k) (h1 : k < vs.length) (hz : vs.length ≤ 1000000)
    (h : ∀ h', Fr h₀ L h' m → News h₀ L h' news' → Q () { s with heap := h' }) :
    wpAny (model prog w) A (setItem (.ref D) (.int k t) v) Q E s := by
  obtain ⟨pre, post, rfl, rfl, a, b⟩ := U.split
  have z := N (D, listOf vs.toArray n) (List.mem_append.mpr (.inr (.head _)))
  have hs : vs.toArray.size = vs.length := by simp
  refine ki_setAt z.1 h0 (by omega) (by omega) (h _ (F.change (Heap.SameBut.update ..) z.2.1 z.2.2) (ki_turn _ N a b ?_ ?_))
  · show vs.toArray.setIfInBounds k.toNat v = (vs.set k.toNat v).toArray
    apply Array.toList_inj.mp
    simp
  · simp
theorem ls_pop {p : List Value} {y : Value} {Q : Value → Shared → Prop} (F : Fr h₀ L s.heap m) (N : News h₀ L s.heap news) (e : vs = p ++ [y]) (U : Upd D (listOf vs.toArray n) (listOf p.toArray (n + 1)) news news')
    (hz : vs.length ≤ 1000000) (h : ∀ h', Fr h₀ L h' m → News h₀ L h' news' → Q y { s with heap := h' }) : wpAny (model prog w) A (call (.builtin "list.pop") [.ref D]) Q E s := by
  refine kl_pop (its := vs.toArray) F N (p := p) (y := y) ?_ U (by have e9 : vs.toArray.toList.length = vs.length := by simp
                                                                   rw [e9]; unfold sizeLine; omega) h
  have : ∀ p : List Value, kl_last (p ++ [y]) = some (p, y) := by
    intro p; induction p with
    | nil => rfl
    | cons x r ih => simp only [List.cons_append, kl_last, ih]
  show kl_last vs.toArray.toList = _
  simp [e, this]
theorem ls_pop0 {q : List Value} {y : Value} {Q : Value → Shared → Prop} (F : Fr h₀ L s.heap m) (N : News h₀ L s.heap news) (e : vs = y :: q) (U : Upd D (listOf vs.toArray n) (listOf q.toArray (n + 1)) news news')
    (hz : vs.length ≤ 1000000) (h : ∀ h', Fr h₀ L h' m → News h₀ L h' news' → Q y { s with heap := h' }) : wpAny (model prog w) A (call (.builtin "list.pop") [.ref D, .int 0 t]) Q E s := by
  subst e
  have hz9 : (y :: q).toArray.toList.length ≤ sizeLine := by
    have e9 : (y :: q).toArray.toList.length = (y :: q).length := by simp
    rw [e9]; unfold sizeLine; omega
  refine kl_popAt (its := (y :: q).toArray) (i := 0) (k := 0) (p := []) (q := q) (y := y) F N (by decide) ?_ ?_ U hz9 h
  · unfold seqIndex?; simp
  · rfl
theorem ls_len {its : Array Value} {c : Nat} {Q : Value → Shared → Prop} (N : News h₀ L s.heap news) (hm : (D, listOf its n) ∈ news) (hs : its.size = c) (hz : c ≤ 1000000) (h : ∀ t k, Q (.int (c : Nat) t) { s with toks := k }) :
    wpAny (model prog w) A (call (.builtin "len") [.ref D]) Q E s := by
  refine Calls.call_len_list (News.isList N hm) (by omega) ?_
  rw [hs]
  exact h _ _
theorem ls_truthy {b : Bool} {Q : Bool → Shared → Prop} (N : News h₀ L s.heap news) (hm : (D, listOf vs.toArray n) ∈ news) (hz : vs.length ≤ 1000000) (hb : (!vs.isEmpty) = b) (h : ∀ k, Q b { s with toks := k }) :
    wpAny (model prog w) A (truthy (.ref D)) Q E s := by
  refine wpAny_truthy_list (News.isList N hm) (by rw [List.size_toArray]; omega) ?_
  rw [List.isEmpty_toArray, hb]
  exact h _
theorem ls_last {value slice : PySem.Expr} {vi : List Value} {u : Tok} {Q : Value → Shared → Prop} (N : News h₀ L s.heap news) (hm : (D, listOf vs.toArray n) ∈ news) (e : vs = vi ++ [v]) (h : Q v s)
    (hs : subscripted slice false (.ref D) (.int (-1) u) = operate [.ref D, .int (-1) u] (getItem (.ref D) (.int (-1) u)) := by with_unfolding_all rfl) :
    wpAny (model prog w) A (subscriptTail value slice (.ref D) (.int (-1) u)) Q E s := by
  subst e
  have hl := News.isList N hm
  have e9 : ((-1 : Int) + (((vi ++ [v]).toArray).size : Int)).toNat = vi.length := by simp; omega
  have hx : (vi ++ [v]).toArray[((-1 : Int) + (((vi ++ [v]).toArray).size : Int)).toNat]? = some v := by rw [e9]; simp
  exact subscriptTail_builtinR hl.typeIs slot_list_getitem.lookup (wpAny_getItem_list_neg (x := v) (Q := fun r s' => r = v ∧ Q r s') hl (by decide) (by simp; omega) (by decide) hx ⟨rfl, h⟩) hs
theorem ls_append {x : Value} {Q : Value → Shared → Prop} (F : Fr h₀ L s.heap m) (N : News h₀ L s.heap news) (U : Upd D (listOf vs.toArray n) (listOf (vs ++ [x]).toArray (n + 1)) news news') (hz : vs.length ≤ 1000000)
    (h : ∀ h', Fr h₀ L h' m → News h₀ L h' news' → Q .none { s with heap := h' }) : wpAny (model prog w) A (call (.builtin "list.append") [.ref D, x]) Q E s := by
  refine append_K (its := vs.toArray) (n := n) F N ?_ h (by rw [List.size_toArray]; unfold sizeLine; omega)
  have e : vs.toArray.push x = (vs ++ [x]).toArray := by apply Array.toList_inj.1; simp
  rw [e]
  exact U
theorem ls_insert {x : Int} {u : Tok} {y : Value} {Q : Value → Shared → Prop} (F : Fr h₀ L s.heap m) (N : News h₀ L s.heap news) (h0 : 0 ≤ x) (h1 : x ≤ vs.length) (hz : vs.length ≤ 1000000)
    (U : Upd D (listOf vs.toArray n) (listOf (vs.take x.toNat ++ y :: vs.drop x.toNat).toArray (n + 1)) news news') (h : ∀ h', Fr h₀ L h' m → News h₀ L h' news' → Q .none { s with heap := h' }) :
    wpAny (model prog w) A (call (.builtin "list.insert") [.ref D, .int x u, y]) Q E s := by
  refine kl_insert (its := vs.toArray) F N ?_ ?_ U ?_ h
  · exact fitsIndex_of h0 (by omega)
  · show kl_ins vs x y = _
    unfold kl_ins
    rw [if_neg (by omega), Nat.min_eq_left (by omega)]
  · have e9 : vs.toArray.toList.length = vs.length := by simp
    rw [e9]; unfold sizeLine; omega
/-- slices -/
theorem ls_pick_from (vs : List Value) (k : Int) (h : 0 ≤ k) : slicePick vs.toArray (some k) none none = (vs.drop k.toNat).toArray := by
  rw [kms_pick_eq]
  have e1 : kms_lo (some k) vs.length = min k.toNat vs.length := by simp only [kms_lo]; rw [if_neg (by omega)]
  have e2 : kms_hi none vs.length = vs.length := rfl
  have : kms_pick vs.toArray.toList (some k) none = vs.drop k.toNat := by
    show kms_pick vs (some k) none = _
    unfold kms_pick
    rw [e1, e2]
    by_cases hk : k.toNat ≤ vs.length
    · rw [Nat.min_eq_left hk]; apply List.take_of_length_le; simp
    · rw [Nat.min_eq_right (by omega), List.drop_eq_nil_of_le (by omega : vs.length ≤ k.toNat)]; simp
  rw [this]
theorem ls_pick_upto (vs : List Value) (k : Int) (h : 0 ≤ k) : slicePick vs.toArray none (some k) none = (vs.take k.toNat).toArray := by
  rw [kms_pick_eq]
  have e1 : kms_hi (some k) vs.length = min k.toNat vs.length := by simp only [kms_hi]; rw [if_neg (by omega)]
  have e2 : kms_lo none vs.length = 0 := rfl
  have : kms_pick vs.toArray.toList none (some k) = vs.take k.toNat := by
    show kms_pick vs none (some k) = _
    unfold kms_pick
    rw [e1, e2]
    simp [List.take_eq_take_iff]
  rw [this]
theorem frMap {h₀ h : Heap} {L : Addr} {m m' : Str → Option Value} (e : m = m') (F : Fr h₀ L h m) : Fr h₀ L h m' := e ▸ F
theorem list_cls {its : Array Value} {n : Nat} {c : String} (h : "list" ≠ c) : (listOf its n).cls ≠ .type c := by
  intro e; exact h (by injection e)
theorem strs_set {y : Str} {t : Tok} : ∀ {vs : List Value} {ys : List Str} (k : Nat), StrsAre vs ys → StrsAre (vs.set k (.str y t)) (ys.set k y)
  | _, _, _, .nil => .nil
  | _, _, 0, .cons a u h => .cons y t h
  | _, _, k + 1, .cons a u h => .cons a u (strs_set k h)
end
end Mine
end
-- part: Clean
section
open PySem PySem.W PyProof.Rows
set_option maxRecDepth 100000
set_option maxHeartbeats 2000000
set_option linter.unusedVariables false
namespace Mine
local macro_rules | `(tactic| walk_at "getMethod str") => `(tactic| with_reducible refine gm_exp ?_)
local macro_rules | `(tactic| walk_at "call builtin:str.expandtabs") => `(tactic| ((refine call_exp (hsz := ?hsz) ?_); (case hsz => omega); intro _ _ _))
local macro_rules | `(tactic| walk_at "go") => `(tactic| repeat' (first | (k_unfold; (try dsimp only)) | walk1 | (dsimp only; walk1) | (leave1; try dsimp only) | fail "no step"))
local macro_rules | `(tactic| walk_at "subscriptTail Name Slice ref ref") => `(tactic| (k_here; (with_reducible show wpAny _ _ (subscriptTail _ (PySem.Expr.Slice _ _ none _) (Value.ref _) (Value.ref _)) _ _ _); k_dflt (refine' kmk_slice ?F ?N ?l ?p ?q ?_ ?s ?t ?z; (case F => k_asm); (case N => k_asm); (case l => kmk_list); (case p => kmk_part); (case q => kmk_part); (case s => with_unfolding_all rfl); (case t => kmk_pure); (case z => assumption)); intro D' h' F' N' l1))
local macro_rules | `(tactic| walk_at "call builtin:min") => `(tactic| ((with_reducible show wpAny _ _ (call (Value.builtin _) [Value.int _ _, Value.int _ _]) _ _ _); (with_reducible rename News _ _ _ _ => N'); (with_unfolding_all apply min_two_N); (case hh => with_unfolding_all assumption); (case N => exact N'); (case F => assumption); clear N'; intro _ _ _ _))
local macro_rules | `(tactic| walk_at "call builtin:len") => `(tactic| (k_here; (with_reducible show wpAny _ _ (call (Value.builtin "len") [Value.ref _]) _ _ _); k_dflt (refine' ls_len ?N ?m ?s ?z ?_; (case N => k_asm); (case m => k_mem); (case s => assumption); (case z => omega)); intro _ _))
local macro_rules | `(tactic| walk_at "subscriptTail") => `(tactic| (k_here; (with_reducible show wpAny _ _ (subscriptTail _ _ (Value.ref _) (Value.int _ _)) _ _ _); k_dflt (refine' item_listR ?l ?a ?f ?x ?_ ?s; (case l => kmk_list); (case x => assumption); (case a => omega); (case f => omega); (case s => with_unfolding_all rfl))))
local macro_rules | `(tactic| walk_at "setItem ref int") => `(tactic| (k_here; (with_reducible show wpAny _ _ (setItem (Value.ref _) (Value.int _ _) (Value.str _ _)) _ _ _); k_dflt (refine' ls_set ?F ?N ?U ?a ?b ?z ?_; (case F => k_asm); (case N => k_asm); (case U => k_upd); (case a => omega); (case b => omega); (case z => omega)); intro h' F' N'))
local macro_rules | `(tactic| walk_at "truthy ref") => `(tactic| (k_here; (with_reducible show wpAny _ _ (truthy (Value.ref _)) _ _ _); k_dflt (refine' ls_truthy ?N ?m ?z ?b ?_; (case N => k_asm); (case m => k_mem); (case b => assumption); (case z => omega)); intro _))
local macro_rules | `(tactic| walk_at "subscriptTail") => `(tactic| (k_here; (with_reducible show wpAny _ _ (subscriptTail _ _ (Value.ref _) (Value.int (-1) _)) _ _ _); k_dflt (refine' ls_last ?N ?m ?e ?_ ?s; (case N => k_asm); (case m => k_mem); (case e => exact rfl); (case s => with_unfolding_all rfl))))
local macro_rules | `(tactic| walk_at "call builtin:list.pop") => `(tactic| (k_here; k_dflt (first
  | ((with_reducible show wpAny _ _ (call (Value.builtin _) [Value.ref _]) _ _ _); refine' ls_pop ?F ?N ?e ?U ?z ?_; (case F => k_asm); (case N => k_asm); (case e => exact rfl); (case U => k_upd); (case z => omega))
  | ((with_reducible show wpAny _ _ (call (Value.builtin _) [Value.ref _, Value.int _ _]) _ _ _); refine' ls_pop0 ?F ?N ?e ?U ?z ?_; (case F => k_asm); (case N => k_asm); (case e => exact rfl); (case U => k_upd); (case z => omega))); intro h' F' N'))
local macro_rules | `(tactic| walk_at "call builtin:str.join") => `(tactic| (k_here; (with_reducible show wpAny _ _ (call (Value.builtin "str.join") [Value.str _ _, Value.ref _]) _ _ _); k_dflt (refine' join_listW ?l ?i ?p ?w ?_; (case l => kmk_list); (case i => assumption); (case p => decide); (case w => assumption)); intro _ _))
/-- what is left of a row behind its blanks -/
def cont (y : Str) : Nat := (Txt.lstripChars y (Str.ofString " ")).length
/-- the margin, one row more -/
def margF (k : Int) (y : Str) : Int := if cont y = 0 then k else min k ((y.length : Int) - (cont y : Int))
def mC (x : Str) (t : Tok) (a : Addr) (o1 o2 o3 : Option Value) (mg : Int) (u : Tok) : Str → Option Value :=
  up (upo (upo (upo (up (mp [(Str.ofString "doc", .str x t)]) (Str.ofString "lines") (.ref a)) (Str.ofString "line") o1) (Str.ofString "content") o2) (Str.ofString "indent") o3) (Str.ofString "margin") (.int mg u)
theorem mC_start {x : Str} {t : Tok} {a : Addr} {mg : Int} {u : Tok} : up (up (mp [(Str.ofString "doc", .str x t)]) (Str.ofString "lines") (.ref a)) (Str.ofString "margin") (.int mg u) = mC x t a none none none mg u := by
  unfold mC
  rw [upo_none rfl, upo_none rfl, upo_none rfl]
theorem mC_a {x : Str} {t : Tok} {a : Addr} {o1 o2 o3 : Option Value} {mg : Int} {u : Tok} {v1 v2 : Value} : up (up (mC x t a o1 o2 o3 mg u) (Str.ofString "line") v1) (Str.ofString "content") v2 = mC x t a (some v1) (some v2) o3 mg u := by
  funext y
  by_cases e1 : y = Str.ofString "line"
  · subst e1; rfl
  by_cases e2 : y = Str.ofString "content"
  · subst e2; rfl
  simp only [mC, up, upo, e1, e2, if_false]
theorem mC_b {x : Str} {t : Tok} {a : Addr} {o1 o2 o3 : Option Value} {mg mg' : Int} {u u' : Tok} {v1 v2 v3 : Value} : up (up (up (up (mC x t a o1 o2 o3 mg u) (Str.ofString "line") v1) (Str.ofString "content") v2) (Str.ofString "indent") v3) (Str.ofString "margin") (.int mg' u') = mC x t a (some v1) (some v2) (some v3) mg' u' := by
  rw [mC_a]
  funext y
  by_cases e1 : y = Str.ofString "indent"
  · subst e1; rfl
  by_cases e2 : y = Str.ofString "margin"
  · subst e2; rfl
  simp only [mC, up, upo, e1, e2, if_false]
theorem fold_step {ys : List Str} {i : Nat} {y : Str} {k : Int} (h : ys[i]? = some y) : (ys.take (i + 1)).foldl margF k = margF ((ys.take i).foldl margF k) y := by
  rw [List.take_add_one, h]; simp
def cutF (k : Int) (y : Str) : Str := Txt.slice y (some k) none
/-- no sign -/
def emp (y : Str) : Bool := y.length == 0
/-- the empty rows behind, off -/
def rdrop (l : List Str) : List Str := (l.reverse.dropWhile emp).reverse
theorem rdrop_nil : rdrop [] = [] := rfl
theorem rdrop_emp {p : List Str} {y : Str} (h : y.length = 0) : rdrop (p ++ [y]) = rdrop p := by
  simp [rdrop, emp, h]
theorem rdrop_full {p : List Str} {y : Str} (h : y.length ≠ 0) : rdrop (p ++ [y]) = p ++ [y] := by
  simp [rdrop, emp, h]
theorem rdrop_len (p : List Str) : (rdrop p).length ≤ p.length := by
  unfold rdrop; rw [List.length_reverse]; have := (List.dropWhile_sublist emp (l := p.reverse)).length_le; simpa using this
theorem rdrop_mem {p : List Str} {y : Str} (h : y ∈ rdrop p) : y ∈ p := by
  unfold rdrop at h; rw [List.mem_reverse] at h; have := (List.dropWhile_sublist emp).subset h; simpa using this
theorem strs_snoc_inv {vs : List Value} {ys : List Str} (h : StrsAre vs ys) : (vs = [] ∧ ys = []) ∨ ∃ vi yi y t, vs = vi ++ [Value.str y t] ∧ ys = yi ++ [y] ∧ StrsAre vi yi := by
  induction h with
  | nil => exact .inl ⟨rfl, rfl⟩
  | cons y t h ih =>
    refine .inr ?_
    rcases ih with ⟨rfl, rfl⟩ | ⟨vi, yi, y', t', rfl, rfl, hh⟩
    · exact ⟨[], [], y, t, rfl, rfl, .nil⟩
    · exact ⟨_ :: vi, _ :: yi, y', t', rfl, rfl, .cons _ _ hh⟩
/-- what cleandoc makes of the rows -/
def cleanL (y0 : Str) (yr : List Str) : List Str :=
  (rdrop (Txt.lstripChars y0 (Str.ofString " ") :: (if yr.foldl margF 9223372036854775807 < 9223372036854775807 then yr.map (cutF (yr.foldl margF 9223372036854775807)) else yr))).dropWhile emp
def cleanS : List Str → List Str
  | [] => []
  | y0 :: yr => cleanL y0 yr
theorem weigh {ys : List Str} (h : ∀ y ∈ ys, y.length ≤ 1000) : (ys.map (·.length)).sum ≤ ys.length * 1000 := by
  induction ys with
  | nil => simp
  | cons y r ih =>
    have h1 := h y (.head _)
    have h2 := ih (fun z hz => h z (.tail _ hz))
    simp only [List.map_cons, List.sum_cons, List.length_cons]
    omega
theorem margF_nonneg {k : Int} (y : Str) (h : 0 ≤ k) : 0 ≤ margF k y := by
  have := len_lstripChars y (Str.ofString " ")
  unfold margF cont; split <;> omega
theorem fold_nonneg (ys : List Str) {k : Int} (h : 0 ≤ k) : 0 ≤ ys.foldl margF k := by
  induction ys generalizing k with
  | nil => exact h
  | cons y r ih => exact ih (margF_nonneg y h)
theorem clean_call {w : World} {mean : ExcName → Option Value} {mg mb : Str → Option Value} {A : Around} {s : Shared} {x : Str} {t : Tok} {R : Result → Shared → Prop}
   (hr : Rdy w mean mg mb s.heap) (hA : A.handled = none) (hdp : A.depth + 10 < recursionLimit) (hun : A.units + 50 < cLine) (hx : x.length ≤ 100000) (hn : (Txt.split (exT x) (Str.ofString "\n")).length ≤ 1000) (hb : ∀ y ∈ Txt.split (exT x) (Str.ofString "\n"), y.length ≤ 1000) (hne : Txt.split (exT x) (Str.ofString "\n") ≠ [])
   (hR : ∀ h' tk u, Keep s.heap h' → R (.ok (.ret (.str (Txt.join (Str.ofString "\n") (cleanS (Txt.split (exT x) (Str.ofString "\n")))) u))) { s with heap := h', toks := tk }) :
   codeAny (model PySem.Challenge.rw_lg0024_01.row.prog w) A (.call (.ref 28) ⟨[.str x t], []⟩) R s := by
  have KX := hr.k
  have T := hr.t
  revert KX; k_fill; intro KX
  refine enter_plain [(Str.ofString "doc", .str x t)] (by omega) (hr.k 28 _ (by with_unfolding_all rfl)) (by with_unfolding_all rfl) hr.t.nolimit (by exact codeRec_of hr.k (by k_is)) rfl (locs rfl) ?_
  intro L h₁ tk hL F
  have N := News.nil (h₀ := s.heap) (h := h₁) (L := L)
  refine cut_cons (fun s' => ∃ h tk a vs, s' = { s with heap := h, toks := tk } ∧ Fr s.heap L h (up (mp [(Str.ofString "doc", .str x t)]) (Str.ofString "lines") (.ref a)) ∧ News s.heap L h [(a, listOf vs.toArray 0)] ∧ StrsAre vs (Txt.split (exT x) (Str.ofString "\n"))) ?_ ?_
  · walk_at "go"
    (show Stop _)
    rename Fr _ _ _ _ => F2
    rename (_ = Txt.split _ _) => hl
    rename StrsAre _ _ => hS
    rename News _ _ _ _ => N2
    rw [hl] at hS
    exact ⟨_, _, _, _, rfl, F2, N2, hS⟩
  clear F N
  rintro _ ⟨h, tk, a, vs, rfl, F, N, hS⟩
  revert hn hb hne hS hR
  generalize Txt.split (exT x) (Str.ofString "\n") = ys
  intro hn hb hne hR hS
  have hvl : vs.length = ys.length := hS.length
  refine cut_cons (fun s' => ∃ h tk u, s' = { s with heap := h, toks := tk } ∧ Fr s.heap L h (mC x t a none none none 9223372036854775807 u) ∧ News s.heap L h [(a, listOf vs.toArray 0)]) ?_ ?_
  · walk_at "go"
    (show Stop _)
    rename Fr _ _ _ _ => F2
    rename News _ _ _ _ => N2
    exact ⟨_, _, _, rfl, frMap mC_start F2, N2⟩
  clear F N
  rintro _ ⟨h, tk, u, rfl, F, N⟩
  refine wpAny_execs_cons ?_
  have hz : vs.toArray.size ≤ sizeLine := by simp; unfold sizeLine; omega
  refine wpAny_For (wp_cut (fun v s' => ∃ b h tk, v = .ref b ∧ s' = { s with heap := h, toks := tk } ∧ Fr s.heap L h (mC x t a none none none 9223372036854775807 u) ∧ News s.heap L h [(b, listOf (vs.drop 1).toArray 0), (a, listOf vs.toArray 0)]) ?_ ?_) (by intro _; rfl)
  · walk_at "go"
    rename Fr _ _ _ _ => F2
    rename News _ _ _ _ => N2
    (show Stop _)
    rw [ls_pick_from _ _ (by decide)] at N2
    exact ⟨_, _, _, rfl, rfl, F2, N2⟩
  clear F N
  rintro _ _ ⟨b, h, tk, rfl, rfl, F, N⟩
  refine for_list (h₀ := s.heap) (L := L) (by exact hA) (items := (vs.drop 1).toArray) (fun i m' news' => news' = [(b, listOf (vs.drop 1).toArray 0), (a, listOf vs.toArray 0)] ∧ ∃ o1 o2 o3 u, m' = mC x t a o1 o2 o3 (((ys.drop 1).take i).foldl margF 9223372036854775807) u) ?_ ?_ ?_ ?_ F N ⟨rfl, none, none, none, u, rfl⟩
  · rintro i h m' news' ⟨rfl, -⟩ F N
    exact News.isList N (.head _)
  · rintro i m' news' ⟨rfl, -⟩ p hp
    simp at hp
    rcases hp with rfl | rfl <;> exact .inl (list_cls (by decide))
  · clear F N
    rintro I i h tk m' news' o v hi ⟨rfl, o1, o2, o3, u, rfl⟩ hv ho F N
    have hS' := hS.drop' 1
    obtain ⟨y, ty, rfl, hy⟩ := StrsAre.item hS' i v (by simpa using hv)
    have hyl : y.length ≤ 1000 := hb y (List.mem_of_mem_drop (List.mem_of_getElem? hy))
    refine wpAny_pure ?_
    refine wpAny_assign_Name ?_
    walk_at "go"
    · (show Stop _)
      rename Fr _ _ _ _ => F2
      rename News _ _ _ _ => N2
      rename (_ ≠ (0 : Int)) => h0
      have e : margF ((List.take i (List.drop 1 ys)).foldl margF 9223372036854775807) y = (if (y.length : Int) - ((Txt.lstripChars y (Str.ofString " ")).length : Int) < (List.take i (List.drop 1 ys)).foldl margF 9223372036854775807 then (y.length : Int) - ((Txt.lstripChars y (Str.ofString " ")).length : Int) else (List.take i (List.drop 1 ys)).foldl margF 9223372036854775807) := by
        unfold margF cont; rw [if_neg (by omega)]; split <;> omega
      exact ⟨_, _, _, _, rfl, F2, N2, rfl, _, _, _, _, by rw [fold_step hy, e]; exact mC_b⟩
    · (show Stop _)
      rename Fr _ _ _ _ => F2
      rename News _ _ _ _ => N2
      rename (_ = (0 : Int)) => h0
      have e : margF ((List.take i (List.drop 1 ys)).foldl margF 9223372036854775807) y = (List.take i (List.drop 1 ys)).foldl margF 9223372036854775807 := by
        unfold margF; rw [if_pos (by unfold cont; omega)]
      exact ⟨_, _, _, _, rfl, F2, N2, rfl, _, _, _, _, by rw [fold_step hy, e]; exact mC_a⟩
  clear F N
  rintro h tk m' news' ⟨rfl, o1, o2, o3, u, rfl⟩ F N
  replace N : News s.heap L h [(a, listOf vs.toArray 0)] := fun p hp => N p (.tail _ hp)
  have e9 : List.take (List.drop 1 vs).toArray.size (List.drop 1 ys) = List.drop 1 ys := by
    apply List.take_of_length_le; simp; omega
  rw [e9] at F
  obtain ⟨y0, yr, rfl⟩ : ∃ y0 yr, ys = y0 :: yr := by
    cases ys with
    | nil => exact absurd rfl hne
    | cons a b => exact ⟨a, b, rfl⟩
  obtain ⟨t0, vr, rfl, hSr⟩ := StrsAre.cons_inv hS
  simp only [List.drop_succ_cons, List.drop_zero] at F
  generalize hmg : yr.foldl margF 9223372036854775807 = mgn at F
  have hy0 : y0.length ≤ 1000 := hb y0 (.head _)
  refine cut_cons (fun s' => ∃ h tk t0, s' = { s with heap := h, toks := tk } ∧ Fr s.heap L h (mC x t a o1 o2 o3 mgn u) ∧ News s.heap L h [(a, listOf (Value.str (Txt.lstripChars y0 (Str.ofString " ")) t0 :: vr).toArray 0)]) ?_ ?_
  · walk_at "go"
    (show Stop _)
    rename News _ _ _ _ => N2
    rename Fr _ _ _ _ => F2
    exact ⟨_, _, _, rfl, F2, N2⟩
  clear F N
  rintro _ ⟨h, tk, t0, rfl, F, N⟩
  have hz0 : (Txt.lstripChars y0 (Str.ofString " ")).length ≤ 1000 := by have := len_lstripChars y0 (Str.ofString " "); omega
  revert hz0 N
  generalize hz9 : Txt.lstripChars y0 (Str.ofString " ") = z0
  intro N hz0
  have hm0 : 0 ≤ mgn := hmg ▸ fold_nonneg yr (by decide)
  rw [show mC x t a o1 o2 o3 mgn u = upo (mC x t a o1 o2 o3 mgn u) (Str.ofString "i") none from (upo_none rfl).symm] at F
  refine cut_cons (fun s' => ∃ h tk vr oi, s' = { s with heap := h, toks := tk } ∧ Fr s.heap L h (upo (mC x t a o1 o2 o3 mgn u) (Str.ofString "i") oi) ∧ News s.heap L h [(a, listOf (Value.str z0 t0 :: vr).toArray 0)] ∧ StrsAre vr (if mgn < 9223372036854775807 then yr.map (cutF mgn) else yr)) ?_ ?_
  · refine if_cut (fun b s' => b = decide (mgn < 9223372036854775807) ∧ ∃ tk, s' = { s with heap := h, toks := tk }) ?_ ?_ ?_
    · walk_at "go"
      exact ⟨rfl, _, rfl⟩
    · rintro _ ⟨hlt, tk, rfl⟩
      have hlt : mgn < 9223372036854775807 := by simpa using hlt.symm
      rw [if_pos hlt]
      refine wpAny_execs_cons ?_
      refine wpAny_For (wp_cut (fun v s' => ∃ r h tk t1 t2 t3, v = .ref r ∧ s' = { s with heap := h, toks := tk } ∧ Fr s.heap L h (upo (mC x t a o1 o2 o3 mgn u) (Str.ofString "i") none) ∧ News s.heap L h [(a, listOf (Value.str z0 t0 :: vr).toArray 0)] ∧ IsRange h r 1 ((vr.length + 1 : Nat) : Int) 1 t1 t2 t3) ?_ ?_) (by intro _; rfl)
      · have hc : (Value.str z0 t0 :: vr).toArray.size = vr.length + 1 := by simp
        have hc2 : vr.length + 1 ≤ 1000000 := by simp at hvl; simp at hn; omega
        walk_at "go"
        (show Stop _)
        rename News _ _ _ _ => N2
        rename Fr _ _ _ _ => F2
        exact ⟨_, _, _, _, _, _, rfl, rfl, F2, N2, by assumption⟩
      clear F N
      rintro _ _ ⟨r, h, tk, t1, t2, t3, rfl, rfl, F, N, hr9⟩
      refine for_range (h₀ := s.heap) (L := L) (by exact hA) hr9 (by decide) (by decide) (by omega) (by simp at hvl; simp at hn; simp; omega) (fun i m' news' => ∃ vr, news' = [(a, listOf (Value.str z0 t0 :: vr).toArray 0)] ∧ StrsAre vr ((yr.take i).map (cutF mgn) ++ yr.drop i) ∧ ∃ oi, m' = upo (mC x t a o1 o2 o3 mgn u) (Str.ofString "i") oi) ?_ ?_ ?_ F N ⟨vr, rfl, by simpa using hSr, none, rfl⟩
      · rintro i m' news' ⟨vr, rfl, -, -⟩ p hp
        simp at hp; subst hp; exact .inl (list_cls (by decide))
      · clear F N
        rintro I i h tk m' news' o t4 hi ⟨vr, rfl, hSr, oi, rfl⟩ ho F N
        have hvl2 : vr.length = yr.length := by have := hSr.length; simp at this; omega
        have hi2 : i < yr.length := by simp at hi hvl; omega
        obtain ⟨y, hy⟩ : ∃ y, yr[i]? = some y := ⟨_, List.getElem?_eq_getElem hi2⟩
        have hyl : y.length ≤ 1000 := hb y (.tail _ (List.mem_of_getElem? hy))
        have hy2 : ((yr.take i).map (cutF mgn) ++ yr.drop i)[i]? = some y := by
          rw [List.getElem?_append_right (by simp; omega)]; simp; rw [Nat.min_eq_left (by omega)]; simpa using hy
        obtain ⟨ty, hty⟩ := hSr.at hy2
        have hix : (Value.str z0 t0 :: vr).toArray[((1 : Int) + (i : Nat)).toNat]? = some (.str y ty) := by
          rw [show ((1 : Int) + (i : Nat)).toNat = i + 1 from by omega]; simpa using hty
        have hib : (1 : Int) + (i : Nat) < ((Value.str z0 t0 :: vr).length : Int) := by simp; omega
        have hlz : (Value.str z0 t0 :: vr).length ≤ 1000000 := by simp at hn; simp; omega
        obtain rfl := ho
        have hIa : @Ne Nat I a := fun e => news_ne N (fun p hp => by simp at hp; subst hp; exact list_cls (by decide)) _ (.head _) e.symm
        refine wpAny_pure ?_
        refine wpAny_assign_Name ?_
        walk_at "go"
        (show Stop _)
        rename Fr _ _ _ _ => F2
        rename News _ _ _ _ => N2
        have e2 : ∀ t', StrsAre (vr.set i (.str (Txt.slice y (some mgn) none) t')) ((yr.take (i + 1)).map (cutF mgn) ++ yr.drop (i + 1)) := by
          intro t'
          have e1 := strs_set (y := Txt.slice y (some mgn) none) (t := t') i hSr
          rw [show ((yr.take i).map (cutF mgn) ++ yr.drop i).set i (Txt.slice y (some mgn) none) = (yr.take (i + 1)).map (cutF mgn) ++ yr.drop (i + 1) from ?_] at e1
          · exact e1
          · have e3 : (List.map (cutF mgn) (List.take i yr)).length = i := by simp; omega
            rw [List.set_append_right _ _ (by omega), e3, List.take_add_one, hy, List.drop_eq_getElem_cons hi2]
            simp only [cutF, Nat.sub_self, List.set_cons_zero, Option.toList_some, List.map_append, List.map_cons, List.map_nil, List.append_assoc, List.cons_append, List.nil_append]
        rw [show ((1 : Int) + (i : Nat)).toNat = i + 1 from by omega] at N2
        exact ⟨_, _, _, _, rfl, F2, N2, _, rfl, e2 _, _, up_upo⟩
      · clear F N
        rintro h tk m' news' ⟨vr', rfl, hSr', oi, rfl⟩ F N
        walk_at "go"
        (show Stop _)
        refine ⟨_, _, _, _, rfl, F, N, ?_⟩
        have e1 : (((vr.length + 1 : Nat) : Int) - 1).toNat = yr.length := by simp at hvl; omega
        rw [e1] at hSr'
        simpa using hSr'
    · rintro _ ⟨hlt, tk, rfl⟩
      have hlt : ¬ mgn < 9223372036854775807 := by simpa using hlt.symm
      rw [if_neg hlt]
      walk_at "go"
      (show Stop _)
      exact ⟨_, _, _, _, rfl, F, N, hSr⟩
  clear F N
  rintro _ ⟨h, tk, vr', oi, rfl, F, N, hSr'⟩
  have hS9 : StrsAre (Value.str z0 t0 :: vr') (z0 :: (if mgn < 9223372036854775807 then yr.map (cutF mgn) else yr)) := .cons _ _ hSr'
  have hl9 : (z0 :: (if mgn < 9223372036854775807 then yr.map (cutF mgn) else yr)).length ≤ 1000 := by
    split <;> simp at hn ⊢ <;> omega
  have hb9 : ∀ y ∈ (z0 :: (if mgn < 9223372036854775807 then yr.map (cutF mgn) else yr)), y.length ≤ 1000 := by
    intro y hy
    rcases List.mem_cons.1 hy with rfl | hy
    · exact hz0
    · split at hy
      · obtain ⟨z, hz, rfl⟩ := List.mem_map.1 hy
        have h1 := hb z (.tail _ hz)
        have h2 := Txt.slice_le z (some mgn) none
        unfold cutF; omega
      · exact hb y (.tail _ hy)
  have hR9 : ∀ h' tk u, Keep s.heap h' → R (.ok (.ret (.str (Txt.join (Str.ofString "\n") ((rdrop (z0 :: (if mgn < 9223372036854775807 then yr.map (cutF mgn) else yr))).dropWhile emp)) u))) { s with heap := h', toks := tk } := by
    subst hz9
    subst hmg
    exact hR
  clear hR
  revert hS9 hl9 hb9 N hR9
  generalize Value.str z0 t0 :: vr' = vs
  generalize (z0 :: (if mgn < 9223372036854775807 then yr.map (cutF mgn) else yr)) = ys
  intro N hS hl hb hR
  clear hSr hSr'
  refine cut_cons (fun s' => ∃ h tk vs n, s' = { s with heap := h, toks := tk } ∧ Fr s.heap L h (upo (mC x t a o1 o2 o3 mgn u) (Str.ofString "i") oi) ∧ News s.heap L h [(a, listOf vs.toArray n)] ∧ StrsAre vs (rdrop ys)) ?_ ?_
  · refine while_inv (fun k s' => ∃ h tk vs' ys' n, s' = { s with heap := h, toks := tk } ∧ Fr s.heap L h (upo (mC x t a o1 o2 o3 mgn u) (Str.ofString "i") oi) ∧ News s.heap L h [(a, listOf vs'.toArray n)] ∧ StrsAre vs' ys' ∧ k = vs'.length ∧ rdrop ys' = rdrop ys ∧ vs'.length ≤ 1000 ∧ ∀ y ∈ ys', y.length ≤ 1000) ?_ vs.length ⟨h, tk, vs, ys, 0, rfl, F, N, hS, rfl, rfl, by rw [hS.length]; exact hl, hb⟩
    clear F N
    rintro k _ ⟨h, tk, vs', ys', n, rfl, F, N, hS', rfl, he, hl', hb'⟩
    rcases strs_snoc_inv hS' with ⟨rfl, rfl⟩ | ⟨vi, yi, y, ty, rfl, rfl, hSi⟩
    · have hbb : (!([] : List Value).isEmpty) = false := rfl
      walk_at "go"
      (show Stop _)
      exact ⟨_, _, _, _, rfl, F, N, he ▸ .nil⟩
    · have hbb : (!(vi ++ [Value.str y ty]).isEmpty) = true := by simp
      have hyl : y.length ≤ 1000 := hb' y (by simp)
      walk_at "go"
      · (show Stop _)
        rename (_ ≠ (0 : Int)) => h0
        rw [rdrop_full (by omega)] at he
        exact ⟨_, _, _, _, rfl, F, N, he ▸ hS'⟩
      · (show Stop _)
        rename Fr _ _ _ _ => F2
        rename News _ _ _ _ => N2
        rename (_ = (0 : Int)) => h0
        rw [rdrop_emp (by omega)] at he
        exact ⟨rfl, vi.length, by simp, _, _, _, _, _, rfl, F2, N2, hSi, rfl, he, by simp at hl'; omega, fun z hz => hb' z (by simp [hz])⟩
  clear F N
  rintro _ ⟨h, tk, vs2, n2, rfl, F, N, hS2⟩
  have hl2 : (rdrop ys).length ≤ 1000 := Nat.le_trans (rdrop_len ys) hl
  have hb2 : ∀ y ∈ rdrop ys, y.length ≤ 1000 := fun y hy => hb y (rdrop_mem hy)
  revert hS2 hl2 hb2 hR
  generalize rdrop ys = zs
  intro hR hS2 hl2 hb2
  refine cut_cons (fun s' => ∃ h tk vs n, s' = { s with heap := h, toks := tk } ∧ Fr s.heap L h (upo (mC x t a o1 o2 o3 mgn u) (Str.ofString "i") oi) ∧ News s.heap L h [(a, listOf vs.toArray n)] ∧ StrsAre vs (zs.dropWhile emp)) ?_ ?_
  · refine while_inv (fun k s' => ∃ h tk vs' ys' n, s' = { s with heap := h, toks := tk } ∧ Fr s.heap L h (upo (mC x t a o1 o2 o3 mgn u) (Str.ofString "i") oi) ∧ News s.heap L h [(a, listOf vs'.toArray n)] ∧ StrsAre vs' ys' ∧ k = vs'.length ∧ ys'.dropWhile emp = zs.dropWhile emp ∧ vs'.length ≤ 1000 ∧ ∀ y ∈ ys', y.length ≤ 1000) ?_ vs2.length ⟨h, tk, vs2, zs, n2, rfl, F, N, hS2, rfl, rfl, by rw [hS2.length]; exact hl2, hb2⟩
    clear F N
    rintro k _ ⟨h, tk, vs', ys', n, rfl, F, N, hS', rfl, he, hl', hb'⟩
    cases hS' with
    | nil =>
      have hbb : (!([] : List Value).isEmpty) = false := rfl
      walk_at "go"
      (show Stop _)
      exact ⟨_, _, _, _, rfl, F, N, he ▸ .nil⟩
    | cons y ty hSi =>
      rename_i vi yi
      have hbb : (!(Value.str y ty :: vi).isEmpty) = true := rfl
      have hyl : y.length ≤ 1000 := hb' y (.head _)
      walk_at "go"
      · (show Stop _)
        rename (_ ≠ (0 : Int)) => h0
        have e5 : emp y = false := by simp [emp]; omega
        rw [List.dropWhile_cons_of_neg (by simp [e5])] at he
        exact ⟨_, _, _, _, rfl, F, N, he ▸ .cons _ _ hSi⟩
      · (show Stop _)
        rename Fr _ _ _ _ => F2
        rename News _ _ _ _ => N2
        rename (_ = (0 : Int)) => h0
        have e5 : emp y = true := by simp [emp]; omega
        rw [List.dropWhile_cons_of_pos e5] at he
        exact ⟨rfl, vi.length, by simp, _, _, _, _, _, rfl, F2, N2, hSi, rfl, he, by simp at hl'; omega, fun z hz => hb' z (.tail _ hz)⟩
  clear F N
  rintro _ ⟨h, tk, vs3, n3, rfl, F, N, hS3⟩
  have hl3 : (zs.dropWhile emp).length ≤ 1000 := Nat.le_trans (List.dropWhile_sublist emp).length_le hl2
  have hb3 : ∀ y ∈ zs.dropWhile emp, y.length ≤ 1000 := fun y hy => hb2 y (List.dropWhile_sublist emp |>.subset hy)
  revert hS3 hl3 hb3 hR
  generalize zs.dropWhile emp = us
  intro hR hS3 hl3 hb3
  have hw3 : (us.map (·.length)).sum + us.length ≤ 1048576 := by have := weigh hb3; omega
  have hS4 : StrsAre vs3.toArray.toList us := by simpa using hS3
  walk_at "go"
  (show Stop _)
  exact hR _ _ _ F.keep
end Mine
end
-- part: Rows
section
open PySem PySem.W PyProof.Rows
set_option maxRecDepth 100000
set_option maxHeartbeats 2000000
set_option linter.unusedVariables false
namespace Mine
/-- a row: its column, its title, its bits -/
abbrev Row := Int × Str × Int
abbrev tupO (r : Row) (t1 t2 t3 : Tok) : Obj := { cls := .type "tuple", data := .seq [Value.int r.1 t1, Value.str r.2.1 t2, Value.int r.2.2 t3].toArray }
/-- the list's values are the rows' tuples, those in the ledger -/
inductive RowsIn (TT : List (Addr × Obj)) : List Value → List Row → Prop
  | nil : RowsIn TT [] []
  | cons {b : Addr} {r : Row} {t1 t2 t3 : Tok} {ws rs} : (b, tupO r t1 t2 t3) ∈ TT → RowsIn TT ws rs → RowsIn TT (.ref b :: ws) (r :: rs)
theorem RowsIn.mono {T T' : List (Addr × Obj)} (h : ∀ p ∈ T, p ∈ T') : ∀ {ws rs}, RowsIn T ws rs → RowsIn T' ws rs
  | _, _, .nil => .nil
  | _, _, .cons hm r => .cons (h _ hm) (r.mono h)
theorem RowsIn.app {T : List (Addr × Obj)} : ∀ {ws rs ws' rs'}, RowsIn T ws rs → RowsIn T ws' rs' → RowsIn T (ws ++ ws') (rs ++ rs')
  | _, _, _, _, .nil, q => q
  | _, _, _, _, .cons hm r, q => .cons hm (r.app q)
theorem RowsIn.length {T : List (Addr × Obj)} : ∀ {ws rs}, RowsIn T ws rs → ws.length = rs.length
  | _, _, .nil => rfl
  | _, _, .cons hm r => by simp [r.length]
theorem RowsIn.take {T : List (Addr × Obj)} : ∀ {ws rs} (k : Nat), RowsIn T ws rs → RowsIn T (ws.take k) (rs.take k)
  | _, _, _, .nil => by simp; exact .nil
  | _, _, 0, .cons hm r => .nil
  | _, _, k + 1, .cons hm r => .cons hm (r.take k)
theorem RowsIn.drop {T : List (Addr × Obj)} : ∀ {ws rs} (k : Nat), RowsIn T ws rs → RowsIn T (ws.drop k) (rs.drop k)
  | _, _, _, .nil => by simp; exact .nil
  | _, _, 0, .cons hm r => .cons hm r
  | _, _, k + 1, .cons hm r => r.drop k
theorem RowsIn.snoc_inv {T : List (Addr × Obj)} {ws rs} (h : RowsIn T ws rs) : (ws = [] ∧ rs = []) ∨ ∃ wi ri b r t1 t2 t3, ws = wi ++ [.ref b] ∧ rs = ri ++ [r] ∧ RowsIn T wi ri ∧ (b, tupO r t1 t2 t3) ∈ T := by
  induction h with
  | nil => exact .inl ⟨rfl, rfl⟩
  | cons hm h ih =>
    refine .inr ?_
    rcases ih with ⟨rfl, rfl⟩ | ⟨wi, ri, b', r', t1', t2', t3', rfl, rfl, hh, hm'⟩
    · exact ⟨[], [], _, _, _, _, _, rfl, rfl, .nil, hm⟩
    · exact ⟨_ :: wi, _ :: ri, b', r', t1', t2', t3', rfl, rfl, .cons hm hh, hm'⟩
theorem RowsIn.at {T : List (Addr × Obj)} : ∀ {ws rs} (_ : RowsIn T ws rs) {i : Nat} {r : Row}, rs[i]? = some r → ∃ b t1 t2 t3, ws[i]? = some (.ref b) ∧ (b, tupO r t1 t2 t3) ∈ T
  | _, _, .cons (b := b) hm h, 0, r, e => by simp at e; subst e; exact ⟨b, _, _, _, rfl, hm⟩
  | _, _, .cons hm h, i + 1, r, e => by simp at e; simpa using h.at e
/-- all of them tuples -/
def AllTup (T : List (Addr × Obj)) : Prop := ∀ p ∈ T, p.2.cls = .type "tuple"
section
variable {prog : Program} {w : World} {A : Around} {E : Value → Shared → Prop} {s : Shared} {h₀ h : Heap} {L D : Addr} {m : Str → Option Value} {news : List (Addr × Obj)}
theorem allTup_ne {T : List (Addr × Obj)} {o : Obj} (N : News h₀ L h news) (hD : (D, o) ∈ news) (hT : ∀ p ∈ T, p ∈ news) (ht : AllTup T) (ho : o.cls ≠ .type "tuple") : ∀ p ∈ T, p.1 ≠ D := by
  intro p hp e
  have h1 := (N p (hT p hp)).1
  have h2 := (N _ hD).1
  simp only at h2
  rw [e, h2] at h1
  exact ho (by rw [Option.some.inj h1]; exact ht p hp)
/-- what a call has made, into the caller's ledger -/
theorem news_call {h' : Heap} {new : List (Addr × Obj)} (F : Fr h₀ L h m) (N : News h₀ L h news) (hk : Keep h h') (hn : ∀ p ∈ new, h'.get? p.1 = some p.2 ∧ h.get? p.1 = none) : News h₀ L h' (new ++ news) := by
  intro p hp
  rcases List.mem_append.1 hp with hp | hp
  · refine ⟨(hn p hp).1, ?_, ?_⟩
    · intro e
      obtain ⟨o, _, _, ho, _⟩ := F.ns
      have := (hn p hp).2
      rw [e, ho] at this; cases this
    · cases e : h₀.get? p.1 with
      | none => rfl
      | some o => have := F.keep _ _ e; rw [(hn p hp).2] at this; cases this
  · exact ⟨hk _ _ (N p hp).1, (N p hp).2⟩
/-- _law_title, called -/
theorem wp_title {mean : ExcName → Option Value} {mg mb : Str → Option Value} {q : Int} {t : Tok} {Q : Value → Shared → Prop}
    (hr : Rdy w mean mg mb h₀) (F : Fr h₀ L s.heap m) (N : News h₀ L s.heap news) (hA : A.handled = none) (hdp : A.depth + 10 < recursionLimit) (hun : A.units + 50 < cLine) (h0 : 0 ≤ q) (h1 : q < 100000000000000)
    (h : ∀ h' tk x u, IsTi x → x.length = 3 → Fr h₀ L h' m → News h₀ L h' news → Q (.str x u) { s with heap := h', toks := tk }) :
    wpAny (model PySem.Challenge.rw_lg0024_01.row.prog w) A (call (.ref 35) [.int q t]) Q E s := by
  refine wpAny_call (title_call (hr.keep F.keep) hA hdp hun h0 h1 fun h' tk x u hk hx => ?_)
  exact h h' tk x u hx (by obtain ⟨a, b, c, rfl, _⟩ := hx; rfl) (F.keeps hk) (N.keeps hk)
/-- a slice with a step, of ints -/
theorem ls_slice3 {value slice : PySem.Expr} {l : Addr} {vs : List Value} {ns : List Int} {vl vu vk : Value} {lo hi st : Option Int} {ops : List Value} {Q : Value → Shared → Prop}
    (F : Fr h₀ L s.heap m) (N : News h₀ L s.heap news) (hl : s.heap.IsList l vs.toArray) (pl : IsPart vl lo) (pu : IsPart vu hi) (pk : IsPart vk st) (h0 : st ≠ some 0) (hI : IntsAre vs ns) (hz : ns.length ≤ 1000000)
    (h : ∀ D ws ms h', Fr h₀ L h' m → News h₀ L h' ((D, listOf (List.toArray ws) 0) :: news) → (∀ p ∈ news, p.1 < D) → IntsAre ws ms → ms.length ≤ ns.length → Q (.ref D) { s with heap := h' })
    (hs : subscripted slice false (.ref l) (.ref s.heap.objs.size) = operate ops (getItem (.ref l) (.ref s.heap.objs.size)))
    (ht : ∀ r, letTemporaryGo value (.ref l) r = pure ()) :
    wpAny (model prog w) A (subscriptTail value slice (.ref l) (.ref s.heap.objs.size)) Q E { s with heap := s.heap.push { cls := .type "slice", data := .fields #[vl, vu, vk] } } := by
  refine slice_list3 F N hl pl pu pk h0 (fun h' F' N' => ?_) hs ht (by rw [List.size_toArray, hI.length]; unfold sizeLine; omega)
  have hall : ∀ v ∈ (slicePick vs.toArray lo hi st).toList, ∃ a t, v = Value.int a t := by
    intro v hv
    unfold slicePick at hv
    obtain ⟨i, _, e⟩ := List.mem_filterMap.1 (by simpa using hv)
    exact hI.allInts v (by simpa using List.mem_of_getElem? e)
  refine h _ (slicePick vs.toArray lo hi st).toList _ h' F' ?_ (fun p hp => Nat.lt_succ_of_lt (Heap.lt_size (N p hp).1)) (intsAre_ofList _ hall) ?_
  · rw [Array.toArray_toList]; exact N'
  · rw [← (intsAre_ofList _ hall).length, ← hI.length, Array.length_toList]
    have := slicePick_size_le vs.toArray lo hi st
    simpa using this
end
end Mine
end
-- part: Out
section
open PySem PySem.W PyProof.Rows
set_option maxRecDepth 100000
set_option maxHeartbeats 2000000
set_option linter.unusedVariables false
namespace Mine
local macro_rules | `(tactic| walk_at "go") => `(tactic| repeat' (first | (k_unfold; (try dsimp only)) | walk1 | (dsimp only; walk1) | (leave1; try dsimp only) | fail "no step"))
local macro_rules | `(tactic| walk_at "call ref") => `(tactic| (k_here; (with_reducible show wpAny _ _ (call (Value.ref _) [Value.int _ _]) _ _ _); k_dflt (refine' wp_title ?r ?F ?N ?h ?d ?u ?a ?b ?_; (case r => assumption); (case F => k_asm); (case N => k_asm); (case h => assumption); (case d => (simp only [depth_deeper]; omega)); (case u => (simp only [units_deeper]; omega)); (case a => omega); (case b => omega)); intro h' tk' x' u' hT' hl' F' N'))
local macro_rules | `(tactic| walk_at "call builtin:min") => `(tactic| ((with_reducible show wpAny _ _ (call (Value.builtin _) [Value.int _ _, Value.int _ _]) _ _ _); (with_reducible rename News _ _ _ _ => N'); (with_unfolding_all apply min_two_N); (case hh => with_unfolding_all assumption); (case N => exact N'); (case F => assumption); clear N'; intro _ _ _ _))
local macro_rules | `(tactic| walk_at "call builtin:sum") => `(tactic| (k_here; (with_reducible show wpAny _ _ (call (Value.builtin "sum") [Value.ref _]) _ _ _); (with_unfolding_all refine' sumK ?k0 ?k1 ?k2 ?k3 ?k4 ?_; (case k0 => with_unfolding_all assumption); (case k1 => k_asm); (case k2 => k_asm); (case k3 => is_list); (case k4 => assumption); k_whole); intro h' tk' t' F' N'))
local macro_rules | `(tactic| walk_at "subscriptTail Name Slice ref ref") => `(tactic| (k_here; (with_reducible show wpAny _ _ (subscriptTail _ (PySem.Expr.Slice _ _ (some _) _) (Value.ref _) (Value.ref _)) _ _ _); k_dflt (refine' ls_slice3 ?F ?N ?l ?p ?q ?k ?o ?i ?z ?_ ?s ?t; (case F => k_asm); (case N => k_asm); (case l => kmk_list); (case p => kmk_part); (case q => kmk_part); (case k => kmk_part); (case o => decide); (case i => assumption); (case z => omega); (case s => with_unfolding_all rfl); (case t => kmk_pure)); intro D' ws' ms' h' F' N' l1 hI' hL'))
local macro_rules | `(tactic| k_all) => `(tactic| with_reducible assumption)
local macro_rules | `(tactic| walk_at "call builtin:list.append") => `(tactic| (k_here; (with_reducible show wpAny _ _ (call (Value.builtin _) [Value.ref _, _]) _ _ _); k_dflt (refine' ls_append ?F ?N ?U ?z ?_; (case F => k_asm); (case N => k_asm); (case U => k_upd); (case z => omega)); intro h' F' N'))
local macro_rules | `(tactic| walk_at "subscriptTail") => `(tactic| (k_here; (with_reducible show wpAny _ _ (subscriptTail _ _ (Value.ref _) (Value.int (-1) _)) _ _ _); k_dflt (refine' ls_last ?N ?m ?e ?_ ?s; (case N => k_asm); (case m => k_mem); (case e => exact rfl); (case s => with_unfolding_all rfl))))
local macro_rules | `(tactic| walk_at "subscriptTail Name Slice ref ref") => `(tactic| (k_here; (with_reducible show wpAny _ _ (subscriptTail _ (PySem.Expr.Slice _ _ none _) (Value.ref _) (Value.ref _)) _ _ _); k_dflt (refine' kmk_slice ?F ?N ?l ?p ?q ?_ ?s ?t ?z; (case F => k_asm); (case N => k_asm); (case l => kmk_list); (case p => kmk_part); (case q => kmk_part); (case s => with_unfolding_all rfl); (case t => kmk_pure); (case z => assumption)); intro D' h' F' N' l1))
local macro_rules | `(tactic| walk_at "call builtin:len") => `(tactic| (k_here; (with_reducible show wpAny _ _ (call (Value.builtin "len") [Value.ref _]) _ _ _); k_dflt (refine' ls_len ?N ?m ?s ?z ?_; (case N => k_asm); (case m => k_mem); (case s => assumption); (case z => omega)); intro _ _))
local macro_rules | `(tactic| walk_at "call builtin:list.insert") => `(tactic| (k_here; (with_reducible show wpAny _ _ (call (Value.builtin _) [Value.ref _, Value.int _ _, _]) _ _ _); k_dflt (refine' ls_insert ?F ?N ?a ?b ?z ?U ?_; (case F => k_asm); (case N => k_asm); (case U => k_upd); (case a => omega); (case b => omega); (case z => omega)); intro h' F' N'))
local macro_rules | `(tactic| walk_at "call builtin:list.pop") => `(tactic| (k_here; k_dflt ((with_reducible show wpAny _ _ (call (Value.builtin _) [Value.ref _]) _ _ _); refine' ls_pop ?F ?N ?e ?U ?z ?_; (case F => k_asm); (case N => k_asm); (case e => exact rfl); (case U => k_upd); (case z => omega)); intro h' F' N'))
theorem ints_snoc_inv {vs : List Value} {ns : List Int} (h : IntsAre vs ns) (hne : ns ≠ []) : ∃ vi ni n t, vs = vi ++ [Value.int n t] ∧ ns = ni ++ [n] ∧ IntsAre vi ni := by
  induction h with
  | nil => exact absurd rfl hne
  | cons n t h ih =>
    rename_i vs ns
    by_cases e : ns = []
    · subst e; cases h; exact ⟨[], [], n, t, rfl, rfl, .nil⟩
    · obtain ⟨vi, ni, n', t', rfl, rfl, hh⟩ := ih e
      exact ⟨_ :: vi, _ :: ni, n', t', rfl, rfl, .cons _ _ hh⟩
theorem ints_snoc {vs : List Value} {ns : List Int} {n : Int} {t : Tok} (h : IntsAre vs ns) : IntsAre (vs ++ [Value.int n t]) (ns ++ [n]) := by
  induction h with
  | nil => exact .cons _ _ .nil
  | cons n t h ih => exact .cons _ _ ih
def mO (total : Int) (t : Tok) (sc ra ca : Addr) (o1 o2 o3 : Option Value) : Str → Option Value :=
  upo (upo (upo (up (up (mp [(Str.ofString "total", .int total t), (Str.ofString "script", .ref sc)]) (Str.ofString "rows") (.ref ra)) (Str.ofString "columns") (.ref ca)) (Str.ofString "k") o1) (Str.ofString "x") o2) (Str.ofString "q") o3
theorem mO_start {total : Int} {t : Tok} {sc ra ca : Addr} : up (up (mp [(Str.ofString "total", .int total t), (Str.ofString "script", .ref sc)]) (Str.ofString "rows") (.ref ra)) (Str.ofString "columns") (.ref ca) = mO total t sc ra ca none none none := by
  unfold mO
  rw [upo_none rfl, upo_none rfl, upo_none rfl]
theorem mO_k {total : Int} {t : Tok} {sc ra ca : Addr} {o1 o2 o3 : Option Value} {v : Value} : up (mO total t sc ra ca o1 o2 o3) (Str.ofString "k") v = mO total t sc ra ca (some v) o2 o3 := by
  funext y
  by_cases e : y = Str.ofString "k"
  · subst e; rfl
  simp only [mO, up, upo, e, if_false]
theorem mO_x {total : Int} {t : Tok} {sc ra ca : Addr} {o1 o2 o3 : Option Value} {v : Value} : up (mO total t sc ra ca o1 o2 o3) (Str.ofString "x") v = mO total t sc ra ca o1 (some v) o3 := by
  funext y
  by_cases e : y = Str.ofString "x"
  · subst e; rfl
  simp only [mO, up, upo, e, if_false]
theorem mO_q {total : Int} {t : Tok} {sc ra ca : Addr} {o1 o2 o3 : Option Value} {v : Value} : up (mO total t sc ra ca o1 o2 o3) (Str.ofString "q") v = mO total t sc ra ca o1 o2 (some v) := by
  funext y
  by_cases e : y = Str.ofString "q"
  · subst e; rfl
  simp only [mO, up, upo, e, if_false]
theorem mO_c {total : Int} {t : Tok} {sc ra ca ca' : Addr} {o1 o2 o3 : Option Value} : up (mO total t sc ra ca o1 o2 o3) (Str.ofString "columns") (.ref ca') = mO total t sc ra ca' o1 o2 o3 := by
  funext y
  by_cases e : y = Str.ofString "columns"
  · subst e; rfl
  simp only [mO, up, upo, e, if_false]
theorem news_rot {h₀ h : Heap} {L : Addr} {a b c d : Addr × Obj} {T : List (Addr × Obj)} (N : News h₀ L h (d :: a :: b :: c :: T)) : News h₀ L h (a :: b :: c :: d :: T) := by
  intro p hp
  refine N p ?_
  simp only [List.mem_cons] at hp ⊢
  rcases hp with h | h | h | h | h <;> simp [h]
theorem news_swap {h₀ h : Heap} {L : Addr} {a b c d : Addr × Obj} {T : List (Addr × Obj)} (N : News h₀ L h (d :: a :: b :: c :: T)) : News h₀ L h (a :: d :: c :: T) := by
  intro p hp
  refine N p ?_
  simp only [List.mem_cons] at hp ⊢
  rcases hp with h | h | h | h <;> simp [h]
theorem news_swap2 {h₀ h : Heap} {L : Addr} {a d : Addr × Obj} {T : List (Addr × Obj)} (N : News h₀ L h (d :: a :: T)) : News h₀ L h (a :: d :: T) := by
  intro p hp
  refine N p ?_
  simp only [List.mem_cons] at hp ⊢
  rcases hp with h | h | h <;> simp [h]
theorem fmodE (a : Int) : 0 ≤ a.fmod (10 ^ Int.toNat 12) ∧ a.fmod (10 ^ Int.toNat 12) < 1000000000000 := by
  have e : (10 : Int) ^ (Int.toNat 12) = 1000000000000 := by decide
  rw [e]; exact ⟨Int.fmod_nonneg_of_pos _ (by decide), Int.fmod_lt_of_pos _ (by decide)⟩
theorem fdiv4 {a : Int} (h0 : 0 ≤ a) (h1 : a < 1000000000000) : 0 ≤ a.fdiv 4 ∧ a.fdiv 4 < 1000000000000 := by
  rw [Int.fdiv_eq_ediv_of_nonneg _ (by decide)]; omega
/-- rows as an outline's -/
def GoodRow (r : Row) : Prop := (0 ≤ r.2.2 ∧ r.2.2 < 1000000000000) ∧ ((r.2.1 = Str.ofString "" ∧ r.1 = 0) ∨ (IsTi r.2.1 ∧ 0 ≤ r.1 ∧ r.1 ≤ 48))
def OutI (total : Int) (i : Nat) (rs : List Row) : Prop := ∃ x0 rest, rs = (0, x0, total) :: rest ∧ IsTi x0 ∧ (∀ r ∈ rest, GoodRow r) ∧ rest.length = i
def ColsI (i : Nat) (cs : List Value) (cols : List Int) : Prop := IntsAre cs cols ∧ (∀ c ∈ cols, 0 ≤ c ∧ c ≤ 3 * (i : Int)) ∧ cols ≠ [] ∧ cols.length ≤ i + 1
theorem ColsI.up {i : Nat} {cs : List Value} {cols : List Int} (h : ColsI i cs cols) : ColsI (i + 1) cs cols :=
  ⟨h.1, fun c hc => by have := h.2.1 c hc; omega, h.2.2.1, by have := h.2.2.2; omega⟩
theorem OutI.snoc {total : Int} {i : Nat} {rs : List Row} {r : Row} (h : OutI total i rs) (hr : GoodRow r) : OutI total (i + 1) (rs ++ [r]) := by
  obtain ⟨x0, rest, rfl, hx, hg, hl⟩ := h
  refine ⟨x0, rest ++ [r], rfl, hx, ?_, by simp [hl]⟩
  intro r' hr'
  rcases List.mem_append.1 hr' with h | h
  · exact hg r' h
  · simp at h; subst h; exact hr
theorem AllTup.cons {T : List (Addr × Obj)} {b : Addr} {o : Obj} (h : AllTup T) (ho : o.cls = .type "tuple") : AllTup ((b, o) :: T) := by
  intro p hp
  rcases List.mem_cons.1 hp with rfl | hp
  · exact ho
  · exact h p hp
theorem ColsI.snoc {i : Nat} {cs : List Value} {cols : List Int} {c : Int} {t : Tok} (h : ColsI i cs cols) (h0 : 0 ≤ c) (h1 : c ≤ 3 * ((i : Int) + 1)) : ColsI (i + 1) (cs ++ [Value.int c t]) (cols ++ [c]) := by
  refine ⟨ints_snoc h.1, ?_, by simp, by have := h.2.2.2; simp; omega⟩
  intro c' hc'
  rcases List.mem_append.1 hc' with h' | h'
  · have := h.2.1 c' h'; omega
  · simp at h'; subst h'; omega
theorem ColsI.take {i : Nat} {cs : List Value} {cols : List Int} {k : Nat} (h : ColsI i cs cols) (hk : 1 ≤ k) : ColsI i (cs.take k) (cols.take k) := by
  refine ⟨h.1.take _, fun c hc => h.2.1 c (List.mem_of_mem_take hc), ?_, by have := h.2.2.2; simp; omega⟩
  intro e
  rcases List.take_eq_nil_iff.1 e with e | e
  · omega
  · exact h.2.2.1 e
/-- rows of an outline, both ends as they must be -/
def OutR (total : Int) (rs : List Row) : Prop := ∃ x0 rest, rs = (0, x0, total) :: rest ∧ IsTi x0 ∧ (∀ r ∈ rest, GoodRow r) ∧ (∃ r ∈ rest, IsTi r.2.1 ∧ r.1 = 0) ∧ rest.length ≤ 17
theorem OutI.ins {total : Int} {i k : Nat} {rs : List Row} {x : Str} (h : OutI total i rs) (hx : IsTi x) (hi : i ≤ 16) (h0 : 0 ≤ total) (h1 : total < 1000000000) (hk : 1 ≤ k) : OutR total (rs.take k ++ (0, x, total) :: rs.drop k) := by
  obtain ⟨x0, rest, rfl, hx0, hg, hl⟩ := h
  obtain ⟨j, rfl⟩ : ∃ j, k = j + 1 := ⟨k - 1, by omega⟩
  refine ⟨x0, rest.take j ++ (0, x, total) :: rest.drop j, rfl, hx0, ?_, ⟨(0, x, total), by simp, hx, rfl⟩, by simp; omega⟩
  intro r hr
  rcases List.mem_append.1 hr with h' | h'
  · exact hg r (List.mem_of_mem_take h')
  · rcases List.mem_cons.1 h' with rfl | h'
    · exact ⟨⟨h0, by show total < _; omega⟩, .inr ⟨hx, by show (0 : Int) ≤ 0; decide, by show (0 : Int) ≤ 48; decide⟩⟩
    · exact hg r (List.mem_of_mem_drop h')
theorem IsTi.ne {x : Str} (h : IsTi x) : x ≠ Str.ofString "" := by
  obtain ⟨a, b, c, rfl, _⟩ := h
  intro e
  have h1 : (⟨#[a, b, c]⟩ : Str).length = 3 := rfl
  have h2 : (Str.ofString "").length = 0 := by decide
  rw [e, h2] at h1
  cases h1
theorem OutR.pop {total : Int} {rs : List Row} {r : Row} (h : OutR total (rs ++ [r])) (hr : r.2.1 = Str.ofString "") : OutR total rs := by
  obtain ⟨x0, rest, e, hx0, hg, ⟨r1, hr1, hr2, hr3⟩, hl⟩ := h
  cases rs with
  | nil =>
    simp at e
    obtain ⟨e1, e2⟩ := e
    subst e1
    exact absurd hr hx0.ne
  | cons a rs =>
    simp at e
    obtain ⟨rfl, rfl⟩ := e
    refine ⟨x0, rs, rfl, hx0, fun r' h' => hg r' (by simp [h']), ⟨r1, ?_, hr2, hr3⟩, by simp at hl; omega⟩
    rcases List.mem_append.1 hr1 with h' | h'
    · exact h'
    · simp at h'; subst h'; exact absurd hr hr2.ne
theorem out_call {w : World} {mean : ExcName → Option Value} {mg mb : Str → Option Value} {A : Around} {s : Shared} {sc : Addr} {vs : List Value} {ns : List Int} {total : Int} {t : Tok} {R : Result → Shared → Prop}
   (hr : Rdy w mean mg mb s.heap) (hA : A.handled = none) (hdp : A.depth + 20 < recursionLimit) (hun : A.units + 100 < cLine)
   (hsc : s.heap.IsList sc vs.toArray) (hi : IntsAre vs ns) (hns : ns.length ≤ 63) (ht0 : 0 ≤ total) (ht1 : total < 1000000000)
   (hR : ∀ h' tk ra ws nr TT rs, Keep s.heap h' → (∀ p ∈ (ra, listOf (List.toArray ws) nr) :: TT, h'.get? p.1 = some p.2 ∧ s.heap.get? p.1 = none) → RowsIn TT ws rs → AllTup TT → OutR total rs → (∃ ri r, rs = ri ++ [r] ∧ r.2.1 ≠ Str.ofString "") → R (.ok (.ret (.ref ra))) { s with heap := h', toks := tk }) :
   codeAny (model PySem.Challenge.rw_lg0024_01.row.prog w) A (.call (.ref 42) ⟨[.ref sc, .int total t], []⟩) R s := by
  have KX := hr.k
  have T := hr.t
  revert KX; k_fill; intro KX
  refine enter_plain [(Str.ofString "total", .int total t), (Str.ofString "script", .ref sc)] (by omega) (hr.k 42 _ (by with_unfolding_all rfl)) (by with_unfolding_all rfl) hr.t.nolimit (by exact codeRec_of hr.k (by k_is)) rfl (locs rfl) ?_
  intro L h₁ tk hL F
  have N := News.nil (h₀ := s.heap) (h := h₁) (L := L)
  have htd : total.fdiv 3 = total / 3 := Int.fdiv_eq_ediv_of_nonneg _ (by decide)
  refine cut_cons (fun s' => ∃ h tk ra b x t1 t2 t3, s' = { s with heap := h, toks := tk } ∧ Fr s.heap L h (up (mp [(Str.ofString "total", .int total t), (Str.ofString "script", .ref sc)]) (Str.ofString "rows") (.ref ra)) ∧ News s.heap L h [(ra, listOf [Value.ref b].toArray 0), (b, tupO (0, x, total) t1 t2 t3)] ∧ IsTi x) ?_ ?_
  · walk_at "go"
    (show Stop _)
    rename Fr _ _ _ _ => F2
    rename News _ _ _ _ => N2
    rename IsTi _ => hT
    exact ⟨_, _, _, _, _, _, _, _, rfl, F2, N2, hT⟩
  clear F N
  rintro _ ⟨h, tk, ra, b, x, t1, t2, t3, rfl, F, N, hx⟩
  refine cut_cons (fun s' => ∃ h tk ca t4, s' = { s with heap := h, toks := tk } ∧ Fr s.heap L h (mO total t sc ra ca none none none) ∧ News s.heap L h [(ca, listOf [Value.int 0 t4].toArray 0), (ra, listOf [Value.ref b].toArray 0), (b, tupO (0, x, total) t1 t2 t3)] ∧ ra < ca) ?_ ?_
  · walk_at "go"
    (show Stop _)
    rename Fr _ _ _ _ => F2
    rename News _ _ _ _ => N2
    rename (_ < _ ∧ _ < _) => l1
    exact ⟨_, _, _, _, rfl, frMap mO_start F2, N2, l1.1⟩
  clear F N
  rintro _ ⟨h, tk, ca, t4, rfl, F, N, hca⟩
  refine cut_cons (fun s' => ∃ h tk ca ws nr TT rs o1 o2 o3, s' = { s with heap := h, toks := tk } ∧ Fr s.heap L h (mO total t sc ra ca o1 o2 o3) ∧ News s.heap L h ((ra, listOf (List.toArray ws) nr) :: TT) ∧ RowsIn TT ws rs ∧ AllTup TT ∧ ∃ n, OutI total n rs ∧ n ≤ 16) ?_ ?_
  · refine wpAny_For (wp_cut (fun v s' => ∃ r h tk n t1' t2' t3', v = .ref r ∧ s' = { s with heap := h, toks := tk } ∧ Fr s.heap L h (mO total t sc ra ca none none none) ∧ News s.heap L h [(ca, listOf [Value.int 0 t4].toArray 0), (ra, listOf [Value.ref b].toArray 0), (b, tupO (0, x, total) t1 t2 t3)] ∧ IsRange h r 0 (n : Nat) 1 t1' t2' t3' ∧ n ≤ 16) ?_ ?_) (by intro _; rfl)
    · walk_at "go"
      (show Stop _)
      rename IsRange _ _ _ _ _ _ _ _ => hR9
      rename News _ _ _ _ => N2
      rename Fr _ _ _ _ => F2
      rw [show (if (ns.length : Int) < 16 then (ns.length : Int) else 16) = ((if ns.length < 16 then ns.length else 16 : Nat) : Int) from by split <;> split <;> omega] at hR9
      exact ⟨_, _, _, _, _, _, _, rfl, rfl, F2, N2, hR9, by split <;> omega⟩
    clear F N
    rintro _ _ ⟨r, h, tk, n, t1', t2', t3', rfl, rfl, F, N, hr9, hn⟩
    refine for_range (h₀ := s.heap) (L := L) (by exact hA) hr9 (by decide) (by decide) (by omega) (by omega) (fun i m' news' => ∃ ca cs cols nc ws nr TT rs o1 o2 o3, news' = (ca, listOf (List.toArray cs) nc) :: (ra, listOf (List.toArray ws) nr) :: TT ∧ m' = mO total t sc ra ca o1 o2 o3 ∧ ColsI i cs cols ∧ RowsIn TT ws rs ∧ AllTup TT ∧ ca ≠ ra ∧ OutI total i rs) ?_ ?_ ?_ F N ⟨ca, [Value.int 0 t4], [0], 0, [Value.ref b], 0, _, [(0, x, total)], none, none, none, rfl, rfl, ⟨.cons _ _ .nil, by simp, by simp, by simp⟩, .cons (.head _) .nil, by intro p hp; simp at hp; subst hp; rfl, Nat.ne_of_gt hca, x, [], rfl, hx, by simp, rfl⟩
    · rintro i m' news' ⟨ca, cs, cols, nc, ws, nr, TT, rs, o1, o2, o3, rfl, -, -, -, hTT, -, -⟩ p hp
      rcases List.mem_cons.1 hp with rfl | hp
      · exact .inl (list_cls (by decide))
      rcases List.mem_cons.1 hp with rfl | hp
      · exact .inl (list_cls (by decide))
      · exact .inl (by rw [hTT p hp]; decide)
    · clear F N hca hx t4 ca
      rintro I i h tk m' news' o t5 hi ⟨ca, cs, cols, nc, ws, nr, TT, rs, o1, o2, o3, rfl, rfl, hC, hRI, hTT, hcr, hO⟩ ho F N
      have hi9 : i < 16 := by omega
      have hTI : ∀ p ∈ TT, p.1 ≠ I := allTup_ne N (.head _) (fun p hp => .tail _ (.tail _ (.tail _ hp))) hTT (by rw [ho]; show Value.type "range_iterator" ≠ _; decide)
      have hTc : ∀ p ∈ TT, p.1 ≠ ca := allTup_ne N (.tail _ (.head _)) (fun p hp => .tail _ (.tail _ (.tail _ hp))) hTT (list_cls (by decide))
      have hTr : ∀ p ∈ TT, p.1 ≠ ra := allTup_ne N (.tail _ (.tail _ (.head _))) (fun p hp => .tail _ (.tail _ (.tail _ hp))) hTT (list_cls (by decide))
      have hIc : @Ne Nat I ca := fun e => news_ne N (fun p hp => by
        rw [ho]; rcases List.mem_cons.1 hp with rfl | hp
        · exact list_cls (by decide)
        rcases List.mem_cons.1 hp with rfl | hp
        · exact list_cls (by decide)
        · rw [hTT p hp]; show _ ≠ Value.type "range_iterator"; decide) _ (.head _) e.symm
      have hIr : @Ne Nat I ra := fun e => news_ne N (fun p hp => by
        rw [ho]; rcases List.mem_cons.1 hp with rfl | hp
        · exact list_cls (by decide)
        rcases List.mem_cons.1 hp with rfl | hp
        · exact list_cls (by decide)
        · rw [hTT p hp]; show _ ≠ Value.type "range_iterator"; decide) _ (.tail _ (.head _)) e.symm
      have hcr' : @Ne Nat ca ra := hcr
      have hwl : ws.length ≤ 1000000 := by obtain ⟨_, rest, rfl, _, _, e⟩ := hO; have := hRI.length; simp at this; omega
      refine wpAny_pure ?_
      refine wpAny_assign_Name ?_
      refine wp_cut (fun _ s' => ∃ h tk o1, s' = { s with heap := h, toks := tk } ∧ Fr s.heap L h (mO total t sc ra ca o1 o2 o3) ∧ o1 = some (.int ((0 : Int) + (i : Nat)) t5) ∧ News s.heap L h ((I, o) :: (ca, listOf (List.toArray cs) nc) :: (ra, listOf (List.toArray ws) nr) :: TT)) ?_ ?_
      · walk_at "go"
        (show Stop _)
        rename Fr _ _ _ _ => F2
        rename News _ _ _ _ => N2
        exact ⟨_, _, _, rfl, frMap mO_k F2, rfl, N2⟩
      clear F N
      rintro _ _ ⟨h, tk, o1', rfl, F, rfl, N⟩
      refine cut_cons (fun s' => ∃ h tk X u, s' = { s with heap := h, toks := tk } ∧ Fr s.heap L h (mO total t sc ra ca (some (.int ((0 : Int) + (i : Nat)) t5)) (some (.int X u)) o3) ∧ News s.heap L h ((I, o) :: (ca, listOf (List.toArray cs) nc) :: (ra, listOf (List.toArray ws) nr) :: TT) ∧ 0 ≤ X ∧ X < 1000000000000) ?_ ?_
      · walk_at "go"
        (show Stop _)
        rename Fr _ _ _ _ => F2
        rename News _ _ _ _ => N2
        exact ⟨_, _, _, _, rfl, frMap mO_x F2, fun p hp => N2 p (.tail _ hp), (fmodE _).1, (fmodE _).2⟩
      clear F N
      rintro _ ⟨h, tk, X, u, rfl, F, N, hX0, hX1⟩
      refine cut_cons (fun s' => ∃ h tk q u2, s' = { s with heap := h, toks := tk } ∧ Fr s.heap L h (mO total t sc ra ca (some (.int ((0 : Int) + (i : Nat)) t5)) (some (.int X u)) (some (.int q u2))) ∧ News s.heap L h ((I, o) :: (ca, listOf (List.toArray cs) nc) :: (ra, listOf (List.toArray ws) nr) :: TT) ∧ 0 ≤ q ∧ q < 1000000000000) ?_ ?_
      · walk_at "go"
        (show Stop _)
        rename Fr _ _ _ _ => F2
        rename News _ _ _ _ => N2
        exact ⟨_, _, _, _, rfl, frMap mO_q F2, N2, (fdiv4 hX0 hX1).1, (fdiv4 hX0 hX1).2⟩
      clear F N
      rintro _ ⟨h, tk, q, u2, rfl, F, N, hq0, hq1⟩
      refine wpAny_execs_cons ?_
      refine if_cut (fun b s' => ∃ tk, s' = { s with heap := h, toks := tk }) ?_ ?_ ?_
      · walk_at "go"
        all_goals exact ⟨_, rfl⟩
      · rintro _ ⟨tk, rfl⟩
        walk_at "go"
        (show Stop _)
        rename Fr _ _ _ _ => F2
        rename News _ _ _ _ => N2
        refine ⟨_, _, _, _, rfl, F2, news_rot N2, _, _, cols, _, _, _, _, rs ++ [(0, Str.ofString "", q)], _, _, _, rfl, rfl, hC.up, (hRI.mono fun p hp => .tail _ hp).app (.cons (.head _) .nil), hTT.cons rfl, hcr, hO.snoc ⟨⟨hq0, hq1⟩, .inl ⟨rfl, rfl⟩⟩⟩
      · rintro _ ⟨tk, rfl⟩
        refine cut_cons (fun s' => ∃ h tk cs cols nc, s' = { s with heap := h, toks := tk } ∧ Fr s.heap L h (mO total t sc ra ca (some (.int ((0 : Int) + (i : Nat)) t5)) (some (.int X u)) (some (.int q u2))) ∧ News s.heap L h ((I, o) :: (ca, listOf (List.toArray cs) nc) :: (ra, listOf (List.toArray ws) nr) :: TT) ∧ ColsI (i + 1) cs cols) ?_ ?_
        · refine if_cut (fun b s' => ∃ tk, s' = { s with heap := h, toks := tk }) ?_ ?_ ?_
          · walk_at "go"
            all_goals exact ⟨_, rfl⟩
          · rintro _ ⟨tk, rfl⟩
            obtain ⟨hCi, hCb, hCn, hCl⟩ := hC
            obtain ⟨ci, coli, c, tc, rfl, rfl, hCI⟩ := ints_snoc_inv hCi hCn
            have hc9 := hCb c (by simp)
            have hcl9 : (ci ++ [Value.int c tc]).length ≤ 1000 := by have := hCi.length; omega
            have hq3 : 0 ≤ q.fmod 3 ∧ q.fmod 3 < 3 := ⟨Int.fmod_nonneg_of_pos _ (by decide), Int.fmod_lt_of_pos _ (by decide)⟩
            walk_at "go"
            (show Stop _)
            rename Fr _ _ _ _ => F2
            rename News _ _ _ _ => N2
            exact ⟨_, _, _, _, _, rfl, F2, N2, ColsI.snoc ⟨hCi, hCb, hCn, hCl⟩ (by omega) (by omega)⟩
          · rintro _ ⟨tk, rfl⟩
            walk_at "go"
            (show Stop _)
            exact ⟨_, _, _, _, _, rfl, F, N, hC.up⟩
        clear F N hC
        rintro _ ⟨h, tk, cs, cols, nc, rfl, F, N, hC⟩
        refine cut_cons (fun s' => ∃ h tk ca cs cols nc, s' = { s with heap := h, toks := tk } ∧ Fr s.heap L h (mO total t sc ra ca (some (.int ((0 : Int) + (i : Nat)) t5)) (some (.int X u)) (some (.int q u2))) ∧ News s.heap L h ((I, o) :: (ca, listOf (List.toArray cs) nc) :: (ra, listOf (List.toArray ws) nr) :: TT) ∧ ColsI (i + 1) cs cols ∧ @Ne Nat ca ra ∧ @Ne Nat I ca ∧ (∀ p ∈ TT, p.1 ≠ ca)) ?_ ?_
        · refine if_cut (fun b s' => ∃ tk, s' = { s with heap := h, toks := tk }) ?_ ?_ ?_
          · walk_at "go"
            all_goals exact ⟨_, rfl⟩
          · rintro _ ⟨tk, rfl⟩
            obtain ⟨cn, hcn⟩ : ∃ cn : Nat, cs.toArray.size = cn := ⟨_, rfl⟩
            have hcn1 : 1 ≤ cn ∧ cn ≤ 20 := by
              obtain ⟨hCi, hCb, hCn, hCl⟩ := hC
              have := hCi.length
              have h2 : cols.length ≠ 0 := by simpa using hCn
              simp at hcn; omega
            have hq3 : 0 ≤ q.fmod (cn : Int) ∧ q.fmod (cn : Int) < (cn : Int) := ⟨Int.fmod_nonneg_of_pos _ (by omega), Int.fmod_lt_of_pos _ (by omega)⟩
            have hz9 : cs.toArray.size ≤ sizeLine := by rw [hcn]; unfold sizeLine; omega
            walk_at "go"
            (show Stop _)
            rename Fr _ _ _ _ => F2
            rename (∀ p ∈ (I, o) :: _, p.1 < _) => l1
            rename News _ _ _ _ => N2
            rw [ls_pick_upto _ _ (by omega)] at N2
            exact ⟨_, _, _, _, _, _, rfl, frMap mO_c F2, news_swap N2, hC.take (k := (1 + q.fmod (cn : Int)).toNat) (by omega), Nat.ne_of_gt (l1 _ (.tail _ (.tail _ (.head _)))), Nat.ne_of_lt (l1 _ (.head _)), fun p hp => Nat.ne_of_lt (l1 p (.tail _ (.tail _ (.tail _ hp))))⟩
          · rintro _ ⟨tk, rfl⟩
            walk_at "go"
            (show Stop _)
            exact ⟨_, _, _, _, _, _, rfl, F, N, hC, hcr', hIc, hTc⟩
        clear F N hC hIc hTc hcr' hcr
        rintro _ ⟨h, tk, ca, cs, cols, nc, rfl, F, N, hC, hcr', hIc, hTc⟩
        obtain ⟨hCi, hCb, hCn, hCl⟩ := hC
        obtain ⟨ci, coli, c, tc, rfl, rfl, hCI⟩ := ints_snoc_inv hCi hCn
        have hc9 := hCb c (by simp)
        walk_at "go"
        (show Stop _)
        rename Fr _ _ _ _ => F2
        rename News _ _ _ _ => N2
        rename IsTi _ => hT9
        refine ⟨_, _, _, _, rfl, F2, news_rot N2, _, _, coli ++ [c], _, _, _, _, rs ++ [(c, _, q)], _, _, _, rfl, rfl, ⟨hCi, hCb, hCn, hCl⟩, (hRI.mono fun p hp => .tail _ hp).app (.cons (.head _) .nil), hTT.cons rfl, hcr', hO.snoc ⟨⟨hq0, hq1⟩, .inr ⟨hT9, by show 0 ≤ c; omega, by show c ≤ 48; omega⟩⟩⟩
    · clear F N
      rintro h tk m' news' ⟨ca, cs, cols, nc, ws, nr, TT, rs, o1, o2, o3, rfl, rfl, hC, hRI, hTT, hcr, hO⟩ F N
      (show Stop _)
      exact ⟨_, _, _, _, _, _, _, _, _, _, rfl, F, fun p hp => N p (.tail _ hp), hRI, hTT, _, hO, by omega⟩
  clear F N
  rintro _ ⟨h, tk, ca, ws, nr, TT, rs, o1, o2, o3, rfl, F, N, hRI, hTT, n, hO, hn⟩
  have hTr : ∀ p ∈ TT, p.1 ≠ ra := allTup_ne N (.head _) (fun p hp => .tail _ hp) hTT (list_cls (by decide))
  obtain ⟨wn, hwn⟩ : ∃ wn : Nat, ws.toArray.size = wn := ⟨_, rfl⟩
  have hwl : ws.length = wn := by simpa using hwn
  have hwn1 : 1 ≤ wn ∧ wn ≤ 20 := by
    obtain ⟨_, rest, rfl, _, _, e⟩ := hO
    have := hRI.length; simp at this; omega
  have hq3 : 0 ≤ total.fmod (wn : Int) ∧ total.fmod (wn : Int) < (wn : Int) := ⟨Int.fmod_nonneg_of_pos _ (by omega), Int.fmod_lt_of_pos _ (by omega)⟩
  refine cut_cons (fun s' => ∃ h tk ws nr TT rs, s' = { s with heap := h, toks := tk } ∧ Fr s.heap L h (mO total t sc ra ca o1 o2 o3) ∧ News s.heap L h ((ra, listOf (List.toArray ws) nr) :: TT) ∧ RowsIn TT ws rs ∧ AllTup TT ∧ OutR total rs) ?_ ?_
  · walk_at "go"
    (show Stop _)
    rename Fr _ _ _ _ => F2
    rename News _ _ _ _ => N2
    rename IsTi _ => hT9
    refine ⟨_, _, _, _, _, _, rfl, F2, news_swap2 N2, ((hRI.take _).mono fun p hp => List.mem_cons_of_mem _ hp).app (.cons (.head _) ((hRI.drop _).mono fun p hp => List.mem_cons_of_mem _ hp)), hTT.cons rfl, hO.ins hT9 hn ht0 ht1 (by omega)⟩
  clear F N hTr
  rintro _ ⟨h, tk, ws, nr, TT, rs, rfl, F, N, hRI, hTT, hO⟩
  have hTr : ∀ p ∈ TT, p.1 ≠ ra := allTup_ne N (.head _) (fun p hp => .tail _ hp) hTT (list_cls (by decide))
  refine cut_cons (fun s' => ∃ h tk ws nr rs, s' = { s with heap := h, toks := tk } ∧ Fr s.heap L h (mO total t sc ra ca o1 o2 o3) ∧ News s.heap L h ((ra, listOf (List.toArray ws) nr) :: TT) ∧ RowsIn TT ws rs ∧ OutR total rs ∧ ∃ ri r, rs = ri ++ [r] ∧ r.2.1 ≠ Str.ofString "") ?_ ?_
  · refine while_inv (fun k s' => ∃ h tk ws nr rs, s' = { s with heap := h, toks := tk } ∧ Fr s.heap L h (mO total t sc ra ca o1 o2 o3) ∧ News s.heap L h ((ra, listOf (List.toArray ws) nr) :: TT) ∧ RowsIn TT ws rs ∧ OutR total rs ∧ k = rs.length) ?_ rs.length ⟨_, _, _, _, _, rfl, F, N, hRI, hO, rfl⟩
    clear F N hRI hO
    rintro k _ ⟨h, tk, ws, nr, rs, rfl, F, N, hRI, hO, rfl⟩
    have hwl9 : ws.length ≤ 1000 := by obtain ⟨_, rest, rfl, _, _, _, e⟩ := hO; have := hRI.length; simp at this; omega
    rcases hRI.snoc_inv with ⟨rfl, rfl⟩ | ⟨wi, ri, b', r', t1', t2', t3', rfl, rfl, hRi, hm⟩
    · obtain ⟨_, _, e, _⟩ := hO; cases e
    have hmN : (b', tupO r' t1' t2' t3') ∈ (ra, listOf (List.toArray (wi ++ [Value.ref b'])) nr) :: TT := .tail _ hm
    walk_at "go"
    · (show Stop _)
      rename Fr _ _ _ _ => F2
      rename News _ _ _ _ => N2
      rename ((_ == _) = true) => h0
      have h0 : r'.2.1 = Str.ofString "" := by simpa using h0
      exact ⟨rfl, ri.length, by simp, _, _, _, _, _, rfl, F2, N2, hRi, hO.pop h0, rfl⟩
    · (show Stop _)
      rename ((_ == _) = false) => h0
      exact ⟨_, _, _, _, _, rfl, F, N, hRI, hO, ri, r', rfl, by simpa using h0⟩
  clear F N hRI hO
  rintro _ ⟨h, tk, ws, nr, rs, rfl, F, N, hRI, hO, hend⟩
  walk_at "go"
  (show Stop _)
  exact hR _ _ _ _ _ _ _ F.keep (fun p hp => ⟨(N p hp).1, (N p hp).2.2⟩) hRI hTT hO hend
end Mine
end
-- part: Comp
section
open PySem PySem.W PyProof.Rows PySem.Calls PySem.Spec PyProof.Rows.LCg
set_option maxRecDepth 100000
set_option maxHeartbeats 2000000
set_option linter.unusedVariables false
namespace Mine
section
variable {prog : Program} {w : World} {A : Around} {E : Value → Shared → Prop} {s : Shared} {h₀ : Heap} {L : Addr} {m : Str → Option Value} {env : Env}
/-- what a turn of a comprehension leaves -/
def Left (h₀ : Heap) (L : Addr) (m : Str → Option Value) (s : Shared) (I : Addr) (oI : Obj) (C : Addr) (oC : Obj) (D : Addr) (ys : List Value) (J : List (Addr × Obj) → Prop) (s' : Shared) : Prop :=
  ∃ h' tk' news', s' = { s with heap := h', toks := tk' } ∧ Fr h₀ L h' m ∧ News h₀ L h' ((I, oI) :: (C, oC) :: (D, lst ys) :: news') ∧ (∀ p ∈ news', p.1 ≠ I ∧ p.1 ≠ C ∧ p.1 ≠ D) ∧ J news'
/-- a comprehension's turns by an invariant: one name -/
theorem rest_inv {elt : PySem.Expr} {x : Str} {scope : Scope} {cl : List (Str × Addr)} {S : List (Addr × Obj) → Prop} {P : Nat → Value → Prop} {Fin : List Value → List (Addr × Obj) → Prop}
    (n : Nat) (J : Nat → List Value → List (Addr × Obj) → Prop) (hS : ∀ i ys news, J i ys news → S news)
    (turn : ∀ i v I oI C oC D m₂ h tk ys news, i < n → J i ys news → P i v → NsObj oC m₂ → m₂ x = some v → Fr h₀ L h m → News h₀ L h ((I, oI) :: (C, oC) :: (D, lst ys) :: news) → (∀ p ∈ news, p.1 ≠ I ∧ p.1 ≠ C ∧ p.1 ≠ D) → ((@Ne Nat I C) ∧ (@Ne Nat I D) ∧ (@Ne Nat C D)) →
      wpAny (model prog w) A (eval elt (compEnvC scope cl C env)) (fun y s' => Stop (Left h₀ L m s I oI C oC D ys (J (i + 1) (ys ++ [y])) s')) Nope { s with heap := h, toks := tk })
    (fin : ∀ ys news, J n ys news → Fin ys news) : ∀ k i ys news, i + k = n → J i ys news → CompRest prog w A h₀ L m env elt x scope cl s S P Fin k i ys news := by
  intro k
  induction k with
  | zero => intro i ys news e hj; have e : i = n := by omega
            subst e; exact fin _ _ hj
  | succ k ih =>
    intro i ys news e hj
    refine CompRest.succ ?_
    intro v I oI C oC D m₂ h tk E' hP hC hx F N off ne
    refine wpAny_mono (turn i v I oI C oC D m₂ h tk ys news (by omega) hj hP hC hx F N off.mem ne) (fun y s' q => ?_) (fun _ _ x => x.elim)
    obtain ⟨h', tk', news', rfl, F', N', off', hj'⟩ := q
    exact ⟨h', tk', news', rfl, F', N', Off3.of off', hS _ _ _ hj', ih (i + 1) _ _ (by omega) hj'⟩
open LCt in
/-- and with a test -/
theorem restT_inv {ct elt : PySem.Expr} {x : Str} {scope : Scope} {cl : List (Str × Addr)} {S : List (Addr × Obj) → Prop} {P : Nat → Value → Prop} {Fin : List Value → List (Addr × Obj) → Prop}
    (n : Nat) (J : Nat → List Value → List (Addr × Obj) → Prop) (hS : ∀ i ys news, J i ys news → S news)
    (turn : ∀ i v I oI C oC D m₂ h tk ys news, i < n → J i ys news → P i v → NsObj oC m₂ → m₂ x = some v → Fr h₀ L h m → News h₀ L h ((I, oI) :: (C, oC) :: (D, lst ys) :: news) → (∀ p ∈ news, p.1 ≠ I ∧ p.1 ≠ C ∧ p.1 ≠ D) → ((@Ne Nat I C) ∧ (@Ne Nat I D) ∧ (@Ne Nat C D)) →
      wpAny (model prog w) A (isTrue ct (compEnvC scope cl C env) (eval ct (compEnvC scope cl C env))) (fun ok s' => if ok = true then
        wpAny (model prog w) A (eval elt (compEnvC scope cl C env)) (fun y s' => Stop (Left h₀ L m s I oI C oC D ys (J (i + 1) (ys ++ [y])) s')) Nope s'
        else Stop (Left h₀ L m s I oI C oC D ys (J (i + 1) ys) s')) Nope { s with heap := h, toks := tk })
    (fin : ∀ ys news, J n ys news → Fin ys news) : ∀ k i ys news, i + k = n → J i ys news → CompRestT prog w A h₀ L m env ct elt x scope cl s S P Fin k i ys news := by
  intro k
  induction k with
  | zero => intro i ys news e hj; have e : i = n := by omega
            subst e; exact fin _ _ hj
  | succ k ih =>
    intro i ys news e hj
    refine CompRestT.succ ?_
    intro v I oI C oC D m₂ h tk E' hP hC hx F N off ne
    refine wpAny_mono (turn i v I oI C oC D m₂ h tk ys news (by omega) hj hP hC hx F N off.mem ne) (fun ok s' q => ?_) (fun _ _ x => x.elim)
    split at q
    · rename_i hok
      rw [if_pos hok]
      refine wpAny_mono q (fun y s' q => ?_) (fun _ _ x => x.elim)
      obtain ⟨h', tk', news', rfl, F', N', off', hj'⟩ := q
      exact ⟨h', tk', news', rfl, F', N', Off3.of off', hS _ _ _ hj', ih (i + 1) _ _ (by omega) hj'⟩
    · rename_i hok
      rw [if_neg hok]
      obtain ⟨h', tk', news', rfl, F', N', off', hj'⟩ := q
      exact ⟨h', tk', news', rfl, F', N', Off3.of off', hS _ _ _ hj', ih (i + 1) _ _ (by omega) hj'⟩
/-- three names at once -/
theorem assign3 {env : Env} {a b c : Str} {pa pb pc tp : Pos} {kk : Nat} {T : Addr} {x y z : Value} {m : Str → Option Value} {Q : Unit → Shared → Prop} (hh : A.handled = none) (ht : s.heap.IsTuple T #[x, y, z])
    (ha : env.kindOf a = some .local) (hb : env.kindOf b = some .local) (hc : env.kindOf c = some .local) (hp : (env.scope.kind == .class || (env.scope.kind == .module && env.locals != env.globals)) = false) (hn : s.heap.Ns env.locals m)
    (h : ∀ (h' : Heap) (tk : Nat), h'.Ns env.locals (up (up (up m a x) b y) c z) → (∀ d o, d ≠ env.locals → s.heap.get? d = some o → h'.get? d = some o) → Q () { s with heap := h', toks := tk }) :
    wpAny (model prog w) A (assign (.Tuple [.Name a pa, .Name b pb, .Name c pc] kk tp) env (.ref T)) Q E s := by
  refine wpAny_assign_Tuple hh ht rfl rfl fun h₁ he₁ => ?_
  have hL : env.locals ≠ s.heap.objs.size := Nat.ne_of_lt hn.lt
  have hn₁ : h₁.Ns env.locals m := hn.at' fun o e => he₁ _ o hL e
  have up₁ : ∀ c o, s.heap.get? c = some o → h₁.get? c = some o := fun c o e => he₁ c o (Nat.ne_of_lt (Heap.lt_size e)) e
  show wpAny _ _ (assignInOrder [assign (.Name a pa) env, assign (.Name b pb) env, assign (.Name c pc) env] [x, y, z]) _ _ _
  refine assignInOrder_cons ?_
  refine wpAny_assign_Name (wpAny_storeName_local ha hn₁ (fun h₂ hn₂ hs₂ => ?_) hp)
  refine assignInOrder_cons ?_
  refine wpAny_assign_Name (wpAny_storeName_local hb hn₂ (fun h₃ hn₃ hs₃ => ?_) hp)
  refine assignInOrder_cons ?_
  refine wpAny_assign_Name (wpAny_storeName_local hc hn₃ (fun h₄ hn₄ hs₄ => ?_) hp)
  refine assignInOrder_nil ?_
  exact h h₄ _ hn₄ fun c o hc e => hs₄.extBut c o hc (hs₃.extBut c o hc (hs₂.extBut c o hc (up₁ c o e)))
/-- a comprehension over a list of tuples, three names -/
theorem block3 {elt iter : PySem.Expr} {a b c : Str} {pa pb pc tp : Pos} {kk : Nat} {scope : Scope} {cl : List (Str × Addr)} {pos : Pos} {s₂ : Shared} {I ax : Addr} {its : Array Value} {news : List (Addr × Obj)}
    {RR : Value → Addr → Result → Shared → Prop} (Rw : Nat → Row → Prop) (J : Nat → List Value → List (Addr × Obj) → Prop)
    (hh : A.handled = none) (hne : ax ≠ I) (hsz : its.size ≤ sizeLine)
    (src : ∀ i ys news', J i ys news' → SrcAt h₀ ax its news')
    (tup : ∀ i ys news' v, J i ys news' → its[i]? = some v → ∃ T r t1 t2 t3, v = .ref T ∧ (T, tupO r t1 t2 t3) ∈ news' ∧ Rw i r)
    (hcell : ∀ y ∈ scope.names, y.2 ≠ .cell) (hkind : scope.kind = .function) (hxa : scope.names.lookup a = some .local) (hxb : scope.names.lookup b = some .local) (hxc : scope.names.lookup c = some .local) (hab : b ≠ a ∧ c ≠ a ∧ c ≠ b)
    (hit : s₂.heap.IsListIter I ax 0) (F : Fr h₀ L s₂.heap m) (N : News h₀ L s₂.heap news) (hIL : L ≠ I) (hI₀ : h₀.get? I = none) (off : ∀ p ∈ news, p.1 ≠ I)
    (turn : ∀ i v T r t1 t2 t3 I oI C oC D m₂ h tk ys news, i < its.size → J i ys news → its[i]? = some v → v = .ref T → (T, tupO r t1 t2 t3) ∈ news → Rw i r → NsObj oC m₂ → m₂ a = some (.int r.1 t1) → m₂ b = some (.str r.2.1 t2) → m₂ c = some (.int r.2.2 t3) → Fr h₀ L h m → News h₀ L h ((I, oI) :: (C, oC) :: (D, lst ys) :: news) → (∀ p ∈ news, p.1 ≠ I ∧ p.1 ≠ C ∧ p.1 ≠ D) → ((@Ne Nat I C) ∧ (@Ne Nat I D) ∧ (@Ne Nat C D)) →
      wpAny (model prog w) A (eval elt (compEnvC scope cl C env)) (fun y s' => Stop (Left h₀ L m s₂ I oI C oC D ys (J (i + 1) (ys ++ [y])) s')) Nope { s₂ with heap := h, toks := tk })
    (h0 : J 0 [] news)
    (hRR : ∀ D C h tk m' ys news', Fr h₀ L h m → News h₀ L h ((D, lst ys) :: news') → (∀ p ∈ news', p.1 ≠ D) → h.Ns C m' → h₀.get? C = none → h₀.get? D = none → C ≠ L → D ≠ L → C ≠ D → (∀ p ∈ news', p.1 ≠ C) → J its.size ys news' → RR (.ref D) C (.ok .next) { s₂ with heap := h, toks := tk }) :
    wpAny (model prog w) A (newList []) (fun acc s₃ => wpAny (model prog w) A (newFunctionEnv scope env.globals cl [] env.qual none .none (some env)) (fun cenv s₄ =>
      codeAny (model prog w) A (.compStart (.ListComp elt [⟨.Tuple [.Name a pa, .Name b pb, .Name c pc] kk tp, iter, [], 0⟩] scope pos) 0 (.ref I) acc { cenv with scope := relabel scope env }) (RR acc cenv.locals) s₄) E s₃) E s₂ := by
  refine wpAny_newObj_type (wpAny_newFunctionEnv hcell (by intro y hy; simp at hy) (fun h₁ hns₁ hsb₁ => ?_) hkind)
  dsimp only at hns₁ hsb₁ ⊢
  generalize hH2 : s₂.heap.push { cls := .type "list", dict := none, data := .seq ([] : List Value).toArray } = H2 at hns₁ hsb₁ ⊢
  have hC : H2.objs.size = s₂.heap.objs.size + 1 := by rw [← hH2, Heap.size_push]
  have hDC : s₂.heap.objs.size ≠ H2.objs.size := by rw [hC]; exact Nat.ne_of_lt (Nat.lt_succ_self _)
  have below : ∀ b, b < s₂.heap.objs.size → b ≠ H2.objs.size ∧ b ≠ s₂.heap.objs.size := fun b hb => ⟨by rw [hC]; exact Nat.ne_of_lt (Nat.lt_succ_of_lt hb), Nat.ne_of_lt hb⟩
  have hIlt : I < s₂.heap.objs.size := by obtain ⟨o, e, _⟩ := hit; exact Heap.lt_size e
  have old : ∀ b o, s₂.heap.get? b = some o → h₁.get? b = some o := fun b o e => hsb₁.extBut b o (below b (Heap.lt_size e)).1 (Heap.get?_push_of_some _ (hH2 ▸ Heap.get?_push_of_some _ e))
  have hacc : h₁.get? s₂.heap.objs.size = some (lst []) := hsb₁.extBut _ _ hDC (Heap.get?_push_of_some _ (hH2 ▸ Heap.get?_push_size _ rfl))
  have hit₁ : h₁.IsListIter I ax 0 := by obtain ⟨o, e, r⟩ := hit; exact ⟨o, old _ _ e, r⟩
  have fresh : ∀ a, s₂.heap.objs.size ≤ a → s₂.heap.get? a = none := fun a ha => by
    cases e : s₂.heap.get? a with
    | none => rfl
    | some o' => exact absurd (Heap.lt_size e) (Nat.not_lt.mpr ha)
  have fresh₀ : ∀ a, s₂.heap.objs.size ≤ a → h₀.get? a = none := fun a ha => by
    cases e : h₀.get? a with
    | none => rfl
    | some o' => have := F.keep a o' e; rw [fresh a ha] at this; cases this
  have hD₀ : h₀.get? s₂.heap.objs.size = none := fresh₀ _ (Nat.le_refl _)
  have hC₀ : h₀.get? H2.objs.size = none := fresh₀ _ (by rw [hC]; exact Nat.le_succ _)
  have hLlt : L < s₂.heap.objs.size := F.ns.lt
  have hDL : s₂.heap.objs.size ≠ L := Ne.symm (below L hLlt).2
  have hCL : H2.objs.size ≠ L := Ne.symm (below L hLlt).1
  have hCI : I ≠ H2.objs.size := (below I hIlt).1
  have hDI : I ≠ s₂.heap.objs.size := (below I hIlt).2
  have off₀ : ∀ p ∈ news, p.1 ≠ I ∧ p.1 ≠ H2.objs.size ∧ p.1 ≠ s₂.heap.objs.size := fun p hp => ⟨off p hp, (below _ (Heap.lt_size (N p hp).1)).1, (below _ (Heap.lt_size (N p hp).1)).2⟩
  have W := Walks.list (prog := prog) (w := w) hh I ax hne its
  have loop : ∀ s₃ : Shared, s₃ = { s₂ with heap := h₁, toks := s₂.toks + ([] : List (Str × Value)).length } →
      codeAny (model prog w) A (.compLoop (.ListComp elt [⟨.Tuple [.Name a pa, .Name b pb, .Name c pc] kk tp, iter, [], 0⟩] scope pos) 0 (.ref I) (.ref s₂.heap.objs.size) (compEnvC scope cl H2.objs.size env))
        (RR (.ref s₂.heap.objs.size) H2.objs.size) s₃ := by
    rintro s₃ rfl
    refine kcp_loop
      (fun k s' => ∃ h' tk i ys m' news', s' = { s₂ with heap := h', toks := tk } ∧ i ≤ its.size ∧ k = its.size + 1 - i ∧ ys.length = i ∧ h'.IsListIter I ax i ∧ Fr h₀ L h' m ∧ h'.Ns H2.objs.size m' ∧
        News h₀ L h' ((s₂.heap.objs.size, lst ys) :: news') ∧ (∀ p ∈ news', p.1 ≠ I ∧ p.1 ≠ H2.objs.size ∧ p.1 ≠ s₂.heap.objs.size) ∧ J i ys news') ?_ (its.size + 1)
      ⟨h₁, _, 0, [], _, news, rfl, Nat.zero_le _, rfl, rfl, hit₁, F.keeps old, hns₁, fun p hp => ?_, off₀, h0⟩
    · rintro k s' ⟨h', tk, i, ys, m', news', rfl, hi, rfl, hyl, hit', F', hn', N', off', hj⟩
      have hl' : h'.IsList ax its := (src _ _ _ hj).list F'.keep (fun p hp => N' p (.tail _ hp))
      by_cases hlt : i < its.size
      · refine W.item i _ _ _ hlt ⟨hit', hl'⟩ fun v h₂ tk₂ hv hst₂ hk₂ => ?_
        obtain ⟨T, r, t1, t2, t3, rfl, hT, hRw⟩ := tup i ys news' v hj hv
        refine wpAny_letOwnedTupleGo_listiter hst₂.1 ?_
        have zT := (N' _ (.tail _ hT)).1
        have hT₂ : h₂.IsTuple T #[.int r.1 t1, .str r.2.1 t2, .int r.2.2 t3] := ⟨_, hk₂ T _ (by simpa using (off' _ hT).1) zT, rfl, _, rfl⟩
        refine assign3 (env := compEnvC scope cl H2.objs.size env) hh hT₂ (lookup_relabel_local hxa) (lookup_relabel_local hxb) (lookup_relabel_local hxc) (by simp [compEnvC, relabel, hkind]) (hn'.at' fun o e => hk₂ _ o (by simpa using Ne.symm hCI) e) fun h₄ tk₄ hn₄ hs₄ => ?_
        have up₄ : ∀ d o, d ≠ I → d ≠ H2.objs.size → h'.get? d = some o → h₄.get? d = some o := fun d o h1 h2 e => hs₄ d o h2 (hk₂ d o (by simpa using h1) e)
        obtain ⟨oI, heI, hoI⟩ := hst₂.1
        have heI₄ : h₄.get? I = some oI := hs₄ I _ hCI heI
        obtain ⟨oC, heC, hoC⟩ := ns_obj hn₄
        have F₄ : Fr h₀ L h₄ m := ⟨F'.ns.at' fun o e => up₄ _ o hIL (Ne.symm hCL) e, fun d o e => up₄ d o (fun q => by rw [q, hI₀] at e; cases e) (fun q => by rw [q, hC₀] at e; cases e) (F'.keep d o e), F'.above⟩
        have N₄ : News h₀ L h₄ ((I, oI) :: (H2.objs.size, oC) :: (s₂.heap.objs.size, lst ys) :: news') := fun q hq => by
          rcases List.mem_cons.mp hq with rfl | hq
          · exact ⟨heI₄, Ne.symm hIL, hI₀⟩
          · rcases List.mem_cons.mp hq with rfl | hq
            · exact ⟨heC, hCL, hC₀⟩
            · have z := N' q hq
              refine ⟨up₄ _ _ ?_ ?_ z.1, z.2⟩
              · rcases List.mem_cons.mp hq with rfl | hq
                · exact Ne.symm hDI
                · exact (off' q hq).1
              · rcases List.mem_cons.mp hq with rfl | hq
                · exact hDC
                · exact (off' q hq).2.1
        refine wpAny_mono (turn i _ T r t1 t2 t3 I oI H2.objs.size oC s₂.heap.objs.size _ h₄ _ ys news' hlt hj hv rfl hT hRw hoC (by simp [up, hab.1.symm, hab.2.1.symm]) (by simp [up, hab.2.2.symm]) (by simp [up]) F₄ N₄ off' ⟨hCI, hDI, Ne.symm hDC⟩) (fun y s₅ h₅ => ?_) fun _ _ x => x.elim
        obtain ⟨h₅, tk₅, news₅, rfl, F₅, N₅, off₅, hj₅⟩ := h₅
        have zI := (N₅ (I, oI) List.mem_cons_self).1
        have zC := (N₅ (H2.objs.size, oC) (List.mem_cons_of_mem _ List.mem_cons_self)).1
        have zD := (N₅ (s₂.heap.objs.size, lst ys) (List.mem_cons_of_mem _ (List.mem_cons_of_mem _ List.mem_cons_self))).1
        have N₅' : News h₀ L h₅ news₅ := fun q hq => N₅ q (List.mem_cons_of_mem _ (List.mem_cons_of_mem _ (List.mem_cons_of_mem _ hq)))
        refine append_at (hsz := by show ys.toArray.size ≤ sizeLine; rw [List.size_toArray, hyl]; exact Nat.le_trans hi hsz) zD fun h₆ hs₆ hD₆ => ?_
        refine ⟨its.size + 1 - (i + 1), by omega, h₆, tk₅, i + 1, ys ++ [y], _, news₅, rfl, hlt, rfl, by rw [List.length_append, List.length_singleton, hyl], ⟨oI, hs₆.extBut I oI hDI zI, hoI⟩, F₅.change hs₆ hDL hD₀,
          (hoC.ns zC).sameBut hs₆ (Ne.symm hDC), fun q hq => ?_, off₅, hj₅⟩
        rcases List.mem_cons.mp hq with rfl | hq
        · exact ⟨hD₆.trans (congrArg some (lst_snoc ys y)), hDL, hD₀⟩
        · exact ⟨hs₆.extBut _ _ (off₅ q hq).2.2 (N₅' q hq).1, (N₅' q hq).2⟩
      · have hin : i = its.size := Nat.le_antisymm hi (Nat.not_lt.mp hlt)
        subst hin
        refine W.done _ _ _ ⟨hit', hl'⟩ fun h₂ tk₂ hk₂ => ?_
        exact hRR _ _ h₂ tk₂ _ ys news' (LCg.fr_but F' hk₂ hIL hI₀) (LCg.news_but N' hk₂ fun p hp => by
          rcases List.mem_cons.mp hp with rfl | hp
          · exact Ne.symm hDI
          · exact (off' p hp).1) (fun p hp => (off' p hp).2.2) (hn'.at' fun o e => hk₂ _ o (by simpa using Ne.symm hCI) e) hC₀ hD₀ hCL hDL (Ne.symm hDC) (fun p hp => (off' p hp).2.1) hj
    · rcases List.mem_cons.mp hp with rfl | hp
      · exact ⟨hacc, hDL, hD₀⟩
      · exact ⟨old _ _ (N p hp).1, (N p hp).2⟩
  exact codeAny_compStart_list (loop _ rfl) (W.self 0 _ _ _ ⟨hit₁, (src _ _ _ h0).list (F.keeps old).keep (fun p hp => ⟨old _ _ (N p hp).1, (N p hp).2⟩)⟩ (loop _ rfl))
end
end Mine
end
-- part: Comp3
section
open PySem PySem.W PyProof.Rows PySem.Calls PySem.Spec PyProof.Rows.LCg
set_option maxRecDepth 100000
set_option maxHeartbeats 2000000
set_option linter.unusedVariables false
namespace Mine
section
variable {prog : Program} {w : World} {A : Around} {E : Value → Shared → Prop} {s : Shared} {h₀ : Heap} {L : Addr} {m : Str → Option Value} {env : Env}
/-- the turn of a comprehension over rows -/
def Turn3 (prog : Program) (w : World) (A : Around) (h₀ : Heap) (L : Addr) (m : Str → Option Value) (env : Env) (elt : PySem.Expr) (a b c : Str) (scope : Scope) (cl : List (Str × Addr)) (its : Array Value) (Rw : Nat → Row → Prop) (J : Nat → List Value → List (Addr × Obj) → Prop) (s₂ : Shared) : Prop :=
  ∀ i v T r t1 t2 t3 I oI C oC D m₂ h tk ys news, i < its.size → J i ys news → its[i]? = some v → v = .ref T → (T, tupO r t1 t2 t3) ∈ news → Rw i r → NsObj oC m₂ → m₂ a = some (.int r.1 t1) → m₂ b = some (.str r.2.1 t2) → m₂ c = some (.int r.2.2 t3) → Fr h₀ L h m → News h₀ L h ((I, oI) :: (C, oC) :: (D, lst ys) :: news) → (∀ p ∈ news, p.1 ≠ I ∧ p.1 ≠ C ∧ p.1 ≠ D) → ((@Ne Nat I C) ∧ (@Ne Nat I D) ∧ (@Ne Nat C D)) →
      wpAny (model prog w) A (eval elt (compEnvC scope cl C env)) (fun y s' => Stop (Left h₀ L m s₂ I oI C oC D ys (J (i + 1) (ys ++ [y])) s')) Nope { s₂ with heap := h, toks := tk }
theorem comp3 {elt iter : PySem.Expr} {a b c : Str} {pa pb pc tp : Pos} {kk : Nat} {scope : Scope} {cl : List (Str × Addr)} {pos : Pos} {Q : Value → Shared → Prop} {ax : Addr} {its : Array Value} {news : List (Addr × Obj)}
    (Rw : Nat → Row → Prop) (J : Nat → List Value → List (Addr × Obj) → Prop) (hh : A.handled = none) (hsz : its.size ≤ sizeLine)
    (src : ∀ i ys news', J i ys news' → SrcAt h₀ ax its news')
    (tup : ∀ i ys news' v, J i ys news' → its[i]? = some v → ∃ T r t1 t2 t3, v = .ref T ∧ (T, tupO r t1 t2 t3) ∈ news' ∧ Rw i r)
    (hclos : closureFor scope env = pure cl) (hcell : ∀ y ∈ scope.names, y.2 ≠ .cell) (hkind : scope.kind = .function)
    (hnames : ∀ y ∈ scope.names, y.2 = .local → scope.names.lookup y.1 = some .local) (hxa : scope.names.lookup a = some .local) (hxb : scope.names.lookup b = some .local) (hxc : scope.names.lookup c = some .local) (hab : b ≠ a ∧ c ≠ a ∧ c ≠ b)
    (h : wpAny (model prog w) A (eval iter env) (fun xv s₁ => Stop (xv = .ref ax ∧ (∃ h tk, s₁ = { s with heap := h, toks := tk }) ∧ Fr h₀ L s₁.heap m ∧ News h₀ L s₁.heap news)) Nope s)
    (h0 : J 0 [] news) (turn : Turn3 prog w A h₀ L m env elt a b c scope cl its Rw J s)
    (fin : ∀ D h tk ys news', Fr h₀ L h m → News h₀ L h ((D, lst ys) :: news') → (∀ p ∈ news', p.1 ≠ D) → J its.size ys news' → Q (.ref D) { s with heap := h, toks := tk })
    (hs : ∀ x, foldedSetIterable iter env x = pure x := by intro _; rfl) :
    wpAny (model prog w) A (eval (.ListComp elt [⟨.Tuple [.Name a pa, .Name b pb, .Name c pc] kk tp, iter, [], 0⟩] scope pos) env) Q E s := by
  rw [eval_ListComp]
  refine wpAny_comprehension_free (use := none) rfl hs hclos hkind hnames (wpAny_mono h (fun xv s₁ h₁ => ?_) fun _ _ x => x.elim)
  obtain ⟨rfl, ⟨h, tk, rfl⟩, F, N⟩ := h₁
  have S := src _ _ _ h0
  have hl := S.list F.keep N
  have hlt : ax < h.objs.size := by obtain ⟨_, e, _⟩ := hl; exact Heap.lt_size e
  refine wpAny_pyIter_list hl ?_
  have up : ∀ b o, h.get? b = some o → (h.push { cls := .type "list_iterator", data := .fields #[.ref ax, .int 0 0] }).get? b = some o := fun b o e => Heap.get?_push_of_some _ e
  refine block3 (I := h.objs.size) Rw J hh (Nat.ne_of_lt hlt) hsz src tup hcell hkind hxa hxb hxc hab ⟨_, Heap.get?_push_size _ rfl, rfl, rfl⟩ (F.keeps up) (N.grown up) (Nat.ne_of_lt F.ns.lt) (next_is_new F) (fun p hp => Nat.ne_of_lt (Heap.lt_size (N p hp).1)) turn h0 ?_
  intro D C h' tk' m' ys news' F' N' o1 hn hC₀ hD₀ hCL hDL hCD offC hj
  refine ⟨m', hn, fun h'' hs'' => fin D h'' tk' ys news' (F'.change hs'' hCL hC₀) (fun p hp => ?_) o1 hj⟩
  refine ⟨hs''.extBut _ _ ?_ (N' p hp).1, (N' p hp).2⟩
  rcases List.mem_cons.mp hp with rfl | hp
  · exact Ne.symm hCD
  · exact offC p hp
theorem assign_comp3 {elt iter : PySem.Expr} {a b c y : Str} {pa pb pc tp py : Pos} {kk : Nat} {scope : Scope} {cl : List (Str × Addr)} {pos spos : Pos} {Q : Flow → Shared → Prop} {ax : Addr} {its : Array Value} {news : List (Addr × Obj)}
    (Rw : Nat → Row → Prop) (J : Nat → List Value → List (Addr × Obj) → Prop) (hh : A.handled = none) (hsz : its.size ≤ sizeLine)
    (src : ∀ i ys news', J i ys news' → SrcAt h₀ ax its news')
    (tup : ∀ i ys news' v, J i ys news' → its[i]? = some v → ∃ T r t1 t2 t3, v = .ref T ∧ (T, tupO r t1 t2 t3) ∈ news' ∧ Rw i r)
    (hLe : env.locals = L) (hsw : swapsWith (.ListComp elt [⟨.Tuple [.Name a pa, .Name b pb, .Name c pc] kk tp, iter, [], 0⟩] scope pos) (some (.Name y py)) spos.line env = pure true)
    (hclos : closureFor scope env = pure cl) (hcell : ∀ y ∈ scope.names, y.2 ≠ .cell) (hkind : scope.kind = .function)
    (hnames : ∀ y ∈ scope.names, y.2 = .local → scope.names.lookup y.1 = some .local) (hxa : scope.names.lookup a = some .local) (hxb : scope.names.lookup b = some .local) (hxc : scope.names.lookup c = some .local) (hab : b ≠ a ∧ c ≠ a ∧ c ≠ b)
    (hy : env.kindOf y = some .local) (hp : (env.scope.kind == .class || (env.scope.kind == .module && env.locals != env.globals)) = false)
    (h : wpAny (model prog w) A (eval iter env) (fun xv s₁ => Stop (xv = .ref ax ∧ (∃ h tk, s₁ = { s with heap := h, toks := tk }) ∧ Fr h₀ L s₁.heap m ∧ News h₀ L s₁.heap news)) Nope s)
    (h0 : J 0 [] news) (turn : Turn3 prog w A h₀ L m env elt a b c scope cl its Rw J s)
    (fin : ∀ D h tk ys news', Fr h₀ L h (Mine.up m y (.ref D)) → News h₀ L h ((D, lst ys) :: news') → (∀ p ∈ news', p.1 ≠ D) → J its.size ys news' → Q .next { s with heap := h, toks := tk })
    (hs : ∀ x, foldedSetIterable iter env x = pure x := by intro _; rfl) :
    wpAny (model prog w) A (exec (.Assign [.Name y py] (.ListComp elt [⟨.Tuple [.Name a pa, .Name b pb, .Name c pc] kk tp, iter, [], 0⟩] scope pos) spos) env) Q E s := by
  subst hLe
  rw [exec_Assign_Name_used _ _ _ _ hsw]
  refine wpAny_bind (wpAny_standAt (wpAny_bind ?_))
  show wpAny _ A (do let _ ← comprehension (.ListComp elt [⟨.Tuple [.Name a pa, .Name b pb, .Name c pc] kk tp, iter, [], 0⟩] scope pos) scope env _ (newList []) false (eval iter env) (some (assign (.Name y py) env))) _ _ s
  refine wpAny_bind (wpAny_mono (wpAny_comprehension_free (use := some (assign (.Name y py) env)) (Q := fun _ s' => Q .next s') rfl hs hclos hkind hnames
    (wpAny_mono h (fun xv s₁ h₁ => ?_) fun _ _ x => x.elim)) (fun _ s' hq => wpAny_pure (wpAny_pure hq)) fun _ _ e => e)
  obtain ⟨rfl, ⟨h, tk, rfl⟩, F, N⟩ := h₁
  have S := src _ _ _ h0
  have hl := S.list F.keep N
  have hlt : ax < h.objs.size := by obtain ⟨_, e, _⟩ := hl; exact Heap.lt_size e
  refine wpAny_pyIter_list hl ?_
  have up : ∀ b o, h.get? b = some o → (h.push { cls := .type "list_iterator", data := .fields #[.ref ax, .int 0 0] }).get? b = some o := fun b o e => Heap.get?_push_of_some _ e
  refine block3 (I := h.objs.size) Rw J hh (Nat.ne_of_lt hlt) hsz src tup hcell hkind hxa hxb hxc hab ⟨_, Heap.get?_push_size _ rfl, rfl, rfl⟩ (F.keeps up) (N.grown up) (Nat.ne_of_lt F.ns.lt) (next_is_new F) (fun p hp => Nat.ne_of_lt (Heap.lt_size (N p hp).1)) turn h0 ?_
  intro D C h' tk m' ys news' F' N' o1 hn hC₀ hD₀ hCL hDL hCD offC hj
  show wpAny _ A (assign (.Name y py) env (.ref D)) _ _ _
  refine wpAny_assign_Name (wpAny_storeName_local hy F'.ns (fun h₂ hn₂ hs₂ => ?_) hp)
  have hL₀ : h₀.get? env.locals = none := Heap.get?_none_of_le F'.above
  have F₂ : Fr h₀ env.locals h₂ (fun z => if z = y then some (.ref D) else m z) := ⟨hn₂, fun b o e => hs₂.extBut b o (fun q => by rw [q, hL₀] at e; cases e) (F'.keep b o e), F'.above⟩
  refine ⟨m', hn.sameBut hs₂ hCL, fun h'' hs'' => fin D h'' _ ys news' (F₂.change hs'' hCL hC₀) (fun p hp => ?_) o1 hj⟩
  have z : h₂.get? p.1 = some p.2 := hs₂.extBut _ _ (N' p hp).2.1 (N' p hp).1
  refine ⟨hs''.extBut _ _ ?_ z, (N' p hp).2⟩
  rcases List.mem_cons.mp hp with rfl | hp
  · exact Ne.symm hCD
  · exact offC p hp
end
end Mine
end
-- part: HandB
section
open PySem PySem.W PyProof.Rows PySem.Calls PySem.Spec PyProof.Rows.LCg
set_option maxRecDepth 100000
set_option maxHeartbeats 2000000
set_option linter.unusedVariables false
namespace Mine
/-- a row that a hand has left blank -/
def Bl (mg : Int) (q : Row) : Prop := q.2.1 = Str.ofString "" ∧ (0 ≤ q.1 ∧ q.1 ≤ mg) ∧ (0 ≤ q.2.2 ∧ q.2.2 < 100000000000000)
/-- a row and what a hand has made of it -/
def HRow (mg : Int) (r q : Row) : Prop := (r.2.1 = Str.ofString "" → Bl mg q) ∧ (r.2.1 ≠ Str.ofString "" → q.2.1 = r.2.1 ∧ q.1 = mg + r.1) ∧ (0 ≤ q.2.2 ∧ q.2.2 < 100000000000000)
inductive Maps (mg : Int) : List Row → List Row → Prop
  | nil : Maps mg [] []
  | cons {r q rs qs} : HRow mg r q → Maps mg rs qs → Maps mg (r :: rs) (q :: qs)
theorem Maps.snoc {mg : Int} {r q : Row} (h : HRow mg r q) : ∀ {rs qs}, Maps mg rs qs → Maps mg (rs ++ [r]) (qs ++ [q])
  | _, _, .nil => .cons h .nil
  | _, _, .cons h' m => .cons h' (m.snoc h)
theorem Maps.length {mg : Int} : ∀ {rs qs}, Maps mg rs qs → qs.length = rs.length
  | _, _, .nil => rfl
  | _, _, .cons h' m => by simp [m.length]
/-- what a hand writes -/
def HandR (mg : Int) (rs raw : List Row) : Prop := ∃ c0 t0 b0 pre mid post, raw = (c0, t0, b0) :: (pre ++ mid ++ post) ∧ (0 ≤ c0 ∧ c0 < 20) ∧ (0 ≤ b0 ∧ b0 < 100000000000000) ∧ (∀ q ∈ pre, Bl mg q) ∧ (∀ q ∈ post, Bl mg q) ∧ pre.length ≤ 2 ∧ post.length ≤ 2 ∧
  ((∃ r0 rest, rs = r0 :: rest ∧ t0 = r0.2.1 ∧ pre = [] ∧ Maps mg rest mid) ∨ (t0 = Str.ofString "" ∧ Maps mg rs mid))
section
variable {prog : Program} {w : World} {A : Around} {E : Value → Shared → Prop} {s : Shared} {h₀ : Heap} {L : Addr} {m : Str → Option Value} {env : Env} {news : List (Addr × Obj)}
theorem listComp_S {elt iter : PySem.Expr} {x : Str} {px : Pos} {scope : Scope} {cl : List (Str × Addr)} {pos : Pos} {Q : Value → Shared → Prop} (F₀ : Fr h₀ L s.heap m)
    (hclos : closureFor scope env = pure cl) (hcell : ∀ y ∈ scope.names, y.2 ≠ .cell) (hkind : scope.kind = .function)
    (hnames : ∀ y ∈ scope.names, y.2 = .local → scope.names.lookup y.1 = some .local) (hx : scope.names.lookup x = some .local)
    (h : wpAny (model prog w) A (eval iter env) (fun xv s₁ => Stop (CompSrc prog w A h₀ L m env elt x scope cl (fun s₂ => FinE h₀ L m s₂ Q) xv s₁)) Nope s)
    (hs : ∀ x, foldedSetIterable iter env x = pure x := by intro _; rfl) :
    wpAny (model prog w) A (eval (.ListComp elt [⟨.Name x px, iter, [], 0⟩] scope pos) env) Q E s :=
  ListComp_U F₀ hclos hcell hkind hnames hx (wpAny_mono h (fun _ _ x => x) (fun _ _ x => x.elim)) hs
theorem off1_mem {D : Addr} : ∀ {l : List (Addr × Obj)}, Off1 D l → ∀ p ∈ l, p.1 ≠ D
  | [], _, _, h => nomatch h
  | _ :: _, x, p, h => by
    rcases List.mem_cons.mp h with rfl | h
    · exact x.1
    · exact off1_mem x.2 p h
/-- the turn of a comprehension, one name -/
def Turn1 (prog : Program) (w : World) (A : Around) (h₀ : Heap) (L : Addr) (m : Str → Option Value) (env : Env) (elt : PySem.Expr) (x : Str) (scope : Scope) (cl : List (Str × Addr)) (n : Nat) (P : Nat → Value → Prop) (J : Nat → List Value → List (Addr × Obj) → Prop) (s : Shared) : Prop :=
  ∀ i v I oI C oC D m₂ h tk ys news, i < n → J i ys news → P i v → NsObj oC m₂ → m₂ x = some v → Fr h₀ L h m → News h₀ L h ((I, oI) :: (C, oC) :: (D, lst ys) :: news) → (∀ p ∈ news, p.1 ≠ I ∧ p.1 ≠ C ∧ p.1 ≠ D) → ((@Ne Nat I C) ∧ (@Ne Nat I D) ∧ (@Ne Nat C D)) →
      wpAny (model prog w) A (eval elt (compEnvC scope cl C env)) (fun y s' => Stop (Left h₀ L m s I oI C oC D ys (J (i + 1) (ys ++ [y])) s')) Nope { s with heap := h, toks := tk }
theorem src_range {elt : PySem.Expr} {x : Str} {scope : Scope} {cl : List (Str × Addr)} {Q : Value → Shared → Prop} {r : Addr} {lo hi : Int} {t u v : Tok}
    (hh : A.handled = none) (F : Fr h₀ L s.heap m) (N : News h₀ L s.heap news) (hr : IsRange s.heap r lo hi 1 t u v) (h0 : 0 ≤ lo) (h1 : lo ≤ 1000000) (h2 : 0 ≤ hi) (h3 : hi ≤ 1000000)
    (J : Nat → List Value → List (Addr × Obj) → Prop) (hj : J 0 [] news)
    (turn : Turn1 prog w A h₀ L m env elt x scope cl (hi - lo).toNat (fun i v => ∃ t, v = .int (lo + (i : Int)) t) J s)
    (fin : ∀ ys news' D h tk, J (hi - lo).toNat ys news' → Fr h₀ L h m → News h₀ L h ((D, lst ys) :: news') → (∀ p ∈ news', p.1 ≠ D) → Q (.ref D) { s with heap := h, toks := tk }) :
    CompSrc prog w A h₀ L m env elt x scope cl (fun s₂ => FinE h₀ L m s₂ Q) (.ref r) s := by
  have hsz : Builtin.Range.rangeSize lo hi 1 = ((hi - lo).toNat : Int) := by rw [rangeSize_one]; split <;> omega
  refine CompSrc.range hh F N hr (small_one (by omega) (by omega) (by omega) (by omega)) hsz (by unfold sizeLine; omega) fun g => ?_
  exact rest_inv (s := { s with heap := g }) (hi - lo).toNat J (fun _ _ _ _ => trivial) (fun i v I oI C oC D m₂ h tk ys news => turn i v I oI C oC D m₂ h tk ys news) (fun ys news' hj D h tk F' N' o1 => fin ys news' D h tk hj F' N' (off1_mem o1)) _ 0 [] news (by omega) hj
theorem src_list {elt : PySem.Expr} {x : Str} {scope : Scope} {cl : List (Str × Addr)} {Q : Value → Shared → Prop} {ax : Addr} {its : Array Value}
    (hh : A.handled = none) (F : Fr h₀ L s.heap m) (N : News h₀ L s.heap news) (hz : its.size ≤ 1000000)
    (J : Nat → List Value → List (Addr × Obj) → Prop) (hj : J 0 [] news) (hS : ∀ i ys news', J i ys news' → SrcAt h₀ ax its news')
    (turn : Turn1 prog w A h₀ L m env elt x scope cl its.size (fun i v => its[i]? = some v) J s)
    (fin : ∀ ys news' D h tk, J its.size ys news' → Fr h₀ L h m → News h₀ L h ((D, lst ys) :: news') → (∀ p ∈ news', p.1 ≠ D) → Q (.ref D) { s with heap := h, toks := tk }) :
    CompSrc prog w A h₀ L m env elt x scope cl (fun s₂ => FinE h₀ L m s₂ Q) (.ref ax) s := by
  refine .inl ⟨ax, its, news, rfl, hh, F, N, hS _ _ _ hj, by unfold sizeLine; omega, ?_⟩
  rintro _ ⟨g, rfl⟩
  exact rest_inv (s := { s with heap := g }) its.size J hS (fun i v I oI C oC D m₂ h tk ys news => turn i v I oI C oC D m₂ h tk ys news) (fun ys news' hj D h tk F' N' o1 => fin ys news' D h tk hj F' N' (off1_mem o1)) _ 0 [] news (by omega) hj
/-- the frame's own three names at once -/
theorem wp_assign3 {a b c : Str} {pa pb pc tp : Pos} {kk : Nat} {T : Addr} {x y z : Value} {Q : Unit → Shared → Prop} (hh : A.handled = none) (ht : s.heap.IsTuple T #[x, y, z]) (hL : env.locals = L)
    (F : Fr h₀ L s.heap m) (N : News h₀ L s.heap news)
    (h : ∀ h' tk, Fr h₀ L h' (up (up (up m a x) b y) c z) → News h₀ L h' news → Q () { s with heap := h', toks := tk })
    (ha : env.kindOf a = some .local) (hb : env.kindOf b = some .local) (hc : env.kindOf c = some .local) (hp : (env.scope.kind == .class || (env.scope.kind == .module && env.locals != env.globals)) = false) :
    wpAny (model prog w) A (assign (.Tuple [.Name a pa, .Name b pb, .Name c pc] kk tp) env (.ref T)) Q E s := by
  subst hL
  refine assign3 hh ht ha hb hc hp F.ns fun h' tk hn hk => h h' tk ⟨hn, fun d o e => hk d o (fun q => ?_) (F.keep d o e), F.above⟩ (fun p hp => ⟨hk _ _ (N p hp).2.1 (N p hp).1, (N p hp).2⟩)
  rw [q, Heap.get?_none_of_le F.above] at e; cases e
/-- two lists as one -/
theorem ls_add {a b : Addr} {vs ws : List Value} {n k : Nat} {Q : Value → Shared → Prop} (F : Fr h₀ L s.heap m) (N : News h₀ L s.heap news) (ha : (a, listOf vs.toArray n) ∈ news) (hb : (b, listOf ws.toArray k) ∈ news) (hz : vs.length + ws.length ≤ 1000000)
    (h : ∀ D h', Fr h₀ L h' m → News h₀ L h' ((D, listOf (vs ++ ws).toArray 0) :: news) → (∀ p ∈ news, p.1 < D) → Q (.ref D) { s with heap := h' }) : wpAny (model prog w) A (binaryOp .Add (.ref a) (.ref b)) Q E s :=
  kmk_add_lit F N (News.isList N ha) (News.isList N hb) rfl h (by show vs.length + ws.length ≤ _; unfold sizeLine; omega)
theorem fmod13 (a : Int) : 0 ≤ a.fmod 13 ∧ a.fmod 13 < 13 := ⟨Int.fmod_nonneg_of_pos _ (by decide), Int.fmod_lt_of_pos _ (by decide)⟩
/-- in with two cells -/
theorem enter_cells2 {name : Str} {params : Arguments} {body : List Stmt} {scope : Scope} {R : Result → Shared → Prop}
    {pm cd doc : Value} {a : Addr} {o : Obj} {args : List Value} (binds : List (Str × Value)) (n1 n2 : Str) (v1 v2 : Option Value) (m : Str → Option Value)
    (hroom : A.depth < recursionLimit) (ho : s.heap.get? a = some o) (hdata : o.data = .func (Calls.docDef name params body scope pm cd doc)) (hlim : s.heap.NoLimit) (hcd : s.heap.CodeRec cd name)
    (hbind : bindArgs (Calls.docDef name params body scope pm cd doc) ⟨args, []⟩ = pure binds)
    (hkind : ∀ x ∈ binds, scope.names.lookup x.1 = some .local ∨ (scope.names.lookup x.1 = some .cell ∧ ((cellsFrom (s.heap.objs.size + 1) scope.names []).lookup x.1).isSome = true))
    (hcs : ∀ k, cellsFrom k scope.names [] = [(n2, k + 1), (n1, k)]) (hne : n2 ≠ n1)
    (hm : bindL (envOfC name scope s.heap.objs.size a cd).kindOf binds (fun _ => none) = m)
    (h1 : bindC (envOfC name scope s.heap.objs.size a cd).kindOf binds (fun _ => none) n1 = v1) (h2 : bindC (envOfC name scope s.heap.objs.size a cd).kindOf binds (fun _ => none) n2 = v2)
    (h : ∀ L h₁ tk o1 o2, L = s.heap.objs.size → Fr s.heap L h₁ m → News s.heap L h₁ [(L + 1 + 1, o2), (L + 1, o1)] → o1.data = .cell v1 → o2.data = .cell v2 →
      wpAny (model prog w) (A.deeper (envOfC name scope L a cd)) (execs body (envOfC name scope L a cd))
        (fun f s' => Stop (R (.ok (.ret (match f with | .ret v => v | _ => .none))) s')) Nope { s with heap := h₁, toks := tk })
    (hco : scope.isCoroutine = false := by rfl) (hgen : scope.isGenerator = false := by rfl) (hk : scope.kind = .function := by rfl) :
    codeAny (model prog w) A (.call (.ref a) ⟨args, []⟩) R s := by
  refine call_cellsN_ret hroom ho hdata hlim hcd hbind hkind (by rw [hcs]; simpa using hne) (fun h₁ tk cells F N Y => ?_) hco hgen hk
  rw [hcs] at Y
  obtain ⟨o2, o1, rfl, d2, d1⟩ := CellsAre.two Y
  exact h _ h₁ tk o1 o2 rfl (hm ▸ F) N (h1 ▸ d1) (h2 ▸ d2)
end
end Mine
end
-- part: Hand
section
open PySem PySem.W PyProof.Rows PySem.Calls PySem.Spec PyProof.Rows.LCg
set_option maxRecDepth 100000
set_option maxHeartbeats 2000000
set_option linter.unusedVariables false
namespace Mine
local macro_rules | `(tactic| walk_at "go") => `(tactic| repeat' (first | (k_unfold; (try dsimp only)) | walk1 | (dsimp only; walk1) | (leave1; try dsimp only) | fail "no step"))
local macro_rules | `(tactic| k_all) => `(tactic| with_reducible assumption)
local macro_rules | `(tactic| walk_at "call builtin:list.append") => `(tactic| (k_here; (with_reducible show wpAny _ _ (call (Value.builtin _) [Value.ref _, _]) _ _ _); k_dflt (refine' ls_append ?F ?N ?U ?z ?_; (case F => k_asm); (case N => k_asm); (case U => k_upd); (case z => omega)); intro h' F' N'))
local macro_rules | `(tactic| walk_at "setItem ref int") => `(tactic| (k_here; (with_reducible show wpAny _ _ (setItem (Value.ref _) (Value.int _ _) (Value.ref _)) _ _ _); k_dflt (refine' ls_set ?F ?N ?U ?a ?b ?z ?_; (case F => k_asm); (case N => k_asm); (case U => k_upd); (case a => omega); (case b => (simp only [List.length_cons]; omega)); (case z => (simp only [List.length_cons]; omega))); intro h' F' N'))
local macro_rules | `(tactic| walk_at "eval ListComp") => `(tactic| (k_here; k_dflt (refine listComp_S (F₀ := by k_asm) (by with_unfolding_all rfl) (by decide) (by rfl) (by decide) (by rfl) ?_)))
local macro_rules | `(tactic| walk_at "binaryOp Add ref ref") => `(tactic| (k_here; (with_reducible show wpAny _ _ (binaryOp _ (Value.ref _) (Value.ref _)) _ _ _); k_dflt (refine' ls_add ?F ?N ?a ?b ?z ?_; (case F => k_asm); (case N => k_asm); (case a => k_mem); (case b => k_mem); (case z => omega)); intro D' h' F' N' l1))
def mH (ra : Addr) (o0 o1 o2 o3 : Option Value) : Str → Option Value :=
  upo (upo (upo (upo (mp [(Str.ofString "rows", .ref ra)]) (Str.ofString "raw") o0) (Str.ofString "column") o1) (Str.ofString "title") o2) (Str.ofString "bits") o3
theorem mH_start {ra : Addr} : mp [(Str.ofString "rows", .ref ra)] = mH ra none none none none := by
  unfold mH
  rw [upo_none rfl, upo_none rfl, upo_none rfl, upo_none rfl]
theorem mH_raw {ra : Addr} {o0 o1 o2 o3 : Option Value} {v : Value} : up (mH ra o0 o1 o2 o3) (Str.ofString "raw") v = mH ra (some v) o1 o2 o3 := by
  funext y
  by_cases e : y = Str.ofString "raw"
  · subst e; rfl
  simp only [mH, up, upo, e, if_false]
theorem mH_three {ra : Addr} {o0 o1 o2 o3 : Option Value} {v1 v2 v3 : Value} : up (up (up (mH ra o0 o1 o2 o3) (Str.ofString "column") v1) (Str.ofString "title") v2) (Str.ofString "bits") v3 = mH ra o0 (some v1) (some v2) (some v3) := by
  funext y
  by_cases e1 : y = Str.ofString "bits"
  · subst e1; rfl
  by_cases e2 : y = Str.ofString "title"
  · subst e2; rfl
  by_cases e3 : y = Str.ofString "column"
  · subst e3; rfl
  simp only [mH, up, upo, e1, e2, e3, if_false]
theorem OutR.good {total : Int} {rs : List Row} (h : OutR total rs) (h0 : 0 ≤ total) (h1 : total < 1000000000) : ∀ r ∈ rs, GoodRow r := by
  obtain ⟨x0, rest, rfl, hx0, hg, _, _⟩ := h
  intro r hr
  rcases List.mem_cons.1 hr with rfl | hr
  · exact ⟨⟨h0, by show total < _; omega⟩, .inr ⟨hx0, by show (0 : Int) ≤ 0; decide, by show (0 : Int) ≤ 48; decide⟩⟩
  · exact hg r hr
/-- what it writes, the last rows aside -/
def HandP (mg : Int) (rs raw : List Row) : Prop := ∃ c0 t0 b0 pre mid, raw = (c0, t0, b0) :: (pre ++ mid) ∧ (0 ≤ c0 ∧ c0 < 20) ∧ (0 ≤ b0 ∧ b0 < 100000000000000) ∧ (∀ q ∈ pre, Bl mg q) ∧ pre.length ≤ 2 ∧
  ((∃ r0 rest, rs = r0 :: rest ∧ t0 = r0.2.1 ∧ pre = [] ∧ Maps mg rest mid) ∨ (t0 = Str.ofString "" ∧ Maps mg rs mid))
theorem news_rot3 {h₀ h : Heap} {L : Addr} {a b c e : Addr × Obj} {T : List (Addr × Obj)} (N : News h₀ L h (e :: a :: b :: c :: T)) : News h₀ L h (a :: b :: c :: e :: T) := by
  intro p hp
  refine N p ?_
  simp only [List.mem_cons] at hp ⊢
  rcases hp with h | h | h | h | h <;> simp [h]
theorem news_rot6 {h₀ h : Heap} {L : Addr} {a b c d e f g : Addr × Obj} {T : List (Addr × Obj)} (N : News h₀ L h (g :: a :: b :: c :: d :: e :: f :: T)) : News h₀ L h (a :: b :: c :: d :: e :: f :: g :: T) := by
  intro p hp
  refine N p ?_
  simp only [List.mem_cons] at hp ⊢
  rcases hp with h | h | h | h | h | h | h | h <;> simp [h]
theorem news_pick5 {h₀ h : Heap} {L : Addr} {a b c d e f : Addr × Obj} {T : List (Addr × Obj)} (N : News h₀ L h (a :: b :: c :: d :: e :: f :: T)) : News h₀ L h (a :: e :: f :: c :: T) := by
  intro p hp
  refine N p ?_
  simp only [List.mem_cons] at hp ⊢
  rcases hp with h | h | h | h | h <;> simp [h]
theorem news_drop2 {h₀ h : Heap} {L : Addr} {a b c : Addr × Obj} {T : List (Addr × Obj)} (N : News h₀ L h (a :: b :: c :: T)) : News h₀ L h (a :: T) := by
  intro p hp
  refine N p ?_
  simp only [List.mem_cons] at hp ⊢
  rcases hp with h | h <;> simp [h]
theorem comp_off {I C E b : Addr} {o : Obj} {x y z : Addr × Obj} {T : List (Addr × Obj)} (off : ∀ p ∈ x :: y :: z :: T, p.1 ≠ I ∧ p.1 ≠ C ∧ p.1 ≠ E) (h1 : I < b) (h2 : C < b) (h3 : E < b) : ∀ p ∈ x :: y :: z :: (b, o) :: T, p.1 ≠ I ∧ p.1 ≠ C ∧ p.1 ≠ E := by
  intro p hp
  simp only [List.mem_cons] at hp
  rcases hp with h | h | h | h | h
  · exact off p (by simp [h])
  · exact off p (by simp [h])
  · exact off p (by simp [h])
  · subst h; exact ⟨Nat.ne_of_gt h1, Nat.ne_of_gt h2, Nat.ne_of_gt h3⟩
  · exact off p (by simp [h])
theorem news_rot4 {h₀ h : Heap} {L : Addr} {a b c d e : Addr × Obj} {T : List (Addr × Obj)} (N : News h₀ L h (e :: a :: b :: c :: d :: T)) : News h₀ L h (a :: b :: c :: d :: e :: T) := by
  intro p hp
  refine N p ?_
  simp only [List.mem_cons] at hp ⊢
  rcases hp with h | h | h | h | h | h <;> simp [h]
theorem hand_call {w : World} {mean : ExcName → Option Value} {mg mb : Str → Option Value} {A : Around} {s : Shared} {ra : Addr} {ws : List Value} {TT : List (Addr × Obj)} {rs : List Row} {total seed : Int} {t : Tok} {R : Result → Shared → Prop}
   (hr : Rdy w mean mg mb s.heap) (hA : A.handled = none) (hdp : A.depth + 20 < recursionLimit) (hun : A.units + 100 < cLine)
   (hl : s.heap.IsList ra ws.toArray) (hT : ∀ p ∈ TT, s.heap.get? p.1 = some p.2) (hRI : RowsIn TT ws rs) (hO : OutR total rs) (ht0 : 0 ≤ total) (ht1 : total < 1000000000) (hs0 : 0 ≤ seed) (hs1 : seed < 1000000000)
   (hR : ∀ h' tk D ws' n TT' raw, Keep s.heap h' → (∀ p ∈ (D, listOf (List.toArray ws') n) :: TT', h'.get? p.1 = some p.2 ∧ s.heap.get? p.1 = none) → RowsIn TT' ws' raw → AllTup TT' → HandR (seed.fmod 13) rs raw → R (.ok (.ret (.ref D))) { s with heap := h', toks := tk }) :
   codeAny (model PySem.Challenge.rw_lg0024_01.row.prog w) A (.call (.ref 47) ⟨[.ref ra, .int seed t], []⟩) R s := by
  have KX := hr.k
  have T := hr.t
  revert KX; k_fill; intro KX
  refine enter_cells2 [(Str.ofString "rows", .ref ra), (Str.ofString "seed", .int seed t)] (Str.ofString "seed") (Str.ofString "margin") (some (.int seed t)) none (mp [(Str.ofString "rows", .ref ra)]) (by omega) (hr.k 47 _ (by with_unfolding_all rfl)) (by with_unfolding_all rfl) hr.t.nolimit (by exact codeRec_of hr.k (by k_is)) rfl ?_ (fun _ => rfl) (by decide) ?_ ?_ ?_ ?_
  · intro x hx
    rcases List.mem_cons.1 hx with rfl | hx
    · exact .inl rfl
    · rcases List.mem_cons.1 hx with rfl | hx
      · exact .inr ⟨rfl, rfl⟩
      · cases hx
  · funext y
    by_cases e : y = Str.ofString "rows"
    · subst e; rfl
    · show (if y = Str.ofString "rows" then _ else none) = List.lookup y [(Str.ofString "rows", _)]
      have e' : (y == Str.ofString "rows") = false := by simpa using e
      rw [if_neg e, List.lookup_cons, e']; rfl
  · rfl
  · rfl
  intro L h₁ tk oS oM hL F N hoS hoM
  generalize hmar : seed.fmod 13 = mar at hR
  have hm0 : 0 ≤ mar ∧ mar < 13 := hmar ▸ fmod13 seed
  refine cut_cons (fun s' => ∃ h tk oM, s' = { s with heap := h, toks := tk } ∧ Fr s.heap L h (mH ra none none none none) ∧ News s.heap L h [(L + 1 + 1, oM), (L + 1, oS)] ∧ ∃ u, oM.data = .cell (some (.int mar u))) ?_ ?_
  · walk_at "go"
    (show Stop _)
    rename Fr _ _ _ _ => F2
    rename News _ _ _ _ => N2
    rename (Obj.data _ = _) => d2
    rw [hmar] at d2
    exact ⟨_, _, _, rfl, frMap mH_start F2, N2, _, d2⟩
  clear F N hoM
  rintro _ ⟨h, tk, oM, rfl, F, N, u, hoM⟩
  refine cut_cons (fun s' => ∃ h tk D, s' = { s with heap := h, toks := tk } ∧ Fr s.heap L h (mH ra (some (.ref D)) none none none) ∧ News s.heap L h [(D, listOf (List.toArray []) 0), (L + 1 + 1, oM), (L + 1, oS)]) ?_ ?_
  · walk_at "go"
    (show Stop _)
    rename Fr _ _ _ _ => F2
    rename News _ _ _ _ => N2
    exact ⟨_, _, _, rfl, frMap mH_raw F2, N2⟩
  clear F N
  rintro _ ⟨h, tk, D, rfl, F, N⟩
  have hwl : ws.length = rs.length := hRI.length
  have hrl : rs.length ≤ 18 := by obtain ⟨x0, rest, rfl, _, _, _, e⟩ := hO; simp; omega
  have hgood : ∀ r ∈ rs, GoodRow r := hO.good ht0 ht1
  refine cut_cons (fun s' => ∃ h tk ws' nr TT2 raw o1 o2 o3, s' = { s with heap := h, toks := tk } ∧ Fr s.heap L h (mH ra (some (.ref D)) o1 o2 o3) ∧ News s.heap L h ((D, listOf (List.toArray ws') nr) :: (L + 1 + 1, oM) :: (L + 1, oS) :: TT2) ∧ RowsIn TT2 ws' raw ∧ AllTup TT2 ∧ Maps mar rs raw) ?_ ?_
  · refine wpAny_For (wp_cut (fun v s' => v = .ref ra ∧ ∃ h tk, s' = { s with heap := h, toks := tk } ∧ Fr s.heap L h (mH ra (some (.ref D)) none none none) ∧ News s.heap L h [(D, listOf (List.toArray []) 0), (L + 1 + 1, oM), (L + 1, oS)]) ?_ ?_) (by intro _; rfl)
    · walk_at "go"
      (show Stop _)
      exact ⟨rfl, _, _, rfl, F, N⟩
    clear F N
    rintro _ _ ⟨rfl, h, tk, rfl, F, N⟩
    refine for_list (h₀ := s.heap) (L := L) (by exact hA) (items := ws.toArray) (fun i m' news' => ∃ ws' nr TT2 raw o1 o2 o3, news' = (D, listOf (List.toArray ws') nr) :: (L + 1 + 1, oM) :: (L + 1, oS) :: TT2 ∧ m' = mH ra (some (.ref D)) o1 o2 o3 ∧ RowsIn TT2 ws' raw ∧ AllTup TT2 ∧ Maps mar (rs.take i) raw) ?_ ?_ ?_ ?_ F N ⟨[], 0, [], [], none, none, none, rfl, rfl, .nil, (fun p hp => absurd hp List.not_mem_nil), .nil⟩
    · rintro i h m' news' - F -
      obtain ⟨o, e, r⟩ := hl
      exact ⟨o, F.keep _ _ e, r⟩
    · rintro i m' news' ⟨ws', nr, TT2, raw, o1, o2, o3, rfl, -, -, hTT, -⟩ p hp
      rcases List.mem_cons.1 hp with rfl | hp
      · exact .inl (list_cls (by decide))
      rcases List.mem_cons.1 hp with rfl | hp
      · exact .inr ⟨_, hoM⟩
      rcases List.mem_cons.1 hp with rfl | hp
      · exact .inr ⟨_, hoS⟩
      · exact .inl (by rw [hTT p hp]; decide)
    · clear F N
      rintro I i h tk m' news' o v hi ⟨ws', nr, TT2, raw, o1, o2, o3, rfl, rfl, hRI2, hTT, hM⟩ hv ho F N
      have hi2 : i < rs.length := by simp at hi; omega
      obtain ⟨r, hri⟩ : ∃ r, rs[i]? = some r := ⟨_, List.getElem?_eq_getElem hi2⟩
      obtain ⟨b, t1, t2, t3, hb, hbT⟩ := hRI.at hri
      obtain rfl : v = .ref b := by simp at hv hb; rw [hv] at hb; injection hb
      have hg := hgood r (List.mem_of_getElem? hri)
      have hw2 : ws'.length ≤ 1000 := by rw [hRI2.length, hM.length]; simp; omega
      have hTI : ∀ p ∈ TT2, p.1 ≠ I := allTup_ne N (.head _) (fun p hp => .tail _ (.tail _ (.tail _ (.tail _ hp)))) hTT (by rw [ho.1]; decide)
      have hTD : ∀ p ∈ TT2, p.1 ≠ D := allTup_ne N (.tail _ (.head _)) (fun p hp => .tail _ (.tail _ (.tail _ (.tail _ hp)))) hTT (list_cls (by decide))
      have hID : @Ne Nat I D := news_apart N (.head _) (.tail _ (.head _)) (by rw [ho.2]; intro e; cases e)
      have hIM : @Ne Nat I (L + 1 + 1) := news_apart N (.head _) (.tail _ (.tail _ (.head _))) (by rw [ho.2, hoM]; intro e; cases e)
      have hIS : @Ne Nat I (L + 1) := news_apart N (.head _) (.tail _ (.tail _ (.tail _ (.head _)))) (by rw [ho.2, hoS]; intro e; cases e)
      have hDM : @Ne Nat D (L + 1 + 1) := news_apart N (.tail _ (.head _)) (.tail _ (.tail _ (.head _))) (by rw [hoM]; intro e; cases e)
      have hDS : @Ne Nat D (L + 1) := news_apart N (.tail _ (.head _)) (.tail _ (.tail _ (.tail _ (.head _)))) (by rw [hoS]; intro e; cases e)
      refine wpAny_letOwnedTupleGo_listiter (l := ra) (i := i + 1) ⟨o, (N _ (.head _)).1, ho.1, ho.2⟩ ?_
      refine wp_assign3 (by exact hA) (T := b) (x := .int r.1 t1) (y := .str r.2.1 t2) (z := .int r.2.2 t3) ⟨_, F.keep _ _ (hT _ hbT), rfl, _, rfl⟩ (by rfl) F N ?_ rfl rfl rfl rfl
      clear F N
      intro h tk F N
      rw [mH_three] at F
      refine wpAny_execs_cons ?_
      refine if_cut (fun b s' => (b = true ↔ r.2.1 = Str.ofString "") ∧ ∃ tk, s' = { s with heap := h, toks := tk }) ?_ ?_ ?_
      · walk_at "go"
        (show Stop _)
        exact ⟨by simp, _, rfl⟩
      · rintro _ ⟨q, tk, rfl⟩
        have q := q.1 rfl
        walk_at "go"
        (show Stop _)
        rename Fr _ _ _ _ => F2
        rename News _ _ _ _ => N2
        refine ⟨_, _, _, _, rfl, F2, news_rot4 N2, _, _, _, raw ++ [(r.2.2.fmod (mar + 1), Str.ofString "", r.2.2 + seed)], _, _, _, rfl, rfl, (hRI2.mono fun p hp => .tail _ hp).app (.cons (.head _) .nil), hTT.cons rfl, ?_⟩
        rw [List.take_add_one, hri]
        refine hM.snoc ⟨fun _ => ⟨rfl, ⟨Int.fmod_nonneg_of_pos _ (by omega), ?_⟩, ?_⟩, fun e => absurd q e, ?_⟩
        · have := Int.fmod_lt_of_pos r.2.2 (b := mar + 1) (by omega)
          show r.2.2.fmod (mar + 1) ≤ mar
          omega
        · have := hg.1; exact ⟨by show 0 ≤ r.2.2 + seed; omega, by show r.2.2 + seed < _; omega⟩
        · have := hg.1; exact ⟨by show 0 ≤ r.2.2 + seed; omega, by show r.2.2 + seed < _; omega⟩
      · rintro _ ⟨q, tk, rfl⟩
        have q : r.2.1 ≠ Str.ofString "" := fun e => by have := q.2 e; cases this
        walk_at "go"
        (show Stop _)
        rename Fr _ _ _ _ => F2
        rename News _ _ _ _ => N2
        refine ⟨_, _, _, _, rfl, F2, news_rot4 N2, _, _, _, raw ++ [(mar + r.1, r.2.1, r.2.2 + seed)], _, _, _, rfl, rfl, (hRI2.mono fun p hp => .tail _ hp).app (.cons (.head _) .nil), hTT.cons rfl, ?_⟩
        rw [List.take_add_one, hri]
        refine hM.snoc (q := (mar + r.1, r.2.1, r.2.2 + seed)) ⟨fun e => absurd e q, fun e => ⟨rfl, rfl⟩, ?_⟩
        have := hg.1; exact ⟨by show 0 ≤ r.2.2 + seed; omega, by show r.2.2 + seed < _; omega⟩
    · clear F N
      rintro h tk m' news' ⟨ws', nr, TT2, raw, o1, o2, o3, rfl, rfl, hRI2, hTT, hM⟩ F N
      (show Stop _)
      rw [List.take_of_length_le (by simp; omega)] at hM
      exact ⟨_, _, _, _, _, _, _, _, _, rfl, F, N, hRI2, hTT, hM⟩
  clear F N
  rintro _ ⟨h, tk, ws', nr, TT2, raw, o1, o2, o3, rfl, F, N, hRI2, hTT, hM⟩
  obtain ⟨x0, rest, hrs, hx0, -⟩ := hO
  subst hrs
  cases hM with
  | cons hm0' hM' =>
  rename_i q0 qs
  cases hRI2 with
  | cons hbq hRI2' =>
  rename_i bq t4 t5 t6 wq
  obtain ⟨b, t1, t2, t3, wr, rfl, hbT⟩ : ∃ b t1 t2 t3 wr, ws = .ref b :: wr ∧ (b, tupO (0, x0, total) t1 t2 t3) ∈ TT := by
    cases hRI with
    | cons hm h => exact ⟨_, _, _, _, _, rfl, hm⟩
  have hTb : s.heap.IsTuple b #[.int 0 t1, .str x0 t2, .int total t3] := ⟨_, hT _ hbT, rfl, _, rfl⟩
  have hql : qs.length ≤ 17 := by have := hM'.length; simp at hrl; omega
  have hwq : wq.length = qs.length := hRI2'.length
  have hs26 : 0 ≤ (seed.fdiv 26).fmod 20 ∧ (seed.fdiv 26).fmod 20 < 20 := ⟨Int.fmod_nonneg_of_pos _ (by decide), Int.fmod_lt_of_pos _ (by decide)⟩
  have hTD : ∀ p ∈ TT2, p.1 ≠ D := allTup_ne N (.head _) (fun p hp => .tail _ (.tail _ (.tail _ hp))) hTT (list_cls (by decide))
  have hDM : @Ne Nat D (L + 1 + 1) := news_apart N (.head _) (.tail _ (.head _)) (by rw [hoM]; intro e; cases e)
  have hDS : @Ne Nat D (L + 1) := news_apart N (.head _) (.tail _ (.tail _ (.head _))) (by rw [hoS]; intro e; cases e)
  refine cut_cons (fun s' => ∃ h tk D ws' nr TT2 raw, s' = { s with heap := h, toks := tk } ∧ Fr s.heap L h (mH ra (some (.ref D)) o1 o2 o3) ∧ News s.heap L h ((D, listOf (List.toArray ws') nr) :: (L + 1 + 1, oM) :: (L + 1, oS) :: TT2) ∧ RowsIn TT2 ws' raw ∧ AllTup TT2 ∧ HandP mar ((0, x0, total) :: rest) raw) ?_ ?_
  · refine if_cut (fun b s' => ∃ tk, s' = { s with heap := h, toks := tk }) ?_ ?_ ?_
    · walk_at "go"
      all_goals exact ⟨_, rfl⟩
    · rintro _ ⟨tk, rfl⟩
      walk_at "go"
      (show Stop _)
      rename Fr _ _ _ _ => F2
      rename News _ _ _ _ => N2
      refine ⟨_, _, _, _, _, _, ((seed.fdiv 26).fmod 20, x0, seed) :: ([] ++ qs), rfl, F2, news_rot3 N2, .cons (.head _) (hRI2'.mono fun p hp => .tail _ hp), hTT.cons rfl, _, _, _, [], qs, rfl, hs26, ⟨hs0, by omega⟩, by simp, by simp, .inl ⟨_, _, rfl, rfl, rfl, hM'⟩⟩
    · rintro _ ⟨tk, rfl⟩
      have hs7 : 0 ≤ (seed.fdiv 7).fmod 3 ∧ (seed.fdiv 7).fmod 3 < 3 := ⟨Int.fmod_nonneg_of_pos _ (by decide), Int.fmod_lt_of_pos _ (by decide)⟩
      refine cut_cons (fun s' => ∃ h tk D ws' nr TT3 pre, s' = { s with heap := h, toks := tk } ∧ Fr s.heap L h (mH ra (some (.ref D)) o1 o2 o3) ∧ News s.heap L h ((D, listOf (List.toArray ws') nr) :: (L + 1 + 1, oM) :: (L + 1, oS) :: TT3) ∧ RowsIn TT3 ws' (pre ++ (q0 :: qs)) ∧ AllTup TT3 ∧ (∀ q ∈ pre, Bl mar q) ∧ pre.length ≤ 2) ?_ ?_
      · walk_at "go"
        (show Stop _)
        rename IsRange _ _ _ _ _ _ _ _ => hR9
        rename Fr _ _ _ _ => F2
        rename (∀ b o, _ → _) => hk9
        rename News _ _ _ _ => N2
        clear hk9
        refine src_range (by exact hA) F2 N2 hR9 (by decide) (by decide) (by omega) (by omega) (fun i ys news' => ∃ TT3 bs, news' = (D, listOf (List.toArray (Value.ref bq :: wq)) nr) :: (L + 1 + 1, oM) :: (L + 1, oS) :: TT3 ∧ RowsIn TT3 ys bs ∧ AllTup TT3 ∧ (∀ p ∈ TT2, p ∈ TT3) ∧ (∀ q ∈ bs, Bl mar q) ∧ bs.length = i) ⟨TT2, [], rfl, .nil, hTT, fun p hp => hp, by simp, rfl⟩ ?_ ?_
        · clear F2 N2
          rintro i _ I oI C oC E m₂ h tk ys _ hi ⟨TT3, bs, rfl, hRb, hTb3, hsub, hbs, hbl⟩ ⟨ti, rfl⟩ hC hx F N off ne
          obtain ⟨ne1, ne2, ne3⟩ := ne
          walk_at "go"
          (show Stop _)
          rename Fr _ _ _ _ => F2
          rename (_ < _ ∧ _) => l1
          rename News _ _ _ _ => N2
          refine ⟨_, _, _, rfl, F2, news_rot6 N2, comp_off off l1.1 l1.2.1 l1.2.2.1, _, bs ++ [(((0 + (i : Int)) * 5).fmod (mar + 1), Str.ofString "", seed)], rfl, (hRb.mono fun p hp => .tail _ hp).app (.cons (.head _) .nil), hTb3.cons rfl, fun p hp => .tail _ (hsub p hp), ?_, by simp [hbl]⟩
          intro q hq
          rcases List.mem_append.1 hq with hq | hq
          · exact hbs q hq
          · simp at hq; subst hq
            have h9 := Int.fmod_lt_of_pos ((0 + (i : Int)) * 5) (b := mar + 1) (by omega)
            have h8 := Int.fmod_nonneg_of_pos ((0 + (i : Int)) * 5) (b := mar + 1) (by omega)
            refine ⟨rfl, ⟨?_, ?_⟩, hs0, by show seed < _; omega⟩
            · simpa using h8
            · have h7 : ((0 + (i : Int)) * 5).fmod (mar + 1) ≤ mar := by omega
              simpa using h7
        · rintro ys _ E h tk ⟨TT3, bs, rfl, hRb, hTb3, hsub, hbs, hbl⟩ F N off
          replace N : News s.heap L h ((E, listOf ys.toArray ys.length) :: (D, listOf (List.toArray (Value.ref bq :: wq)) nr) :: (L + 1 + 1, oM) :: (L + 1, oS) :: TT3) := N
          have hyl : ys.length ≤ 2 := by rw [hRb.length, hbl]; omega
          have hql2 : (Value.ref bq :: wq).length ≤ 100 := by simp; omega
          walk_at "go"
          (show Stop _)
          rename Fr _ _ _ _ => F2
          rename News _ _ _ _ => N2
          exact ⟨_, _, _, _, _, TT3, bs, rfl, frMap mH_raw F2, news_drop2 N2, hRb.app (.cons (hsub _ hbq) (hRI2'.mono hsub)), hTb3, hbs, by rw [hbl]; omega⟩
      clear F N hTD hDM hDS
      rintro _ ⟨h, tk, D, ws', nr, TT3, pre, rfl, F, N, hRI3, hTT3, hpre, hpl⟩
      have hw3 : ws'.length ≤ 100 := by rw [hRI3.length]; simp; omega
      walk_at "go"
      (show Stop _)
      rename Fr _ _ _ _ => F2
      rename News _ _ _ _ => N2
      exact ⟨_, _, _, _, _, _, ((seed.fdiv 26).fmod 20, Str.ofString "", seed) :: (pre ++ (q0 :: qs)), rfl, frMap mH_raw F2, news_pick5 N2, .cons (.head _) (hRI3.mono fun p hp => .tail _ hp), hTT3.cons rfl, _, _, _, pre, q0 :: qs, rfl, hs26, ⟨hs0, by omega⟩, hpre, hpl, .inr ⟨rfl, .cons hm0' hM'⟩⟩
  clear F N hTT hRI2' hbq hTD
  rintro _ ⟨h, tk, D, ws', nr, TT2, raw, rfl, F, N, hRI2, hTT, hH⟩
  have hs3 : 0 ≤ (seed.fdiv 3).fmod 3 ∧ (seed.fdiv 3).fmod 3 < 3 := ⟨Int.fmod_nonneg_of_pos _ (by decide), Int.fmod_lt_of_pos _ (by decide)⟩
  have hrwl : ws'.length ≤ 100 := by
    rw [hRI2.length]
    obtain ⟨c0, t0, b0, pre, mid, rfl, -, -, -, hpl, h9⟩ := hH
    rcases h9 with ⟨r0, rest', e, -, rfl, hm⟩ | ⟨-, hm⟩
    · have := hm.length; have e9 := congrArg List.length e; simp at e9 hrl ⊢; omega
    · have := hm.length; simp at this hrl ⊢; omega
  walk_at "go"
  (show Stop _)
  rename IsRange _ _ _ _ _ _ _ _ => hR9
  rename Fr _ _ _ _ => F2
  rename (∀ b o, _ → _) => hk9
  rename News _ _ _ _ => N2
  clear hk9
  refine src_range (by exact hA) F2 N2 hR9 (by decide) (by decide) (by omega) (by omega) (fun i ys news' => ∃ TT3 bs, news' = (D, listOf (List.toArray ws') nr) :: (L + 1 + 1, oM) :: (L + 1, oS) :: TT3 ∧ RowsIn TT3 ys bs ∧ AllTup TT3 ∧ (∀ p ∈ TT2, p ∈ TT3) ∧ (∀ q ∈ bs, Bl mar q) ∧ bs.length = i) ⟨TT2, [], rfl, .nil, hTT, fun p hp => hp, by simp, rfl⟩ ?_ ?_
  · clear F2 N2
    rintro i _ I oI C oC E m₂ h tk ys _ hi ⟨TT3, bs, rfl, hRb, hTb3, hsub, hbs, hbl⟩ ⟨ti, rfl⟩ hC hx F N off ne
    obtain ⟨ne1, ne2, ne3⟩ := ne
    walk_at "go"
    (show Stop _)
    rename Fr _ _ _ _ => F2
    rename (_ < _ ∧ _) => l1
    rename News _ _ _ _ => N2
    refine ⟨_, _, _, rfl, F2, news_rot6 N2, comp_off off l1.1 l1.2.1 l1.2.2.1, _, bs ++ [(((0 + (i : Int)) * 7).fmod (mar + 1), Str.ofString "", seed)], rfl, (hRb.mono fun p hp => .tail _ hp).app (.cons (.head _) .nil), hTb3.cons rfl, fun p hp => .tail _ (hsub p hp), ?_, by simp [hbl]⟩
    intro q hq
    rcases List.mem_append.1 hq with hq | hq
    · exact hbs q hq
    · simp at hq; subst hq
      have h9 := Int.fmod_lt_of_pos ((0 + (i : Int)) * 7) (b := mar + 1) (by omega)
      have h8 := Int.fmod_nonneg_of_pos ((0 + (i : Int)) * 7) (b := mar + 1) (by omega)
      refine ⟨rfl, ⟨?_, ?_⟩, hs0, by show seed < _; omega⟩
      · simpa using h8
      · have h7 : ((0 + (i : Int)) * 7).fmod (mar + 1) ≤ mar := by omega
        simpa using h7
  · rintro ys _ E h tk ⟨TT3, bs, rfl, hRb, hTb3, hsub, hbs, hbl⟩ F N off
    replace N : News s.heap L h ((E, listOf ys.toArray ys.length) :: (D, listOf (List.toArray ws') nr) :: (L + 1 + 1, oM) :: (L + 1, oS) :: TT3) := N
    have hyl : ys.length ≤ 2 := by rw [hRb.length, hbl]; omega
    walk_at "go"
    (show Stop _)
    rename Fr _ _ _ _ => F2
    rename News _ _ _ _ => N2
    refine hR _ _ _ (ws' ++ ys) 0 TT3 (raw ++ bs) F2.keep (fun p hp => ?_) ((hRI2.mono hsub).app hRb) hTb3 ?_
    · have := N2 p (by simp only [List.mem_cons] at hp ⊢; rcases hp with h | h <;> simp [h])
      exact ⟨this.1, this.2.2⟩
    · obtain ⟨c0, t0, b0, pre, mid, rfl, h1, h2, h3, h4, h5⟩ := hH
      exact ⟨c0, t0, b0, pre, mid, bs, by simp, h1, h2, h3, hbs, h4, by rw [hbl]; omega, h5⟩
end Mine
end
-- part: Plain1
section
open PySem PySem.W PyProof.Rows PySem.Builtin PySem.Builtin.Str
set_option maxRecDepth 100000
set_option maxHeartbeats 2000000
set_option linter.unusedVariables false
set_option linter.unusedSimpArgs false
namespace Mine
/-- a text's signs, and back -/
abbrev cpl (x : Str) : List Nat := x.cps.toList
abbrev mk (l : List Nat) : Str := ⟨l.toArray⟩
theorem cpl_mk (l : List Nat) : cpl (mk l) = l := by simp [cpl, mk]
theorem cpl_inj {x y : Str} (h : cpl x = cpl y) : x = y := Str.ext' (Array.toList_inj.mp h)
theorem mk_cpl (x : Str) : mk (cpl x) = x := cpl_inj (cpl_mk _)
theorem len_cpl (x : Str) : x.length = (cpl x).length := by simp [Str.length, cpl]
theorem len_mk (l : List Nat) : (mk l).length = l.length := by simp [Str.length, mk]
theorem strip_list (goes : Nat → Bool) (x : Str) : cpl (Txt.stripBy goes true false x) = (cpl x).dropWhile goes := by
  rw [PyProof.Rows.stripBy_eq]
  show (strSub x _ _).cps.toList = _
  rw [StrLaws.strSub_toList]
  simp only [stripLo, stripHi, if_true, Bool.false_eq_true, if_false]
  have e : ∀ l : List Nat, l.drop (l.takeWhile goes).length = l.dropWhile goes := by
    intro l
    induction l with
    | nil => rfl
    | cons a r ih => simp only [List.takeWhile_cons, List.dropWhile_cons]; split <;> simp [ih]
  rw [e]
  apply List.take_of_length_le
  have h1 : ((cpl x).dropWhile goes).length = (cpl x).length - ((cpl x).takeWhile goes).length := by rw [← e]; simp
  rw [h1, len_cpl]
  exact Nat.le_refl _
theorem lstripB_list (x : Str) : cpl (Txt.lstripChars x (Str.ofString " ")) = (cpl x).dropWhile (fun c => c == 32) := by
  unfold Txt.lstripChars
  rw [strip_list]
  congr 1
  funext c
  have : (Str.ofString " ").cps = #[32] := by decide
  rw [this]
  show #[32].contains c = (c == 32)
  by_cases h : c = 32 <;> simp [h]
theorem lstrip_list (x : Str) : cpl (Txt.lstrip x) = (cpl x).dropWhile Unicode.isSpace := strip_list _ x
theorem slice_list (x : Str) (k : Nat) : cpl (Txt.slice x (some (k : Int)) none) = (cpl x).drop k := by
  by_cases h : k ≤ (cpl x).length
  · have := StrLaws.sliceText_from (x := x) (i := (k : Int)) ⟨by omega, by simpa using h⟩
    have e : Txt.slice x (some (k : Int)) none = StrLaws.sliceText x (some (k : Int)) none := rfl
    rw [e, this]
    simp only [cpl, List.toList_toArray, Int.toNat_natCast]
    apply List.take_of_length_le
    simp
  · have e : Txt.slice x (some (k : Int)) none = Txt.slice x (some ((cpl x).length : Int)) none := by
      unfold Txt.slice
      have : strSliceIndices (some (k : Int)) none 1 x.length = strSliceIndices (some ((cpl x).length : Int)) none 1 x.length := by
        have hl := len_cpl x
        unfold strSliceIndices
        have h1 : max (0 : Int) (min (if (k : Int) < 0 then (k : Int) + (x.length : Int) else (k : Int)) (x.length : Int)) = max (0 : Int) (min (if ((cpl x).length : Int) < 0 then ((cpl x).length : Int) + (x.length : Int) else ((cpl x).length : Int)) (x.length : Int)) := by
          rw [if_neg (by omega), if_neg (by omega)]; omega
        simp only [show (1 : Int) > 0 by decide, if_true, h1]
      rw [this]
    have h2 := StrLaws.sliceText_from (x := x) (i := ((cpl x).length : Int)) ⟨by omega, by simp⟩
    have e2 : Txt.slice x (some ((cpl x).length : Int)) none = StrLaws.sliceText x (some ((cpl x).length : Int)) none := rfl
    rw [e, e2, h2, List.drop_eq_nil_of_le (by omega : (cpl x).length ≤ k)]
    simp
/-- rows glued by newlines -/
noncomputable def jn : List (List Nat) → List Nat
  | [] => []
  | [a] => a
  | a :: b :: r => a ++ 10 :: jn (b :: r)
theorem nl_cps : (Str.ofString "\n").cps.toList = [10] := by decide
theorem nl_one : Str.ofString "\n" = ⟨#[10]⟩ := by decide
theorem strjoin_list : ∀ l : List Str, cpl (Str.join (Str.ofString "\n") l) = jn (l.map cpl)
  | [] => rfl
  | [a] => rfl
  | a :: b :: r => by
    show cpl (a ++ Str.ofString "\n" ++ Str.join (Str.ofString "\n") (b :: r)) = cpl a ++ 10 :: jn ((b :: r).map cpl)
    rw [← strjoin_list (b :: r)]
    simp only [cpl]
    rw [cps_app, cps_app, nl_cps]
    simp
theorem join_list (l : List Str) : cpl (Txt.join (Str.ofString "\n") l) = jn (l.map cpl) := by
  rw [← strjoin_list]
  unfold Txt.join
  rw [StrLaws.glued_eq_join]
theorem jn_uniq : ∀ {l l' : List (List Nat)}, l ≠ [] → l' ≠ [] → (∀ a ∈ l, 10 ∉ a) → (∀ a ∈ l', 10 ∉ a) → jn l = jn l' → l = l'
  | [], _, h, _, _, _, _ => absurd rfl h
  | _, [], _, h, _, _, _ => absurd rfl h
  | [a], [b], _, _, _, _, e => by simpa [jn] using e
  | [a], b :: c :: r, _, _, h1, _, e => by
    exfalso
    apply h1 a (.head _)
    simp only [jn] at e
    rw [e]; simp
  | b :: c :: r, [a], _, _, _, h1, e => by
    exfalso
    apply h1 a (.head _)
    simp only [jn] at e
    rw [← e]; simp
  | a :: b :: r, a' :: b' :: r', _, _, h1, h2, e => by
    simp only [jn] at e
    have key : ∀ {x y u v : List Nat}, 10 ∉ x → 10 ∉ y → x ++ 10 :: u = y ++ 10 :: v → x = y ∧ u = v := by
      intro x
      induction x with
      | nil =>
        intro y u v _ hy e
        cases y with
        | nil => simpa using e
        | cons c y => simp at e; exact absurd (by simp [e.1]) hy
      | cons c x ih =>
        intro y u v hx hy e
        cases y with
        | nil => simp at e; exact absurd (by simp [e.1]) hx
        | cons d y =>
          simp at e
          obtain ⟨rfl, e⟩ := e
          obtain ⟨rfl, rfl⟩ := ih (fun h => hx (.tail _ h)) (fun h => hy (.tail _ h)) e
          exact ⟨rfl, rfl⟩
    obtain ⟨rfl, e2⟩ := key (h1 a (.head _)) (h2 a' (.head _)) e
    rw [jn_uniq (l := b :: r) (l' := b' :: r') (by simp) (by simp) (fun a h => h1 a (.tail _ h)) (fun a h => h2 a (.tail _ h)) e2]
/-- split is join's other side -/
theorem split_jn {x : Str} {ls : List (List Nat)} (hne : ls ≠ []) (h : ∀ a ∈ ls, 10 ∉ a) (e : cpl x = jn ls) : Txt.split x (Str.ofString "\n") = ls.map mk := by
  have h1 := StrLaws.join_split x (Str.ofString "\n")
  have h2 : ∀ p ∈ Txt.split x (Str.ofString "\n"), 10 ∉ p.cps.toList := by rw [nl_one]; exact StrLaws.split_free x 10
  have h3 := split_pos x (Str.ofString "\n")
  have h4 : jn ((Txt.split x (Str.ofString "\n")).map cpl) = jn ls := by rw [← strjoin_list, h1, e]
  have h5 : (Txt.split x (Str.ofString "\n")).map cpl = ls := by
    refine jn_uniq ?_ hne ?_ h h4
    · intro e9
      have := congrArg List.length e9
      simp at this
      rw [this] at h3; simp at h3
    · intro a ha
      obtain ⟨p, hp, rfl⟩ := List.mem_map.1 ha
      exact h2 p hp
  rw [← h5, List.map_map]
  have : (mk ∘ cpl) = _root_.id := by funext y; exact mk_cpl y
  rw [this]; simp
/-- tabs, row by row -/
theorem exS_jn : ∀ ls : List (List Nat), exS (jn ls) 0 = jn (ls.map (fun a => exS a 0))
  | [] => rfl
  | [a] => rfl
  | a :: b :: r => by
    show exS (a ++ 10 :: jn (b :: r)) 0 = exS a 0 ++ 10 :: jn ((b :: r).map (fun a => exS a 0))
    rw [← exS_jn (b :: r), exS_append]
    simp [exS]
end Mine
end
-- part: Plain2
section
open PySem PySem.W PyProof.Rows
set_option maxRecDepth 100000
set_option maxHeartbeats 2000000
set_option linter.unusedVariables false
set_option linter.unusedSimpArgs false
namespace Mine
/-- blanks, then a title -/
def rowL (k : Nat) (t : Str) : List Nat := List.replicate k 32 ++ cpl t
def rowS (k : Nat) (t : Str) : Str := mk (rowL k t)
theorem cpl_rowS (k : Nat) (t : Str) : cpl (rowS k t) = rowL k t := cpl_mk _
theorem cpl_nil : cpl (Str.ofString "") = [] := by decide
/-- a title or nothing -/
def TiO (t : Str) : Prop := t = Str.ofString "" ∨ IsTi t
theorem dropW_rep (p : Nat → Bool) (h : p 32 = true) (k : Nat) (l : List Nat) : (List.replicate k 32 ++ l).dropWhile p = l.dropWhile p := by
  induction k with
  | zero => rfl
  | succ k ih => rw [List.replicate_succ, List.cons_append, List.dropWhile_cons_of_pos h, ih]
theorem lstripB_row {k : Nat} {t : Str} (ht : TiO t) : Txt.lstripChars (rowS k t) (Str.ofString " ") = t := by
  apply cpl_inj
  rw [lstripB_list, cpl_rowS, rowL, dropW_rep _ (by rfl)]
  rcases ht with rfl | ⟨a, b, c, rfl, ha, -⟩
  · rw [cpl_nil]; rfl
  · show List.dropWhile _ [a, b, c] = [a, b, c]
    rw [List.dropWhile_cons_of_neg (by simpa using ha.1)]
theorem cont_row {k : Nat} {t : Str} (ht : TiO t) : cont (rowS k t) = t.length := by unfold cont; rw [lstripB_row ht]
theorem len_row (k : Nat) (t : Str) : (rowS k t).length = k + t.length := by
  rw [len_cpl, cpl_rowS, rowL, List.length_append, List.length_replicate, ← len_cpl]
theorem len_nil : (Str.ofString "").length = 0 := by decide
theorem len_ti {t : Str} (h : IsTi t) : t.length = 3 := by obtain ⟨a, b, c, rfl, _⟩ := h; rfl
theorem marg_nil (m : Int) (k : Nat) : margF m (rowS k (Str.ofString "")) = m := by
  unfold margF; rw [cont_row (.inl rfl), len_nil]; simp
theorem marg_ti {m : Int} {k : Nat} {t : Str} (h : IsTi t) : margF m (rowS k t) = min m (k : Int) := by
  unfold margF; rw [cont_row (.inr h), len_ti h, len_row, len_ti h]; simp
/-- rows as a hand writes them, its margin m -/
def RowOk (m : Nat) (p : Nat × Str) : Prop := p.2 = Str.ofString "" ∨ (IsTi p.2 ∧ m ≤ p.1)
theorem fold_marg {m : Nat} : ∀ {l : List (Nat × Str)} {acc : Int}, (m : Int) ≤ acc → (∀ p ∈ l, RowOk m p) → (acc = m ∨ ∃ p ∈ l, IsTi p.2 ∧ p.1 = m) → (l.map (fun p => rowS p.1 p.2)).foldl margF acc = m
  | [], acc, h0, _, h => by
    rcases h with h | ⟨p, hp, _⟩
    · exact h
    · cases hp
  | p :: l, acc, h0, hok, h => by
    rw [List.map_cons, List.foldl_cons]
    rcases hok p (.head _) with e | ⟨ht, hk⟩
    · rw [e, marg_nil]
      refine fold_marg h0 (fun q hq => hok q (.tail _ hq)) ?_
      rcases h with h | ⟨q, hq, h1, h2⟩
      · exact .inl h
      · rcases List.mem_cons.1 hq with rfl | hq
        · exact absurd e h1.ne
        · exact .inr ⟨q, hq, h1, h2⟩
    · rw [marg_ti ht]
      refine fold_marg (by omega) (fun q hq => hok q (.tail _ hq)) ?_
      rcases h with h | ⟨q, hq, h1, h2⟩
      · exact .inl (by omega)
      · rcases List.mem_cons.1 hq with rfl | hq
        · exact .inl (by omega)
        · exact .inr ⟨q, hq, h1, h2⟩
theorem cut_nil {m k : Nat} (h : k ≤ m) : cutF (m : Int) (rowS k (Str.ofString "")) = Str.ofString "" := by
  apply cpl_inj
  unfold cutF
  rw [slice_list, cpl_rowS, rowL, cpl_nil, List.append_nil, List.drop_eq_nil_of_le (by simpa using h)]
theorem cut_ti {m k : Nat} {t : Str} : cutF (m : Int) (rowS (m + k) t) = rowS k t := by
  apply cpl_inj
  unfold cutF
  rw [slice_list, cpl_rowS, cpl_rowS, rowL, rowL, List.drop_append_of_le_length (by simp)]
  simp
/-- an outline's row, laid out -/
def dueS (r : Row) : Str := rowS r.1.toNat r.2.1
theorem emp_nil : emp (Str.ofString "") = true := by decide
theorem emp_due {r : Row} (h : IsTi r.2.1) : emp (dueS r) = false := by
  unfold emp dueS; rw [len_row, len_ti h]; simp
theorem rdrop_emps {X : List Str} : ∀ {n : Nat}, rdrop (X ++ List.replicate n (Str.ofString "")) = rdrop X
  | 0 => by simp
  | n + 1 => by rw [List.replicate_succ', ← List.append_assoc, rdrop_emp (by decide), rdrop_emps]
theorem drop_emps {X : List Str} : ∀ {n : Nat}, (List.replicate n (Str.ofString "") ++ X).dropWhile emp = X.dropWhile emp
  | 0 => by simp
  | n + 1 => by rw [List.replicate_succ, List.cons_append, List.dropWhile_cons_of_pos emp_nil, drop_emps]
theorem cut_bls {m : Nat} : ∀ {l : List Row}, (∀ q ∈ l, Bl (m : Int) q) → (l.map dueS).map (cutF (m : Int)) = List.replicate l.length (Str.ofString "")
  | [], _ => rfl
  | q :: l, h => by
    have h1 := h q (.head _)
    rw [List.map_cons, List.map_cons, cut_bls (fun p hp => h p (.tail _ hp)), List.length_cons, List.replicate_succ]
    congr 1
    unfold dueS
    rw [h1.1]
    exact cut_nil (by have := h1.2.1; omega)
theorem cut_maps {m : Nat} {rs qs : List Row} (hg : ∀ r ∈ rs, GoodRow r) (hM : Maps (m : Int) rs qs) : (qs.map dueS).map (cutF (m : Int)) = rs.map dueS := by
  induction hM with
  | nil => rfl
  | cons h hm ih =>
    rename_i r q rs qs
    rw [List.map_cons, List.map_cons, List.map_cons, ih (fun r hr => hg r (.tail _ hr))]
    congr 1
    rcases (hg _ (.head _)).2 with ⟨e, e0⟩ | ⟨ht, h0, _⟩
    · have hb := h.1 e
      unfold dueS
      rw [hb.1, e, e0, cut_nil (by have := hb.2.1; omega)]
      apply cpl_inj
      rw [cpl_rowS, rowL, cpl_nil]; rfl
    · obtain ⟨h1, h2⟩ := h.2.1 ht.ne
      unfold dueS
      rw [h1, h2, show ((m : Int) + r.1).toNat = m + r.1.toNat from by omega, cut_ti]
theorem ok_bl {m : Nat} {q : Row} (h : Bl (m : Int) q) : RowOk m (q.1.toNat, q.2.1) := .inl h.1
theorem ok_maps {m : Nat} {rs qs : List Row} (hg : ∀ r ∈ rs, GoodRow r) (hM : Maps (m : Int) rs qs) : ∀ q ∈ qs, RowOk m (q.1.toNat, q.2.1) := by
  induction hM with
  | nil => intro _ hq; cases hq
  | cons h hm ih =>
    rename_i r q rs qs
    intro q' hq
    rcases List.mem_cons.1 hq with rfl | hq
    · rcases (hg _ (.head _)).2 with ⟨e, e0⟩ | ⟨ht, h0, _⟩
      · exact .inl (h.1 e).1
      · obtain ⟨h1, h2⟩ := h.2.1 ht.ne
        refine .inr ⟨by show IsTi q'.2.1; rw [h1]; exact ht, ?_⟩
        show m ≤ q'.1.toNat
        rw [h2]; omega
    · exact ih (fun r hr => hg r (.tail _ hr)) q' hq
theorem least_maps {m : Nat} : ∀ {rs qs : List Row}, Maps (m : Int) rs qs → (∃ r ∈ rs, IsTi r.2.1 ∧ r.1 = 0) → ∃ q ∈ qs, IsTi q.2.1 ∧ q.1.toNat = m
  | _, _, .nil, ⟨r, hr, _⟩ => nomatch hr
  | _, _, .cons (r := r) (q := q) h hm, ⟨r', hr, ht, h0⟩ => by
    rcases List.mem_cons.1 hr with rfl | hr
    · obtain ⟨h1, h2⟩ := h.2.1 ht.ne
      exact ⟨q, .head _, by rw [h1]; exact ht, by rw [h2, h0]; omega⟩
    · obtain ⟨q', hq', h'⟩ := least_maps hm ⟨r', hr, ht, h0⟩
      exact ⟨q', .tail _ hq', h'⟩
/-- the law of the hands: what cleandoc makes of their rows is the outline -/
theorem clean_hand {m : Nat} {total : Int} {rs raw : List Row} (hO : OutR total rs) (hg : ∀ r ∈ rs, GoodRow r) (hlast : ∃ ri r, rs = ri ++ [r] ∧ r.2.1 ≠ Str.ofString "") (hm : m < 1000) (h : HandR (m : Int) rs raw) :
    cleanS (raw.map dueS) = rs.map dueS := by
  obtain ⟨c0, t0, b0, pre, mid, post, rfl, hc0, hb0, hpre, hpost, hpl, hpo, hcase⟩ := h
  obtain ⟨x0, rest, hrs, hx0, hgr, hle, hrl⟩ := hO
  have hti : ∀ r ∈ rs, r.2.1 ≠ Str.ofString "" → IsTi r.2.1 := fun r hr hne => by
    rcases (hg r hr).2 with ⟨e, _⟩ | ⟨ht, _⟩
    · exact absurd e hne
    · exact ht
  have hrd : rdrop (rs.map dueS) = rs.map dueS := by
    obtain ⟨ri, r, e, hne⟩ := hlast
    have ht := hti r (by rw [e]; simp) hne
    rw [e, List.map_append, List.map_cons, List.map_nil, rdrop_full]
    unfold dueS; rw [len_row, len_ti ht]; omega
  have hdw : (rs.map dueS).dropWhile emp = rs.map dueS := by
    rw [hrs, List.map_cons, List.dropWhile_cons_of_neg]
    rw [emp_due (r := (0, x0, total)) hx0]; decide
  have ht0 : TiO t0 := by
    rcases hcase with ⟨r0, rest', e, e2, -⟩ | ⟨e, -⟩
    · rw [hrs] at e; injection e with e3 e4; subst e3; exact .inr (e2 ▸ hx0)
    · exact .inl e
  -- the margin
  have hok : ∀ q ∈ pre ++ mid ++ post, RowOk m (q.1.toNat, q.2.1) := by
    intro q hq
    rcases List.mem_append.1 hq with hq | hq
    · rcases List.mem_append.1 hq with hq | hq
      · exact ok_bl (hpre q hq)
      · rcases hcase with ⟨r0, rest', e, -, -, hM⟩ | ⟨-, hM⟩
        · exact ok_maps (fun r hr => hg r (by rw [e]; exact .tail _ hr)) hM q hq
        · exact ok_maps hg hM q hq
    · exact ok_bl (hpost q hq)
  have hlo : ∃ q ∈ pre ++ mid ++ post, IsTi q.2.1 ∧ q.1.toNat = m := by
    have : ∃ q ∈ mid, IsTi q.2.1 ∧ q.1.toNat = m := by
      rcases hcase with ⟨r0, rest', e, -, -, hM⟩ | ⟨-, hM⟩
      · rw [hrs] at e; injection e with e3 e4; subst e4
        exact least_maps hM hle
      · refine least_maps hM ?_
        obtain ⟨r, hr, h'⟩ := hle
        exact ⟨r, by rw [hrs]; exact .tail _ hr, h'⟩
    obtain ⟨q, hq, h'⟩ := this
    exact ⟨q, by simp [hq], h'⟩
  have hfold : ((pre ++ mid ++ post).map dueS).foldl margF 9223372036854775807 = (m : Int) := by
    have e : (pre ++ mid ++ post).map dueS = ((pre ++ mid ++ post).map (fun q => (q.1.toNat, q.2.1))).map (fun p => rowS p.1 p.2) := by rw [List.map_map]; rfl
    rw [e]
    refine fold_marg (by omega) ?_ (.inr ?_)
    · intro p hp
      obtain ⟨q, hq, rfl⟩ := List.mem_map.1 hp
      exact hok q hq
    · obtain ⟨q, hq, h1, h2⟩ := hlo
      exact ⟨_, List.mem_map_of_mem hq, h1, h2⟩
  rw [List.map_cons]
  show cleanL _ _ = _
  unfold cleanL
  rw [hfold, if_pos (by omega)]
  have e0 : Txt.lstripChars (dueS (c0, t0, b0)) (Str.ofString " ") = t0 := lstripB_row ht0
  rw [e0, List.map_append, List.map_append, List.map_append, List.map_append, cut_bls hpre, cut_bls hpost]
  rcases hcase with ⟨r0, rest', e, e2, rfl, hM⟩ | ⟨rfl, hM⟩
  · rw [cut_maps (fun r hr => hg r (by rw [e]; exact .tail _ hr)) hM]
    rw [hrs] at e; injection e with e3 e4; subst e4; subst e3
    have e5 : t0 :: (List.replicate ([] : List Row).length (Str.ofString "") ++ rest.map dueS ++ List.replicate post.length (Str.ofString "")) = rs.map dueS ++ List.replicate post.length (Str.ofString "") := by
      rw [hrs, List.map_cons]
      have : dueS (0, x0, total) = t0 := by
        rw [e2]; apply cpl_inj; show cpl (rowS 0 x0) = cpl x0; rw [cpl_rowS]; rfl
      rw [this]; simp
    rw [e5, rdrop_emps, hrd, hdw]
  · rw [cut_maps hg hM]
    have e5 : Str.ofString "" :: (List.replicate pre.length (Str.ofString "") ++ rs.map dueS ++ List.replicate post.length (Str.ofString "")) = (List.replicate (pre.length + 1) (Str.ofString "") ++ rs.map dueS) ++ List.replicate post.length (Str.ofString "") := by
      rw [List.replicate_succ]; simp
    rw [e5, rdrop_emps]
    obtain ⟨ri, r, e, hne⟩ := hlast
    have ht := hti r (by rw [e]; simp) hne
    have e6 : rdrop (List.replicate (pre.length + 1) (Str.ofString "") ++ rs.map dueS) = List.replicate (pre.length + 1) (Str.ofString "") ++ rs.map dueS := by
      rw [e, List.map_append, List.map_cons, List.map_nil, ← List.append_assoc, rdrop_full]
      unfold dueS; rw [len_row, len_ti ht]; omega
    rw [e6, drop_emps, hdw]
end Mine
end
-- part: Plain3
section
open PySem PySem.W PyProof.Rows
set_option maxRecDepth 100000
set_option maxHeartbeats 2000000
set_option linter.unusedVariables false
set_option linter.unusedSimpArgs false
namespace Mine
/-- a row as written: blanks and tabs up to its column, then its title -/
def IsLine (q : Row) (x : Str) : Prop := ∃ bl, IsBl bl q.1.toNat ∧ x = bl ++ q.2.1
inductive Lines : List Row → List Str → Prop
  | nil : Lines [] []
  | cons {q x qs xs} : IsLine q x → Lines qs xs → Lines (q :: qs) (x :: xs)
theorem Lines.snoc {q : Row} {x : Str} (h : IsLine q x) : ∀ {qs xs}, Lines qs xs → Lines (qs ++ [q]) (xs ++ [x])
  | _, _, .nil => .cons h .nil
  | _, _, .cons h' m => .cons h' (m.snoc h)
theorem Lines.length : ∀ {qs xs}, Lines qs xs → xs.length = qs.length
  | _, _, .nil => rfl
  | _, _, .cons h' m => by simp [m.length]
theorem Lines.at : ∀ {qs xs} (_ : Lines qs xs) {i : Nat} {q : Row}, qs[i]? = some q → ∃ x, xs[i]? = some x ∧ IsLine q x
  | _, _, .cons (x := x) h' m, 0, q, e => by simp at e; subst e; exact ⟨x, rfl, h'⟩
  | _, _, .cons h' m, i + 1, q, e => by simp at e; simpa using m.at e
theorem ti_no {t : Str} (h : TiO t) : 9 ∉ cpl t ∧ 10 ∉ cpl t ∧ 13 ∉ cpl t := by
  rcases h with rfl | ⟨a, b, c, rfl, ha, hb, hc⟩
  · rw [cpl_nil]; simp
  · simp only [cpl]
    refine ⟨?_, ?_, ?_⟩ <;> simp only [List.mem_cons, List.not_mem_nil, or_false, not_or]
    · exact ⟨Ne.symm ha.2.1, Ne.symm hb.1, Ne.symm hc.1⟩
    · exact ⟨Ne.symm ha.2.2.1, Ne.symm hb.2.1, Ne.symm hc.2.1⟩
    · exact ⟨Ne.symm ha.2.2.2, Ne.symm hb.2.2, Ne.symm hc.2.2⟩
theorem exS_line {q : Row} {x : Str} (h : IsLine q x) (ht : TiO q.2.1) : exS (cpl x) 0 = rowL q.1.toNat q.2.1 := by
  obtain ⟨bl, hb, rfl⟩ := h
  simp only [cpl]
  rw [cps_app, exS_append, hb.ex, hb.col, exS_none _ _ (ti_no ht).1]
  rfl
theorem ex_lines : ∀ {qs xs}, Lines qs xs → (∀ q ∈ qs, TiO q.2.1) → (xs.map cpl).map (fun a => exS a 0) = qs.map (fun q => rowL q.1.toNat q.2.1)
  | _, _, .nil, _ => rfl
  | _, _, .cons h' m, ht => by
    simp only [List.map_cons]
    rw [ex_lines m (fun q hq => ht q (.tail _ hq)), exS_line h' (ht _ (.head _))]
theorem row_no {q : Row} (ht : TiO q.2.1) : 10 ∉ rowL q.1.toNat q.2.1 := by
  unfold rowL
  intro h
  rcases List.mem_append.1 h with h | h
  · have := List.eq_of_mem_replicate h; cases this
  · exact (ti_no ht).2.1 h
/-- cleandoc's rows of a written text -/
theorem split_lines {qs : List Row} {xs : List Str} (h : Lines qs xs) (ht : ∀ q ∈ qs, TiO q.2.1) (hne : qs ≠ []) : Txt.split (exT (Txt.join (Str.ofString "\n") xs)) (Str.ofString "\n") = qs.map dueS := by
  have e : cpl (exT (Txt.join (Str.ofString "\n") xs)) = jn (qs.map (fun q => rowL q.1.toNat q.2.1)) := by
    show (exT _).cps.toList = _
    rw [exT_cps]
    show exS (cpl (Txt.join (Str.ofString "\n") xs)) 0 = _
    rw [join_list, exS_jn, ex_lines h ht]
  rw [split_jn (by simpa using hne) ?_ e, List.map_map]
  · rfl
  · intro a ha
    obtain ⟨q, hq, rfl⟩ := List.mem_map.1 ha
    exact row_no (ht q hq)
theorem lead_drop : ∀ l : List Nat, (l.dropWhile Unicode.isSpace).length + leadN l = l.length
  | [] => rfl
  | c :: r => by
    simp only [leadN]
    by_cases h : Unicode.isSpace c = true
    · rw [List.dropWhile_cons_of_pos h, if_pos h, List.length_cons]; have := lead_drop r; omega
    · rw [List.dropWhile_cons_of_neg h, if_neg h]; rfl
theorem space32 : Unicode.isSpace 32 = true := by decide +kernel
/-- indentsize of a written row -/
theorem indent_line {q : Row} {x : Str} (h : IsLine q x) (ht : TiO q.2.1) (h0 : 0 ≤ q.1) : ((exT x).length : Int) - ((Txt.lstrip (exT x)).length : Int) = q.1 + (leadN (cpl q.2.1) : Int) := by
  have e : cpl (exT x) = rowL q.1.toNat q.2.1 := by
    show (exT x).cps.toList = _
    rw [exT_cps]; exact exS_line h ht
  rw [len_cpl, len_cpl, lstrip_list, e, rowL, dropW_rep _ space32]
  have := lead_drop (cpl q.2.1)
  rw [List.length_append, List.length_replicate]
  omega
theorem len_line {q : Row} {x : Str} (h : IsLine q x) : x.length ≤ q.1.toNat + q.2.1.length := by
  obtain ⟨bl, hb, rfl⟩ := h
  rw [Str.length_append]; have := hb.len; omega
theorem isBl_rep (k : Nat) : IsBl (mk (List.replicate k 32)) k := by
  have e : (mk (List.replicate k 32)).cps.toList = List.replicate k 32 := cpl_mk _
  refine ⟨?_, ?_, ?_, ?_⟩
  · intro c hc; rw [e] at hc; exact .inr (List.eq_of_mem_replicate hc)
  · rw [e, exS_none]; intro h; have := List.eq_of_mem_replicate h; cases this
  · rw [e]
    have : ∀ k j, exC (List.replicate k 32) j = j + k := by
      intro k
      induction k with
      | zero => intro j; rfl
      | succ k ih => intro j; rw [List.replicate_succ]; simp only [exC]; rw [if_neg (by decide), if_neg (by decide), ih]; omega
    rw [this]; omega
  · rw [len_mk]; simp
theorem due_line (r : Row) : IsLine r (dueS r) := by
  refine ⟨_, isBl_rep _, ?_⟩
  apply cpl_inj
  show cpl (rowS _ _) = (_ ++ _ : Str).cps.toList
  rw [cpl_rowS, cps_app]
  show _ = cpl (mk _) ++ _
  rw [cpl_mk]; rfl
theorem due_lines : ∀ rs : List Row, Lines rs (rs.map dueS)
  | [] => .nil
  | r :: rs => .cons (due_line r) (due_lines rs)
theorem good_tio {r : Row} (h : GoodRow r) : TiO r.2.1 := by
  rcases h.2 with ⟨e, _⟩ | ⟨ht, _⟩
  · exact .inl e
  · exact .inr ht
theorem maps_tio {m : Int} {rs qs : List Row} (hg : ∀ r ∈ rs, GoodRow r) (hM : Maps m rs qs) : ∀ q ∈ qs, TiO q.2.1 := by
  induction hM with
  | nil => intro _ hq; cases hq
  | cons h hm ih =>
    intro q' hq
    rcases List.mem_cons.1 hq with rfl | hq
    · rcases (hg _ (.head _)).2 with ⟨e, _⟩ | ⟨ht, _⟩
      · exact .inl (h.1 e).1
      · exact .inr ((h.2.1 ht.ne).1 ▸ ht)
    · exact ih (fun r hr => hg r (.tail _ hr)) q' hq
/-- what a hand's rows are -/
def RawOk (q : Row) : Prop := TiO q.2.1 ∧ (0 ≤ q.1 ∧ q.1 ≤ 100) ∧ (0 ≤ q.2.2 ∧ q.2.2 < 100000000000000)
theorem maps_ok {m : Int} {rs qs : List Row} (h0 : 0 ≤ m ∧ m < 13) (hg : ∀ r ∈ rs, GoodRow r) (hM : Maps m rs qs) : ∀ q ∈ qs, RawOk q := by
  induction hM with
  | nil => intro _ hq; cases hq
  | cons h hm ih =>
    intro q' hq
    rcases List.mem_cons.1 hq with rfl | hq
    · rcases (hg _ (.head _)).2 with ⟨e, _⟩ | ⟨ht, hc⟩
      · have := h.1 e
        exact ⟨.inl this.1, ⟨this.2.1.1, by have := this.2.1.2; omega⟩, this.2.2⟩
      · have := h.2.1 ht.ne
        exact ⟨.inr (this.1 ▸ ht), ⟨by rw [this.2]; omega, by rw [this.2]; omega⟩, h.2.2⟩
    · exact ih (fun r hr => hg r (.tail _ hr)) q' hq
theorem hand_ok {m : Int} {total : Int} {rs raw : List Row} (h0 : 0 ≤ m ∧ m < 13) (hO : OutR total rs) (hg : ∀ r ∈ rs, GoodRow r) (h : HandR m rs raw) : (∀ q ∈ raw, RawOk q) ∧ raw ≠ [] ∧ raw.length ≤ 30 := by
  obtain ⟨c0, t0, b0, pre, mid, post, rfl, hc0, hb0, hpre, hpost, hpl, hpo, hcase⟩ := h
  obtain ⟨x0, rest, hrs, hx0, hgr, hle, hrl⟩ := hO
  have hbl : ∀ q, Bl m q → RawOk q := fun q hq => ⟨.inl hq.1, ⟨hq.2.1.1, by have := hq.2.1.2; omega⟩, hq.2.2⟩
  refine ⟨?_, by simp, ?_⟩
  · intro q hq
    rcases List.mem_cons.1 hq with rfl | hq
    · refine ⟨?_, ⟨hc0.1, by show c0 ≤ 100; omega⟩, hb0⟩
      rcases hcase with ⟨r0, rest', e, e2, -⟩ | ⟨e, -⟩
      · rw [hrs] at e; injection e with e3 e4; subst e3; exact .inr (by show IsTi t0; rw [e2]; exact hx0)
      · exact .inl e
    · rcases List.mem_append.1 hq with hq | hq
      · rcases List.mem_append.1 hq with hq | hq
        · exact hbl q (hpre q hq)
        · rcases hcase with ⟨r0, rest', e, -, -, hM⟩ | ⟨-, hM⟩
          · exact maps_ok h0 (fun r hr => hg r (by rw [e]; exact .tail _ hr)) hM q hq
          · exact maps_ok h0 hg hM q hq
      · exact hbl q (hpost q hq)
  · have hr9 : rs.length ≤ 18 := by rw [hrs]; simp; omega
    rcases hcase with ⟨r0, rest', e, -, -, hM⟩ | ⟨-, hM⟩
    · have h1 := hM.length
      have h2 : rest'.length ≤ 17 := by rw [e] at hr9; simp at hr9; omega
      simp; omega
    · have h1 := hM.length
      simp; omega
/-- an outline is a hand's own work, at margin 0 -/
theorem maps_self {rs : List Row} (hg : ∀ r ∈ rs, GoodRow r) : Maps ((0 : Nat) : Int) rs rs := by
  induction rs with
  | nil => exact .nil
  | cons r rs ih =>
    refine .cons ?_ (ih fun r hr => hg r (.tail _ hr))
    have h := hg r (.head _)
    refine ⟨fun e => ?_, fun e => ⟨rfl, by simp⟩, h.1.1, by have := h.1.2; omega⟩
    rcases h.2 with ⟨_, e0⟩ | ⟨ht, _⟩
    · exact ⟨e, ⟨by omega, by rw [e0]; decide⟩, h.1.1, by have := h.1.2; omega⟩
    · exact absurd e ht.ne
theorem hand_self {total : Int} {rs : List Row} (hO : OutR total rs) (hg : ∀ r ∈ rs, GoodRow r) : HandR ((0 : Nat) : Int) rs rs := by
  obtain ⟨x0, rest, rfl, hx0, hgr, hle, hrl⟩ := hO
  have h0 := hg _ (.head _)
  have h1 : total < 1000000000000 := h0.1.2
  exact ⟨0, x0, total, [], rest, [], by simp, by decide, ⟨h0.1.1, by omega⟩, by simp, by simp, by simp, by simp, .inl ⟨_, _, rfl, rfl, rfl, maps_self fun r hr => hg r (.tail _ hr)⟩⟩
end Mine
end
-- part: Plain4
section
open PySem PySem.W PyProof.Rows
set_option maxRecDepth 100000
set_option maxHeartbeats 2000000
set_option linter.unusedVariables false
set_option linter.unusedSimpArgs false
namespace Mine
/-- a row of blanks -/
def blS (x : Int) : Str := rowS x.toNat (Str.ofString "")
theorem blS_zero {x : Int} (h : x ≤ 0) : blS x = Str.ofString "" := by
  apply cpl_inj
  unfold blS
  rw [cpl_rowS, rowL, cpl_nil, show x.toNat = 0 from by omega]; rfl
theorem blS_len (x : Int) : (blS x).length = x.toNat := by unfold blS; rw [len_row, len_nil]; omega
theorem emp_bl {x : Int} (h : 0 < x) : emp (blS x) = false := by unfold emp; rw [blS_len]; simp; omega
theorem fold_bl : ∀ (l : List Int) (m : Int), (l.map blS).foldl margF m = m
  | [], _ => rfl
  | x :: l, m => by rw [List.map_cons, List.foldl_cons, show margF m (blS x) = m from marg_nil m _, fold_bl]
theorem zeros {l : List Int} (h : ∀ x ∈ l, x ≤ 0) : l.map blS = List.replicate l.length (Str.ofString "") := by
  induction l with
  | nil => rfl
  | cons x l ih => rw [List.map_cons, ih (fun y hy => h y (.tail _ hy)), blS_zero (h x (.head _)), List.length_cons, List.replicate_succ]
theorem clean_blank {x0 : Int} {A M B : List Int} (hA : ∀ x ∈ A, x ≤ 0) (hB : ∀ x ∈ B, x ≤ 0) (hM : M = [] ∨ ((∃ h M', M = h :: M' ∧ 0 < h) ∧ ∃ Mi l, M = Mi ++ [l] ∧ 0 < l)) :
    cleanS ((x0 :: (A ++ M ++ B)).map blS) = M.map blS := by
  rw [List.map_cons]
  show cleanL _ _ = _
  unfold cleanL
  rw [fold_bl, if_neg (by decide)]
  have e0 : Txt.lstripChars (blS x0) (Str.ofString " ") = Str.ofString "" := lstripB_row (.inl rfl)
  rw [e0, List.map_append, List.map_append, zeros hA, zeros hB]
  have e5 : Str.ofString "" :: (List.replicate A.length (Str.ofString "") ++ M.map blS ++ List.replicate B.length (Str.ofString "")) = (List.replicate (A.length + 1) (Str.ofString "") ++ M.map blS) ++ List.replicate B.length (Str.ofString "") := by
    rw [List.replicate_succ]; simp
  rw [e5, rdrop_emps]
  rcases hM with rfl | ⟨⟨h, M', e, h0⟩, Mi, l, e', l0⟩
  · have : List.replicate (A.length + 1) (Str.ofString "") ++ List.map blS [] = [] ++ List.replicate (A.length + 1) (Str.ofString "") := by simp
    rw [this, rdrop_emps]; rfl
  · have e6 : rdrop (List.replicate (A.length + 1) (Str.ofString "") ++ M.map blS) = List.replicate (A.length + 1) (Str.ofString "") ++ M.map blS := by
      rw [e', List.map_append, List.map_cons, List.map_nil, ← List.append_assoc, rdrop_full]
      rw [blS_len]; omega
    rw [e6, drop_emps, e, List.map_cons, List.dropWhile_cons_of_neg]
    rw [emp_bl h0]; decide
/-- the places of rows that have any blank, the first row aside -/
def SomeI (ws : List Int) (n : Nat) (ks : List Int) : Prop :=
  (∀ k ∈ ks, 1 ≤ k ∧ k < 1 + (n : Int) ∧ 0 < ws.getD k.toNat 0) ∧ (∀ j : Nat, 1 ≤ j → j < 1 + n → 0 < ws.getD j 0 → (j : Int) ∈ ks) ∧ ks.Pairwise (· < ·)
theorem SomeI.zero (ws : List Int) : SomeI ws 0 [] := ⟨by simp, fun j h1 h2 => by omega, .nil⟩
theorem SomeI.skip {ws : List Int} {n : Nat} {ks : List Int} (h : SomeI ws n ks) (h0 : ¬ 0 < ws.getD (1 + n) 0) : SomeI ws (n + 1) ks :=
  ⟨fun k hk => by have := h.1 k hk; exact ⟨this.1, by omega, this.2.2⟩, fun j h1 h2 h3 => by
    by_cases e : j = 1 + n
    · subst e; exact absurd h3 h0
    · exact h.2.1 j h1 (by omega) h3, h.2.2⟩
theorem SomeI.take {ws : List Int} {n : Nat} {ks : List Int} (h : SomeI ws n ks) (h0 : 0 < ws.getD (1 + n) 0) : SomeI ws (n + 1) (ks ++ [1 + (n : Int)]) := by
  refine ⟨fun k hk => ?_, fun j h1 h2 h3 => ?_, ?_⟩
  · rcases List.mem_append.1 hk with hk | hk
    · have := h.1 k hk; exact ⟨this.1, by omega, this.2.2⟩
    · simp at hk; subst hk
      refine ⟨by omega, by omega, ?_⟩
      rw [show (1 + (n : Int)).toNat = 1 + n from by omega]; exact h0
  · by_cases e : j = 1 + n
    · subst e; simp
    · exact List.mem_append.2 (.inl (h.2.1 j h1 (by omega) h3))
  · rw [List.pairwise_append]
    refine ⟨h.2.2, by simp, fun a ha b hb => ?_⟩
    simp at hb; subst hb
    exact (h.1 a ha).2.1
theorem pw_head {a : Int} {l : List Int} (h : (a :: l).Pairwise (· < ·)) : ∀ k ∈ a :: l, a ≤ k := by
  intro k hk
  rcases List.mem_cons.1 hk with rfl | hk
  · exact Int.le_refl _
  · exact Int.le_of_lt ((List.pairwise_cons.1 h).1 k hk)
theorem pw_last {b : Int} {l : List Int} (h : (l ++ [b]).Pairwise (· < ·)) : ∀ k ∈ l ++ [b], k ≤ b := by
  intro k hk
  rcases List.mem_append.1 hk with hk | hk
  · exact Int.le_of_lt ((List.pairwise_append.1 h).2.2 k hk b (by simp))
  · simp at hk; omega
/-- what is left of a text of blanks -/
def LeftR (ws ks : List Int) (left : List Str) : Prop := (ks = [] ∧ left = []) ∨ ∃ a b ks1 ks2, ks = a :: ks1 ∧ ks = ks2 ++ [b] ∧ left = (List.range (b + 1 - a).toNat).map (fun j => blS (ws.getD (a.toNat + j) 0))
theorem getD_mem {l : List Int} {p : Int → Prop} (h : ∀ j, j < l.length → p (l.getD j 0)) : ∀ x ∈ l, p x := by
  intro x hx
  obtain ⟨j, hj, rfl⟩ := List.getElem_of_mem hx
  have := h j hj
  simpa [List.getD, List.getElem?_eq_getElem hj] using this
theorem getD_drop (l : List Int) (a j : Nat) : (l.drop a).getD j 0 = l.getD (a + j) 0 := by simp [List.getD]
theorem getD_take (l : List Int) (a j : Nat) (h : j < a) : (l.take a).getD j 0 = l.getD j 0 := by simp [List.getD, h]
theorem map_getD (l : List Int) : l.map blS = (List.range l.length).map (fun j => blS (l.getD j 0)) := by
  apply List.ext_getElem
  · simp
  · intro i h1 h2
    simp at h1 h2 ⊢
    simp [List.getD, List.getElem?_eq_getElem h1]
theorem blank_left {x0 : Int} {wr ks : List Int} {left : List Str} (hS : SomeI (x0 :: wr) wr.length ks) (hL : LeftR (x0 :: wr) ks left) :
    cleanS ((x0 :: wr).map blS) = left := by
  obtain ⟨h1, h2, h3⟩ := hS
  have hget : ∀ j : Nat, (x0 :: wr).getD (j + 1) 0 = wr.getD j 0 := fun j => by simp [List.getD]
  rcases hL with ⟨rfl, rfl⟩ | ⟨a, b, ks1, ks2, e1, e2, rfl⟩
  · have := clean_blank (x0 := x0) (A := wr) (M := []) (B := []) (getD_mem fun j hj => ?_) (by simp) (.inl rfl)
    · simpa using this
    · refine Int.not_lt.1 fun h => ?_
      have := h2 (j + 1) (by omega) (by omega) (by rw [hget]; exact h)
      cases this
  · have ha := h1 a (by rw [e1]; exact .head _)
    have hb := h1 b (by rw [e2]; simp)
    have hla := pw_head (e1 ▸ h3)
    have hlb := pw_last (e2 ▸ h3)
    have hab : a ≤ b := hla b (by rw [← e1, e2]; simp)
    obtain ⟨p, hp⟩ : ∃ p : Nat, a = (p : Int) + 1 := ⟨(a - 1).toNat, by omega⟩
    obtain ⟨n, hn⟩ : ∃ n : Nat, b + 1 - a = (n : Int) + 1 := ⟨(b - a).toNat, by omega⟩
    have hlen : p + (n + 1) ≤ wr.length := by omega
    have ew : wr = wr.take p ++ (wr.drop p).take (n + 1) ++ (wr.drop p).drop (n + 1) := by rw [List.append_assoc, List.take_append_drop, List.take_append_drop]
    have hA : ∀ x ∈ wr.take p, x ≤ 0 := getD_mem fun j hj => by
      have hj2 : j < p := by simp at hj; omega
      rw [getD_take _ _ _ hj2]
      refine Int.not_lt.1 fun h => ?_
      have := hla _ (e1 ▸ h2 (j + 1) (by omega) (by omega) (by rw [hget]; exact h))
      omega
    have hB : ∀ x ∈ (wr.drop p).drop (n + 1), x ≤ 0 := getD_mem fun j hj => by
      have hj2 : p + (n + 1) + j < wr.length := by simp at hj; omega
      rw [getD_drop, getD_drop]
      refine Int.not_lt.1 fun h => ?_
      have := hlb _ (e2 ▸ h2 (p + (n + 1 + j) + 1) (by omega) (by omega) (by rw [hget]; exact h))
      omega
    have hml : ((wr.drop p).take (n + 1)).length = n + 1 := by simp; omega
    have hm0 : 0 < ((wr.drop p).take (n + 1)).getD 0 0 := by
      rw [getD_take _ _ _ (by omega), getD_drop, ← hget, show p + 0 + 1 = a.toNat from by omega]
      exact ha.2.2
    have hm1 : 0 < ((wr.drop p).take (n + 1)).getD n 0 := by
      rw [getD_take _ _ _ (by omega), getD_drop, ← hget, show p + n + 1 = b.toNat from by omega]
      exact hb.2.2
    have hcl := clean_blank (x0 := x0) (A := wr.take p) (M := (wr.drop p).take (n + 1)) (B := (wr.drop p).drop (n + 1)) hA hB (.inr ?_)
    · rw [← ew] at hcl
      rw [hcl, map_getD, hml, show (b + 1 - a).toNat = n + 1 from by omega]
      apply List.map_congr_left
      intro j hj
      have hj : j < n + 1 := by simpa using hj
      rw [getD_take _ _ _ hj, getD_drop, ← hget, show p + j + 1 = a.toNat + j from by omega]
    · revert hml hm0 hm1
      generalize (wr.drop p).take (n + 1) = M
      intro hml hm0 hm1
      refine ⟨?_, ?_⟩
      · cases M with
        | nil => simp at hml
        | cons h M' => exact ⟨h, M', rfl, by simpa [List.getD] using hm0⟩
      · have hne : M ≠ [] := by intro e; rw [e] at hml; simp at hml
        refine ⟨M.dropLast, M.getLast hne, (List.dropLast_concat_getLast hne).symm, ?_⟩
        have : M.getLast hne = M.getD n 0 := by
          rw [List.getLast_eq_getElem]
          simp [List.getD, hml]
        rw [this]; exact hm1
/-- rows of blanks as rows -/
def blR (x : Int) : Row := (x, Str.ofString "", 0)
theorem due_blR (x : Int) : dueS (blR x) = blS x := rfl
theorem app_nil (x : Str) : x ++ Str.ofString "" = x := by
  apply cpl_inj
  show (_ ++ _ : Str).cps.toList = _
  rw [cps_app]
  show cpl x ++ cpl (Str.ofString "") = _
  rw [cpl_nil]; simp
theorem bl_line {w : Int} {x : Str} (h : IsBl x w.toNat) : IsLine (blR w) x := ⟨x, h, (app_nil x).symm⟩
/-- the law of a text of blanks -/
theorem blank_law {ws ks : List Int} {xs left : List Str} (hl : Lines (ws.map blR) xs) (hS : SomeI ws (ws.length - 1) ks) (hL : LeftR ws ks left) :
    Txt.join (Str.ofString "\n") (cleanS (Txt.split (exT (Txt.join (Str.ofString "\n") xs)) (Str.ofString "\n"))) = Txt.join (Str.ofString "\n") left := by
  cases ws with
  | nil =>
    cases hl
    have h1 : ks = [] := by
      cases ks with
      | nil => rfl
      | cons k ks => have := (hS.1 k (.head _)).2.2; simp [List.getD] at this
    have h2 : left = [] := by
      rcases hL with ⟨_, e⟩ | ⟨a, b, ks1, ks2, e, _⟩
      · exact e
      · rw [h1] at e; cases e
    subst h2
    have e : cpl (exT (Txt.join (Str.ofString "\n") [])) = jn [[]] := by
      show (exT _).cps.toList = _
      rw [exT_cps]
      show exS (cpl (Txt.join (Str.ofString "\n") [])) 0 = _
      rw [join_list]; rfl
    rw [split_jn (by simp) (by simp) e]
    have : cleanS (List.map mk [[]]) = [] := by decide +kernel
    rw [this]
  | cons x0 wr =>
    rw [split_lines hl ?_ (by simp), List.map_map]
    · congr 1
      exact blank_left (by simpa using hS) hL
    · intro q hq
      obtain ⟨x, _, rfl⟩ := List.mem_map.1 hq
      exact .inl rfl
end Mine
end
-- part: LawB
section
open PySem PySem.W PyProof.Rows PySem.Calls PySem.Spec PyProof.Rows.LCg
set_option maxRecDepth 100000
set_option maxHeartbeats 2000000
set_option linter.unusedVariables false
namespace Mine
section
variable {M : Model} {A : Around} {E : Value → Shared → Prop} {s : Shared}
theorem stop_wp {α : Type} {t : Sem α} {Q : α → Shared → Prop} (h : Stop (wpAny M A t Q E s)) : wpAny M A t Q E s := h
end
section
variable {prog : Program} {w : World} {A : Around} {E : Value → Shared → Prop} {s : Shared} {h₀ : Heap} {L : Addr} {m : Str → Option Value} {news : List (Addr × Obj)} {mean : ExcName → Option Value} {mg mb : Str → Option Value}
theorem wp_out {sc : Addr} {vs : List Value} {ns : List Int} {total : Int} {t : Tok} {Q : Value → Shared → Prop}
    (hr : Rdy w mean mg mb h₀) (F : Fr h₀ L s.heap m) (N : News h₀ L s.heap news) (hA : A.handled = none) (hdp : A.depth + 20 < recursionLimit) (hun : A.units + 100 < cLine)
    (hsc : h₀.IsList sc vs.toArray) (hi : IntsAre vs ns) (hns : ns.length ≤ 63) (ht0 : 0 ≤ total) (ht1 : total < 1000000000)
    (h : ∀ h' tk ra ws nr TT rs, Fr h₀ L h' m → News h₀ L h' (((ra, listOf (List.toArray ws) nr) :: TT) ++ news) → RowsIn TT ws rs → AllTup TT → OutR total rs → (∃ ri r, rs = ri ++ [r] ∧ r.2.1 ≠ Str.ofString "") → Q (.ref ra) { s with heap := h', toks := tk }) :
    wpAny (model PySem.Challenge.rw_lg0024_01.row.prog w) A (call (.ref 42) [.ref sc, .int total t]) Q E s := by
  have hsc' : s.heap.IsList sc vs.toArray := by obtain ⟨o, e, r⟩ := hsc; exact ⟨o, F.keep _ _ e, r⟩
  refine wpAny_call (out_call (hr.keep F.keep) hA hdp hun hsc' hi hns ht0 ht1 fun h' tk ra ws nr TT rs hk hn hRI hTT hO hl => ?_)
  exact h h' tk ra ws nr TT rs (F.keeps hk) (news_call F N hk hn) hRI hTT hO hl
theorem wp_hand {ra : Addr} {ws : List Value} {nr : Nat} {TT : List (Addr × Obj)} {rs : List Row} {total seed : Int} {t : Tok} {Q : Value → Shared → Prop}
    (hr : Rdy w mean mg mb h₀) (F : Fr h₀ L s.heap m) (N : News h₀ L s.heap news) (hA : A.handled = none) (hdp : A.depth + 20 < recursionLimit) (hun : A.units + 100 < cLine)
    (hl : (ra, listOf (List.toArray ws) nr) ∈ news) (hT : ∀ p ∈ TT, p ∈ news) (hRI : RowsIn TT ws rs) (hO : OutR total rs) (ht0 : 0 ≤ total) (ht1 : total < 1000000000) (hs0 : 0 ≤ seed) (hs1 : seed < 1000000000)
    (h : ∀ h' tk D ws' n TT' raw, Fr h₀ L h' m → News h₀ L h' (((D, listOf (List.toArray ws') n) :: TT') ++ news) → RowsIn TT' ws' raw → AllTup TT' → HandR (seed.fmod 13) rs raw → Q (.ref D) { s with heap := h', toks := tk }) :
    wpAny (model PySem.Challenge.rw_lg0024_01.row.prog w) A (call (.ref 47) [.ref ra, .int seed t]) Q E s := by
  refine wpAny_call (hand_call (hr.keep F.keep) hA hdp hun (News.isList N hl) (fun p hp => (N p (hT p hp)).1) hRI hO ht0 ht1 hs0 hs1 fun h' tk D ws' n TT' raw hk hn hRI' hTT hH => ?_)
  exact h h' tk D ws' n TT' raw (F.keeps hk) (news_call F N hk hn) hRI' hTT hH
theorem wp_blanks {wd bits : Int} {t t' : Tok} {Q : Value → Shared → Prop}
    (hr : Rdy w mean mg mb h₀) (F : Fr h₀ L s.heap m) (N : News h₀ L s.heap news) (hA : A.handled = none) (hdp : A.depth + 10 < recursionLimit) (hun : A.units + 50 < cLine)
    (hw0 : 0 ≤ wd) (hw1 : wd ≤ 1000) (hb0 : 0 ≤ bits) (hb1 : bits < 100000000000000)
    (h : ∀ h' tk x u, IsBl x wd.toNat → x.length ≤ 1000 → Fr h₀ L h' m → News h₀ L h' news → Q (.str x u) { s with heap := h', toks := tk }) :
    wpAny (model PySem.Challenge.rw_lg0024_01.row.prog w) A (call (.ref 54) [.int wd t, .int bits t']) Q E s := by
  refine wpAny_call (blanks_call (hr.keep F.keep) hA hdp hun hw0 hw1 hb0 hb1 fun h' tk x u hk hx => ?_)
  exact h h' tk x u hx (by have := hx.len; omega) (F.keeps hk) (N.keeps hk)
theorem wp_clean {x : Str} {t : Tok} {Q : Value → Shared → Prop}
    (hr : Rdy w mean mg mb h₀) (F : Fr h₀ L s.heap m) (N : News h₀ L s.heap news) (hA : A.handled = none) (hdp : A.depth + 10 < recursionLimit) (hun : A.units + 50 < cLine)
    (hx : x.length ≤ 100000) (hn : (Txt.split (exT x) (Str.ofString "\n")).length ≤ 1000) (hb : ∀ y ∈ Txt.split (exT x) (Str.ofString "\n"), y.length ≤ 1000)
    (h : ∀ h' tk u, Fr h₀ L h' m → News h₀ L h' news → Q (.str (Txt.join (Str.ofString "\n") (cleanS (Txt.split (exT x) (Str.ofString "\n")))) u) { s with heap := h', toks := tk }) :
    wpAny (model PySem.Challenge.rw_lg0024_01.row.prog w) A (call (.ref 28) [.str x t]) Q E s := by
  refine wpAny_call (clean_call (hr.keep F.keep) hA hdp hun hx hn hb (fun e => ?_) fun h' tk u hk => ?_)
  · have := split_pos (exT x) (Str.ofString "\n"); rw [e] at this; simp at this
  · exact h h' tk u (F.keeps hk) (N.keeps hk)
theorem wp_indent {x : Str} {t : Tok} {Q : Value → Shared → Prop}
    (hr : Rdy w mean mg mb h₀) (F : Fr h₀ L s.heap m) (N : News h₀ L s.heap news) (hA : A.handled = none) (hdp : A.depth + 10 < recursionLimit) (hun : A.units + 50 < cLine) (hx : x.length ≤ 100000)
    (h : ∀ h' tk u, Fr h₀ L h' m → News h₀ L h' news → Q (.int (((exT x).length : Int) - ((Txt.lstrip (exT x)).length : Int)) u) { s with heap := h', toks := tk }) :
    wpAny (model PySem.Challenge.rw_lg0024_01.row.prog w) A (call (.ref 21) [.str x t]) Q E s := by
  refine wpAny_call (indent_call (hr.keep F.keep) hA hdp hun hx fun h' tk u hk => ?_)
  exact h h' tk u (F.keeps hk) (N.keeps hk)
theorem wp_lead {x : Str} {t : Tok} {Q : Value → Shared → Prop}
    (hr : Rdy w mean mg mb h₀) (F : Fr h₀ L s.heap m) (N : News h₀ L s.heap news) (hA : A.handled = none) (hdp : A.depth + 10 < recursionLimit) (hun : A.units + 50 < cLine) (hx : x.length ≤ 1000)
    (h : ∀ h' tk u, Fr h₀ L h' m → News h₀ L h' news → Q (.int (leadN x.cps.toList : Int) u) { s with heap := h', toks := tk }) :
    wpAny (model PySem.Challenge.rw_lg0024_01.row.prog w) A (call (.ref 61) [.str x t]) Q E s := by
  refine wpAny_call (lead_call (hr.keep F.keep) hA hdp hun hx fun h' tk u hk => ?_)
  exact h h' tk u (F.keeps hk) (N.keeps hk)
/-- the first items, ints -/
theorem ls_slice_up {value slice : PySem.Expr} {l : Addr} {vs : List Value} {ns : List Int} {vl vu : Value} {k : Int} {Q : Value → Shared → Prop}
    (F : Fr h₀ L s.heap m) (N : News h₀ L s.heap news) (hl : s.heap.IsList l vs.toArray) (pl : IsPart vl none) (pu : IsPart vu (some k)) (h0 : 0 ≤ k) (hI : IntsAre vs ns) (hz : ns.length ≤ 1000000)
    (h : ∀ D h', Fr h₀ L h' m → News h₀ L h' ((D, listOf (vs.take k.toNat).toArray 0) :: news) → (∀ p ∈ news, p.1 < D) → IntsAre (vs.take k.toNat) (ns.take k.toNat) → Q (.ref D) { s with heap := h' })
    (hs : subscripted slice false (.ref l) (.ref s.heap.objs.size) = operate [.ref s.heap.objs.size, .ref l] (getItem (.ref l) (.ref s.heap.objs.size)))
    (ht : ∀ r, letTemporaryGo value (.ref l) r = pure ()) :
    wpAny (model prog w) A (subscriptTail value slice (.ref l) (.ref s.heap.objs.size)) Q E { s with heap := s.heap.push { cls := .type "slice", data := .fields #[vl, vu, .none] } } := by
  refine kmk_slice F N hl pl pu (fun D h' F' N' l1 => ?_) hs ht (by rw [List.size_toArray, hI.length]; unfold sizeLine; omega)
  rw [ls_pick_upto _ _ h0] at N'
  exact h D h' F' N' l1 (hI.take _)
end
theorem fmod9 (a : Int) : 0 ≤ a.fmod (10 ^ Int.toNat 9) ∧ a.fmod (10 ^ Int.toNat 9) < 1000000000 := by
  have e : (10 : Int) ^ (Int.toNat 9) = 1000000000 := by decide
  rw [e]; exact ⟨Int.fmod_nonneg_of_pos _ (by decide), Int.fmod_lt_of_pos _ (by decide)⟩
theorem ints_at : ∀ {vs : List Value} {ns : List Int} (_ : IntsAre vs ns) {i : Nat} {v : Value}, vs[i]? = some v → ∃ n t, v = .int n t ∧ ns[i]? = some n
  | _, _, .cons n t h, 0, v, e => by simp at e; exact ⟨n, t, e.symm, rfl⟩
  | _, _, .cons n t h, i + 1, v, e => by simp at e; simpa using ints_at h e
theorem ints_get : ∀ {vs : List Value} {ns : List Int} (_ : IntsAre vs ns) {i : Nat}, i < ns.length → ∃ t, vs[i]? = some (.int (ns.getD i 0) t)
  | _, _, .cons n t h, 0, _ => ⟨t, by simp [List.getD]⟩
  | _, _, .cons n t h, i + 1, e => by simp at e; simpa [List.getD] using ints_get h e
section
variable {prog : Program} {w : World} {A : Around} {E : Value → Shared → Prop} {s : Shared} {h₀ : Heap} {L : Addr} {m : Str → Option Value} {env : Env} {news : List (Addr × Obj)}
open LCt
theorem assign_compT_S {ct elt iter : PySem.Expr} {x y : Str} {px py : Pos} {scope : Scope} {cl : List (Str × Addr)} {pos spos : Pos} {Q : Flow → Shared → Prop} (F₀ : Fr h₀ L s.heap m) (hLe : env.locals = L)
    (hsw : swapsWith (.ListComp elt [⟨.Name x px, iter, [ct], 0⟩] scope pos) (some (.Name y py)) spos.line env = pure true)
    (hclos : closureFor scope env = pure cl) (hcell : ∀ z ∈ scope.names, z.2 ≠ .cell) (hkind : scope.kind = .function)
    (hnames : ∀ z ∈ scope.names, z.2 = .local → scope.names.lookup z.1 = some .local) (hx : scope.names.lookup x = some .local)
    (hy : env.kindOf y = some .local) (hp : (env.scope.kind == .class || (env.scope.kind == .module && env.locals != env.globals)) = false)
    (h : wpAny (model prog w) A (eval iter env) (fun xv s₁ => Stop (CompSrcT prog w A h₀ L m env ct elt x scope cl (fun s₂ => FinA h₀ L m s₂ y Q) xv s₁)) Nope s)
    (hs : ∀ x, foldedSetIterable iter env x = pure x := by intro _; rfl) :
    wpAny (model prog w) A (exec (.Assign [.Name y py] (.ListComp elt [⟨.Name x px, iter, [ct], 0⟩] scope pos) spos) env) Q E s :=
  Assign_ListComp_T F₀ hLe hsw hclos hcell hkind hnames hx hy hp (wpAny_mono h (fun _ _ x => x) (fun _ _ x => x.elim)) hs
theorem srcT_range {ct elt : PySem.Expr} {x y : Str} {scope : Scope} {cl : List (Str × Addr)} {Q : Flow → Shared → Prop} {r : Addr} {lo hi : Int} {t u v : Tok}
    (hh : A.handled = none) (F : Fr h₀ L s.heap m) (N : News h₀ L s.heap news) (hr : IsRange s.heap r lo hi 1 t u v) (h0 : 0 ≤ lo) (h1 : lo ≤ 1000000) (h2 : 0 ≤ hi) (h3 : hi ≤ 1000000)
    (J : Nat → List Value → List (Addr × Obj) → Prop) (hj : J 0 [] news)
    (turn : ∀ i v I oI C oC D m₂ h tk ys news, i < (hi - lo).toNat → J i ys news → (∃ t, v = .int (lo + (i : Int)) t) → NsObj oC m₂ → m₂ x = some v → Fr h₀ L h m → News h₀ L h ((I, oI) :: (C, oC) :: (D, lst ys) :: news) → (∀ p ∈ news, p.1 ≠ I ∧ p.1 ≠ C ∧ p.1 ≠ D) → ((@Ne Nat I C) ∧ (@Ne Nat I D) ∧ (@Ne Nat C D)) →
      wpAny (model prog w) A (isTrue ct (compEnvC scope cl C env) (eval ct (compEnvC scope cl C env))) (fun ok s' => if ok = true then
        wpAny (model prog w) A (eval elt (compEnvC scope cl C env)) (fun y s' => Stop (Left h₀ L m s I oI C oC D ys (J (i + 1) (ys ++ [y])) s')) Nope s'
        else Stop (Left h₀ L m s I oI C oC D ys (J (i + 1) ys) s')) Nope { s with heap := h, toks := tk })
    (fin : ∀ ys news' D h tk, J (hi - lo).toNat ys news' → Fr h₀ L h (up m y (.ref D)) → News h₀ L h ((D, lst ys) :: news') → (∀ p ∈ news', p.1 ≠ D) → Q .next { s with heap := h, toks := tk }) :
    CompSrcT prog w A h₀ L m env ct elt x scope cl (fun s₂ => FinA h₀ L m s₂ y Q) (.ref r) s := by
  have hsz : Builtin.Range.rangeSize lo hi 1 = ((hi - lo).toNat : Int) := by rw [rangeSize_one]; split <;> omega
  refine CompSrcT.range hh F N hr (small_one (by omega) (by omega) (by omega) (by omega)) hsz (by unfold sizeLine; omega) fun g => ?_
  exact restT_inv (s := { s with heap := g }) (hi - lo).toNat J (fun _ _ _ _ => trivial) (fun i v I oI C oC D m₂ h tk ys news => turn i v I oI C oC D m₂ h tk ys news) (fun ys news' hj D h tk F' N' o1 => fin ys news' D h tk hj F' N' (off1_mem o1)) _ 0 [] news (by omega) hj
end
/-- strs of a list and texts -/
theorem strs_snoc {vs : List Value} {ys : List Str} {y : Str} {t : Tok} (h : StrsAre vs ys) : StrsAre (vs ++ [Value.str y t]) (ys ++ [y]) := by
  induction h with
  | nil => exact .cons _ _ .nil
  | cons n t h ih => exact .cons _ _ ih
end Mine
end
-- part: LawM
section
open PySem PySem.W PyProof.Rows
set_option maxRecDepth 100000
set_option maxHeartbeats 2000000
set_option linter.unusedVariables false
namespace Mine
def mL (sc : Addr) (o0 o1 o2 o3 o4 o5 o6 o7 : Option Value) : Str → Option Value :=
  upo (upo (upo (upo (upo (upo (upo (upo (mp [(Str.ofString "script", .ref sc)]) (Str.ofString "rows") o0) (Str.ofString "due") o1) (Str.ofString "seed") o2) (Str.ofString "raw") o3) (Str.ofString "lines") o4) (Str.ofString "k") o5) (Str.ofString "some") o6) (Str.ofString "left") o7
theorem mL_start {sc : Addr} : mp [(Str.ofString "script", .ref sc)] = mL sc none none none none none none none none := by
  unfold mL
  rw [upo_none rfl, upo_none rfl, upo_none rfl, upo_none rfl, upo_none rfl, upo_none rfl, upo_none rfl, upo_none rfl]
theorem mL_rows {sc : Addr} {o0 o1 o2 o3 o4 o5 o6 o7 : Option Value} {v : Value} : up (mL sc o0 o1 o2 o3 o4 o5 o6 o7) (Str.ofString "rows") v = mL sc (some v) o1 o2 o3 o4 o5 o6 o7 := by
  funext y
  by_cases e : y = Str.ofString "rows"
  · subst e; rfl
  simp only [mL, up, upo, e, if_false]
theorem mL_due {sc : Addr} {o0 o1 o2 o3 o4 o5 o6 o7 : Option Value} {v : Value} : up (mL sc o0 o1 o2 o3 o4 o5 o6 o7) (Str.ofString "due") v = mL sc o0 (some v) o2 o3 o4 o5 o6 o7 := by
  funext y
  by_cases e : y = Str.ofString "due"
  · subst e; rfl
  simp only [mL, up, upo, e, if_false]
theorem mL_seed {sc : Addr} {o0 o1 o2 o3 o4 o5 o6 o7 : Option Value} {v : Value} : up (mL sc o0 o1 o2 o3 o4 o5 o6 o7) (Str.ofString "seed") v = mL sc o0 o1 (some v) o3 o4 o5 o6 o7 := by
  funext y
  by_cases e : y = Str.ofString "seed"
  · subst e; rfl
  simp only [mL, up, upo, e, if_false]
theorem mL_raw {sc : Addr} {o0 o1 o2 o3 o4 o5 o6 o7 : Option Value} {v : Value} : up (mL sc o0 o1 o2 o3 o4 o5 o6 o7) (Str.ofString "raw") v = mL sc o0 o1 o2 (some v) o4 o5 o6 o7 := by
  funext y
  by_cases e : y = Str.ofString "raw"
  · subst e; rfl
  simp only [mL, up, upo, e, if_false]
theorem mL_lines {sc : Addr} {o0 o1 o2 o3 o4 o5 o6 o7 : Option Value} {v : Value} : up (mL sc o0 o1 o2 o3 o4 o5 o6 o7) (Str.ofString "lines") v = mL sc o0 o1 o2 o3 (some v) o5 o6 o7 := by
  funext y
  by_cases e : y = Str.ofString "lines"
  · subst e; rfl
  simp only [mL, up, upo, e, if_false]
theorem mL_k {sc : Addr} {o0 o1 o2 o3 o4 o5 o6 o7 : Option Value} {v : Value} : up (mL sc o0 o1 o2 o3 o4 o5 o6 o7) (Str.ofString "k") v = mL sc o0 o1 o2 o3 o4 (some v) o6 o7 := by
  funext y
  by_cases e : y = Str.ofString "k"
  · subst e; rfl
  simp only [mL, up, upo, e, if_false]
theorem mL_some {sc : Addr} {o0 o1 o2 o3 o4 o5 o6 o7 : Option Value} {v : Value} : up (mL sc o0 o1 o2 o3 o4 o5 o6 o7) (Str.ofString "some") v = mL sc o0 o1 o2 o3 o4 o5 (some v) o7 := by
  funext y
  by_cases e : y = Str.ofString "some"
  · subst e; rfl
  simp only [mL, up, upo, e, if_false]
theorem mL_left {sc : Addr} {o0 o1 o2 o3 o4 o5 o6 o7 : Option Value} {v : Value} : up (mL sc o0 o1 o2 o3 o4 o5 o6 o7) (Str.ofString "left") v = mL sc o0 o1 o2 o3 o4 o5 o6 (some v) := by
  funext y
  by_cases e : y = Str.ofString "left"
  · subst e; rfl
  simp only [mL, up, upo, e, if_false]
end Mine
end
-- part: Law1
section
open PySem PySem.W PyProof.Rows PySem.Calls PySem.Spec PyProof.Rows.LCg
set_option maxRecDepth 100000
set_option maxHeartbeats 2000000
set_option linter.unusedVariables false
namespace Mine
local macro_rules | `(tactic| walk_at "go") => `(tactic| repeat' (first | (k_unfold; (try dsimp only)) | walk1 | (dsimp only; walk1) | (leave1; try dsimp only) | fail "no step"))
local macro_rules | `(tactic| k_all) => `(tactic| with_reducible assumption)
local macro_rules | `(tactic| walk_at "call ref") => `(tactic| (k_here; with_reducible refine stop_wp ?_))
local macro_rules | `(tactic| walk_at "call builtin:sum") => `(tactic| (k_here; (with_reducible show wpAny _ _ (call (Value.builtin "sum") [Value.ref _]) _ _ _); (with_unfolding_all refine' sumK ?k0 ?k1 ?k2 ?k3 ?k4 ?_; (case k0 => with_unfolding_all assumption); (case k1 => k_asm); (case k2 => k_asm); (case k3 => is_list); (case k4 => assumption); k_whole); intro h' tk' t' F' N'))
local macro_rules | `(tactic| walk_at "subscriptTail Name Slice ref ref") => `(tactic| (k_here; (with_reducible show wpAny _ _ (subscriptTail _ (PySem.Expr.Slice none (some _) none _) (Value.ref _) (Value.ref _)) _ _ _); k_dflt (refine' ls_slice_up ?F ?N ?l ?p ?q ?o ?i ?z ?_ ?s ?t; (case F => k_asm); (case N => k_asm); (case l => kmk_list); (case p => kmk_part); (case q => kmk_part); (case o => decide); (case i => assumption); (case z => omega); (case s => with_unfolding_all rfl); (case t => kmk_pure)); intro D' h' F' N' l1 hI'))
local macro_rules | `(tactic| walk_at "call builtin:len") => `(tactic| (k_here; (with_reducible show wpAny _ _ (call (Value.builtin "len") [Value.ref _]) _ _ _); k_dflt (refine' ls_len ?N ?m ?s ?z ?_; (case N => k_asm); (case m => k_mem); (case s => assumption); (case z => omega)); intro _ _))
local macro_rules | `(tactic| walk_at "subscriptTail") => `(tactic| (k_here; (with_reducible show wpAny _ _ (subscriptTail _ _ (Value.ref _) (Value.int _ _)) _ _ _); k_dflt (refine' item_listR ?l ?a ?f ?x ?_ ?s; (case l => kmk_list); (case x => assumption); (case a => omega); (case f => omega); (case s => with_unfolding_all rfl))))
local macro_rules | `(tactic| walk_at "subscriptTail") => `(tactic| (k_here; (with_reducible show wpAny _ _ (subscriptTail _ _ (Value.ref _) (Value.int (-1) _)) _ _ _); k_dflt (refine' ls_last ?N ?m ?e ?_ ?s; (case N => k_asm); (case m => k_mem); (case e => exact rfl); (case s => with_unfolding_all rfl))))
local macro_rules | `(tactic| walk_at "exec Assign cons ListComp") => `(tactic| (k_here; with_reducible refine stop_wp ?_))
local macro_rules | `(tactic| walk_at "call builtin:str.join") => `(tactic| (k_here; (with_reducible show wpAny _ _ (call (Value.builtin "str.join") [Value.str _ _, Value.ref _]) _ _ _); k_dflt (refine' join_listW ?l ?i ?p ?w ?_; (case l => kmk_list); (case i => assumption); (case p => decide); (case w => assumption)); intro _ _))
local macro_rules | `(tactic| walk_at "eval ListComp") => `(tactic| (k_here; with_reducible refine stop_wp ?_))
theorem due_mul (r : Row) : Txt.mul (Str.ofString " ") r.1 ++ r.2.1 = dueS r := by
  apply cpl_inj
  show (_ ++ _ : Str).cps.toList = cpl (rowS _ _)
  rw [cps_app, cpl_rowS, rowL, show Str.ofString " " = ⟨#[32]⟩ from by decide, mul_one_list]
theorem len_join_strs {xs : List Str} {c k : Nat} (h : ∀ x ∈ xs, x.length ≤ c) (hk : xs.length * (c + 1) ≤ k) : (Txt.join (Str.ofString "\n") xs).length ≤ k := by
  rw [len_cpl, Mine.join_list]
  have : ∀ l : List (List Nat), (∀ a ∈ l, a.length ≤ c) → (jn l).length ≤ l.length * (c + 1) := by
    intro l
    induction l with
    | nil => intro _; simp [jn]
    | cons a r ih =>
      intro h
      cases r with
      | nil => have := h a (.head _); simp [jn]; omega
      | cons b r =>
        have h1 := ih (fun x hx => h x (.tail _ hx))
        have h2 := h a (.head _)
        simp only [jn, List.length_append, List.length_cons] at h1 ⊢
        rw [Nat.add_mul (r.length + 1) 1 (c + 1)]
        omega
  have h9 := this (xs.map cpl) (fun a ha => by
    obtain ⟨y, hy, rfl⟩ := List.mem_map.1 ha
    have := h y hy
    rw [len_cpl] at this; exact this)
  simp only [List.length_map] at h9
  omega
theorem len_join_rows {rs : List Row} {c k : Nat} (h : ∀ r ∈ rs, (dueS r).length ≤ c) (hk : rs.length * (c + 1) ≤ k) : (Txt.join (Str.ofString "\n") (rs.map dueS)).length ≤ k :=
  len_join_strs (c := c) (fun x hx => by obtain ⟨r, hr, rfl⟩ := List.mem_map.1 hx; exact h r hr) (by simpa using hk)
theorem raw_len {q : Row} (h : RawOk q) : q.2.1.length ≤ 3 ∧ q.1.toNat ≤ 100 := by
  refine ⟨?_, by have := h.2.1; omega⟩
  rcases h.1 with e | ht
  · rw [e]; decide
  · rw [len_ti ht]; omega
theorem lines_len {qs : List Row} {xs : List Str} (hl : Lines qs xs) (h : ∀ q ∈ qs, RawOk q) : ∀ x ∈ xs, x.length ≤ 103 := by
  induction hl with
  | nil => intro x hx; cases hx
  | cons h' m ih =>
    intro x hx
    rcases List.mem_cons.1 hx with rfl | hx
    · have h1 := len_line h'; have h2 := raw_len (h _ (.head _)); omega
    · exact ih (fun q hq => h q (.tail _ hq)) x hx
theorem AllTup.app {T T' : List (Addr × Obj)} (h : AllTup T) (h' : AllTup T') : AllTup (T ++ T') := by
  intro p hp
  rcases List.mem_append.1 hp with hp | hp
  · exact h p hp
  · exact h' p hp
theorem news_skip2 {h₀ h : Heap} {L : Addr} {a b : Addr × Obj} {T : List (Addr × Obj)} (N : News h₀ L h (a :: b :: T)) : News h₀ L h (a :: T) := by
  intro p hp
  refine N p ?_
  simp only [List.mem_cons] at hp ⊢
  rcases hp with h | h <;> simp [h]
theorem pw_len {ks : List Int} {n : Nat} (h : ks.Pairwise (· < ·)) (hb : ∀ k ∈ ks, 1 ≤ k ∧ k ≤ (n : Int)) : ks.length ≤ n := by
  have : ∀ (l : List Int) (c : Int), l.Pairwise (· < ·) → (∀ k ∈ l, c < k ∧ k ≤ (n : Int)) → (l.length : Int) ≤ max 0 ((n : Int) - c) := by
    intro l
    induction l with
    | nil => intro c _ _; simp; omega
    | cons a l ih =>
      intro c h hb
      have h1 := List.pairwise_cons.1 h
      have h2 := hb a (.head _)
      have h3 := ih a h1.2 (fun k hk => ⟨h1.1 k hk, (hb k (.tail _ hk)).2⟩)
      simp only [List.length_cons]
      omega
  have := this ks 0 h (fun k hk => by have := hb k hk; omega)
  omega
theorem news_pick6 {h₀ h : Heap} {L : Addr} {a b c d e f : Addr × Obj} (N : News h₀ L h [a, b, c, d, e, f]) : News h₀ L h [a, d, e, f] := by
  intro p hp
  refine N p ?_
  simp only [List.mem_cons, List.not_mem_nil, or_false] at hp ⊢
  rcases hp with h | h | h | h <;> simp [h]
theorem bl_mul (x : Int) : Txt.mul (Str.ofString " ") x = blS x := by
  apply cpl_inj
  unfold blS
  rw [cpl_rowS, rowL, cpl_nil, List.append_nil]
  show (Txt.mul _ _).cps.toList = _
  rw [show Str.ofString " " = ⟨#[32]⟩ from by decide, mul_one_list]
theorem blR_ok {x : Int} (h : 0 ≤ x ∧ x ≤ 15) : RawOk (blR x) := ⟨.inl rfl, ⟨h.1, by show x ≤ 100; omega⟩, by show (0 : Int) ≤ 0 ∧ (0 : Int) < 100000000000000; decide⟩
theorem blank_split {ws : List Int} {xs : List Str} (hl : Lines (ws.map blR) xs) (h : ∀ q ∈ ws.map blR, RawOk q) (hn : (ws.map blR).length ≤ 100) :
    (Txt.split (exT (Txt.join (Str.ofString "\n") xs)) (Str.ofString "\n")).length ≤ 1000 ∧ ∀ y ∈ Txt.split (exT (Txt.join (Str.ofString "\n") xs)) (Str.ofString "\n"), y.length ≤ 1000 := by
  cases ws with
  | nil =>
    cases hl
    have e0 : (Txt.join (Str.ofString "\n") []).length = 0 := by rw [len_cpl, Mine.join_list]; rfl
    have e1 := exT_len (Txt.join (Str.ofString "\n") [])
    have e2 := split_le (exT (Txt.join (Str.ofString "\n") [])) (Str.ofString "\n")
    refine ⟨by omega, fun y hy => ?_⟩
    have := part_short hy
    omega
  | cons x0 wr =>
    rw [split_lines hl (fun q hq => (h q hq).1) (by simp)]
    refine ⟨by simp at hn ⊢; omega, fun y hy => ?_⟩
    obtain ⟨q, hq, rfl⟩ := List.mem_map.1 hy
    have := raw_len (h q hq)
    unfold dueS; rw [len_row]; omega
theorem left_small {ws ks : List Int} {left : List Str} {n : Nat} (hS : SomeI ws n ks) (hL : LeftR ws ks left) (hg : ∀ j : Nat, 0 ≤ ws.getD j 0 ∧ ws.getD j 0 ≤ 15) (hn : ws.length ≤ 9) : (∀ y ∈ left, y.length ≤ 15) ∧ left.length ≤ 9 := by
  rcases hL with ⟨_, rfl⟩ | ⟨a, b, ks1, ks2, e1, e2, rfl⟩
  · simp
  · have ha := hS.1 a (by rw [e1]; exact .head _)
    have hb := hS.1 b (by rw [e2]; simp)
    have hbl : b.toNat < ws.length := by
      refine Nat.lt_of_not_le fun h => ?_
      have := hb.2.2
      simp [List.getD, List.getElem?_eq_none h] at this
    refine ⟨fun y hy => ?_, by simp; omega⟩
    obtain ⟨j, _, rfl⟩ := List.mem_map.1 hy
    rw [blS_len]
    have := hg (a.toNat + j)
    omega
theorem news_mid6 {h₀ h : Heap} {L : Addr} {a b c d e f : Addr × Obj} {T T' : List (Addr × Obj)} (N : News h₀ L h ((a :: T) ++ (b :: c :: d :: e :: f :: T'))) : News h₀ L h (a :: b :: c :: d :: e :: f :: (T ++ T')) := by
  intro p hp
  refine N p ?_
  simp only [List.mem_cons, List.mem_append] at hp ⊢
  rcases hp with h | h | h | h | h | h | h | h <;> simp [h]
theorem news_mid {h₀ h : Heap} {L : Addr} {a b c : Addr × Obj} {T : List (Addr × Obj)} (N : News h₀ L h ((a :: T) ++ [b, c])) : News h₀ L h (a :: b :: c :: T) := by
  intro p hp
  refine N p ?_
  simp only [List.mem_cons, List.mem_append] at hp ⊢
  rcases hp with h | h | h | h <;> simp [h]
theorem law_call {w : World} {mean : ExcName → Option Value} {mg mb : Str → Option Value} {A : Around} {s : Shared} {sc : Addr} {vs : List Value} {ns : List Int} {R : Result → Shared → Prop}
   (hr : Rdy w mean mg mb s.heap) (hA : A.handled = none) (hdp : A.depth + 30 < recursionLimit) (hun : A.units + 200 < cLine)
   (hsc : s.heap.IsList sc vs.toArray) (hi : IntsAre vs ns) (hns : ns.length ≤ 63)
   (hR : ∀ h' tk, Keep s.heap h' → R (.ok (.ret (.bool true))) { s with heap := h', toks := tk }) :
   codeAny (model PySem.Challenge.rw_lg0024_01.row.prog w) A (.call (.ref 66) ⟨[.ref sc], []⟩) R s := by
  have KX := hr.k
  have T := hr.t
  revert KX; k_fill; intro KX
  refine enter_cells2 [(Str.ofString "script", .ref sc)] (Str.ofString "total") (Str.ofString "widths") none none (mp [(Str.ofString "script", .ref sc)]) (by omega) (hr.k 66 _ (by with_unfolding_all rfl)) (by with_unfolding_all rfl) hr.t.nolimit (by exact codeRec_of hr.k (by k_is)) rfl ?_ (fun _ => rfl) (by decide) ?_ ?_ ?_ ?_
  · intro x hx
    rcases List.mem_cons.1 hx with rfl | hx
    · exact .inl rfl
    · cases hx
  · funext y
    by_cases e : y = Str.ofString "script"
    · subst e; rfl
    · show (if y = Str.ofString "script" then _ else none) = List.lookup y [(Str.ofString "script", _)]
      have e' : (y == Str.ofString "script") = false := by simpa using e
      rw [if_neg e, List.lookup_cons, e']; rfl
  · rfl
  · rfl
  intro L h₁ tk oT oW hL F N hoT hoW
  refine cut_cons (fun s' => ∃ h tk oT total u, s' = { s with heap := h, toks := tk } ∧ Fr s.heap L h (mL sc none none none none none none none none) ∧ News s.heap L h [(L + 1 + 1, oW), (L + 1, oT)] ∧ oT.data = .cell (some (.int total u)) ∧ 0 ≤ total ∧ total < 1000000000) ?_ ?_
  · walk_at "go"
    (show Stop _)
    rename Fr _ _ _ _ => F2
    rename News _ _ _ _ => N2
    rename (Obj.data _ = _) => d2
    exact ⟨_, _, _, _, _, rfl, frMap mL_start F2, fun p hp => N2 p (.tail _ hp), d2, (fmod9 _).1, (fmod9 _).2⟩
  clear F N hoT
  rintro _ ⟨h, tk, oT, total, ut, rfl, F, N, hoT, ht0, ht1⟩
  refine cut_cons (fun s' => ∃ h tk ra ws nr TT rs, s' = { s with heap := h, toks := tk } ∧ Fr s.heap L h (mL sc (some (.ref ra)) none none none none none none none) ∧ News s.heap L h ((ra, listOf (List.toArray ws) nr) :: (L + 1 + 1, oW) :: (L + 1, oT) :: TT) ∧ RowsIn TT ws rs ∧ AllTup TT ∧ OutR total rs ∧ (∃ ri r, rs = ri ++ [r] ∧ r.2.1 ≠ Str.ofString "")) ?_ ?_
  · walk_at "go"
    (show Stop _)
    refine wp_out hr F N (by exact hA) (by simp only [depth_deeper]; omega) (by simp only [units_deeper]; omega) hsc hi hns ht0 ht1 ?_
    clear F N
    intro h tk ra ws nr TT rs F N hRI hTT hO hl
    walk_at "go"
    (show Stop _)
    rename Fr _ _ _ _ => F2
    rename News _ _ _ _ => N2
    exact ⟨_, _, _, _, _, _, _, rfl, frMap mL_rows F2, news_mid N2, hRI, hTT, hO, hl⟩
  clear F N
  rintro _ ⟨h, tk, ra, ws, nr, TT, rs, rfl, F, N, hRI, hTT, hO, hlast⟩
  have hg := hO.good ht0 ht1
  have hwr : ws.length = rs.length := hRI.length
  have hrl : rs.length ≤ 18 := by obtain ⟨x0, rest, rfl, _, _, _, e⟩ := hO; simp; omega
  have hdl : ∀ r ∈ rs, (dueS r).length ≤ 60 := fun r hr => by
    have := hg r hr
    unfold dueS; rw [len_row]
    rcases this.2 with ⟨e, e0⟩ | ⟨ht, h0, h1⟩
    · rw [e, e0]; decide
    · rw [len_ti ht]; omega
  refine cut_cons (fun s' => ∃ h tk ud, s' = { s with heap := h, toks := tk } ∧ Fr s.heap L h (mL sc (some (.ref ra)) (some (.str (Txt.join (Str.ofString "\n") (rs.map dueS)) ud)) none none none none none none) ∧ News s.heap L h ((ra, listOf (List.toArray ws) nr) :: (L + 1 + 1, oW) :: (L + 1, oT) :: TT)) ?_ ?_
  · walk_at "go"
    (show Stop _)
    refine comp3 (h₀ := s.heap) (L := L) (m := mL sc (some (.ref ra)) none none none none none none none) (ax := ra) (its := ws.toArray) (news := (ra, listOf (List.toArray ws) nr) :: (L + 1 + 1, oW) :: (L + 1, oT) :: TT) (fun i r => rs[i]? = some r) (fun i ys news' => news' = (ra, listOf (List.toArray ws) nr) :: (L + 1 + 1, oW) :: (L + 1, oT) :: TT ∧ StrsAre ys ((rs.take i).map dueS)) (by exact hA) (by simp; unfold sizeLine; omega) ?_ ?_ (by with_unfolding_all rfl) (by decide) (by rfl) (by decide) (by rfl) (by rfl) (by rfl) (by decide) ?_ ⟨rfl, .nil⟩ ?_ ?_
    · rintro i ys _ ⟨rfl, -⟩
      exact .inr ⟨_, .head _, rfl, _, rfl⟩
    · rintro i ys _ v ⟨rfl, -⟩ hv
      have hi2 : i < rs.length := by have := (Array.getElem?_eq_some_iff.1 hv).1; simp at this; omega
      obtain ⟨b, t1, t2, t3, hb, hbT⟩ := hRI.at (List.getElem?_eq_getElem hi2)
      refine ⟨b, _, t1, t2, t3, ?_, .tail _ (.tail _ (.tail _ hbT)), List.getElem?_eq_getElem hi2⟩
      simp at hv hb; rw [hv] at hb; injection hb
    · walk_at "go"
      (show Stop _)
      exact ⟨rfl, ⟨_, _, rfl⟩, F, N⟩
    · rintro i _ b r t1 t2 t3 I oI C oC D m₂ h tk ys _ hi ⟨rfl, hS⟩ - rfl hbT hri hC hx1 hx2 hx3 F N off ne
      obtain ⟨ne1, ne2, ne3⟩ := ne
      have hgr := hg r (List.mem_of_getElem? hri)
      have hcol : 0 ≤ r.1 ∧ r.1 ≤ 48 := by rcases hgr.2 with ⟨_, e⟩ | ⟨_, e⟩ <;> omega
      have htl : r.2.1.length ≤ 3 := by
        rcases hgr.2 with ⟨e, _⟩ | ⟨ht, _⟩
        · rw [e]; decide
        · rw [len_ti ht]; omega
      walk_at "go"
      (show Stop _)
      refine ⟨_, _, _, rfl, F, N, off, rfl, ?_⟩
      rw [List.take_add_one, hri, due_mul]
      simpa using strs_snoc hS
    · rintro D h tk ys _ F N off ⟨rfl, hS⟩
      rw [show ws.toArray.size = rs.length from by simp; exact hwr, List.take_length] at hS
      replace N : News s.heap L h ((D, listOf ys.toArray ys.length) :: (ra, listOf (List.toArray ws) nr) :: (L + 1 + 1, oW) :: (L + 1, oT) :: TT) := N
      have hS4 : StrsAre ys.toArray.toList (rs.map dueS) := by simpa using hS
      have hw3 : ((rs.map dueS).map (·.length)).sum + (rs.map dueS).length ≤ 1048576 := by
        have := weigh (ys := rs.map dueS) (fun y hy => by obtain ⟨r, hr, rfl⟩ := List.mem_map.1 hy; have := hdl r hr; omega)
        simp only [List.length_map] at this ⊢; omega
      walk_at "go"
      (show Stop _)
      rename Fr _ _ _ _ => F2
      rename News _ _ _ _ => N2
      exact ⟨_, _, _, rfl, frMap mL_due F2, fun p hp => N2 p (.tail _ hp)⟩
  clear F N
  rintro _ ⟨h, tk, ud, rfl, F, N⟩
  generalize hdue : Txt.join (Str.ofString "\n") (rs.map dueS) = due at F
  have hdul : due.length ≤ 2000 := by
    rw [← hdue]; exact len_join_rows hdl (by omega)
  -- the two hands
  refine cut_cons (fun s' => ∃ h tk o2 o3 o4 o5, s' = { s with heap := h, toks := tk } ∧ Fr s.heap L h (mL sc (some (.ref ra)) (some (.str due ud)) o2 o3 o4 o5 none none) ∧ News s.heap L h [(L + 1 + 1, oW), (L + 1, oT)]) ?_ ?_
  · refine wpAny_For (wp_cut (fun v s' => ∃ tA t8 t9 h tk, v = .ref tA ∧ s' = { s with heap := h, toks := tk } ∧ Fr s.heap L h (mL sc (some (.ref ra)) (some (.str due ud)) none none none none none none) ∧ News s.heap L h ((tA, ({ cls := .type "tuple", data := .seq #[Value.int total t8, Value.int (total.fdiv 11 + 18) t9] } : Obj)) :: (ra, listOf (List.toArray ws) nr) :: (L + 1 + 1, oW) :: (L + 1, oT) :: TT)) ?_ ?_) (by intro _; rfl)
    · walk_at "go"
      (show Stop _)
      rename Fr _ _ _ _ => F2
      rename News _ _ _ _ => N2
      exact ⟨_, _, _, _, _, rfl, rfl, F2, N2⟩
    clear F N
    rintro _ _ ⟨tA, t8, t9, h, tk, rfl, rfl, F, N⟩
    refine for_tuple (h₀ := s.heap) (L := L) (by exact hA) (items := #[Value.int total t8, Value.int (total.fdiv 11 + 18) t9]) (fun i m' news' => news' = (tA, ({ cls := .type "tuple", data := .seq #[Value.int total t8, Value.int (total.fdiv 11 + 18) t9] } : Obj)) :: (ra, listOf (List.toArray ws) nr) :: (L + 1 + 1, oW) :: (L + 1, oT) :: TT ∧ ∃ o2 o3 o4 o5, m' = mL sc (some (.ref ra)) (some (.str due ud)) o2 o3 o4 o5 none none) ?_ ?_ ?_ ?_ F N ⟨rfl, none, none, none, none, rfl⟩
    · rintro i h m' news' ⟨rfl, -⟩ F N
      exact ⟨_, (N _ (.head _)).1, rfl, _, rfl⟩
    · rintro i m' news' ⟨rfl, -⟩ p hp
      rcases List.mem_cons.1 hp with rfl | hp
      · exact .inl (by show Value.type "tuple" ≠ _; decide)
      rcases List.mem_cons.1 hp with rfl | hp
      · exact .inl (list_cls (by decide))
      rcases List.mem_cons.1 hp with rfl | hp
      · exact .inr ⟨_, hoW⟩
      rcases List.mem_cons.1 hp with rfl | hp
      · exact .inr ⟨_, hoT⟩
      · exact .inl (by rw [hTT p hp]; decide)
    · clear F N
      rintro I i h tk m' news' o v hi9 ⟨rfl, o2, o3, o4, o5, rfl⟩ hv ho F N
      obtain ⟨seed, t7, rfl, hs0, hs1⟩ : ∃ seed t7, v = .int seed t7 ∧ 0 ≤ seed ∧ seed < 1000000000 := by
        have hfd : total.fdiv 11 = total / 11 := Int.fdiv_eq_ediv_of_nonneg _ (by decide)
        match i, hv with
        | 0, hv => simp at hv; exact ⟨total, t8, hv.symm, ht0, ht1⟩
        | 1, hv => simp at hv; exact ⟨_, t9, hv.symm, by omega, by omega⟩
        | i + 2, hv => simp at hv
      refine wpAny_pure ?_
      refine wpAny_assign_Name ?_
      refine wp_cut (fun _ s' => ∃ h tk, s' = { s with heap := h, toks := tk } ∧ Fr s.heap L h (mL sc (some (.ref ra)) (some (.str due ud)) (some (.int seed t7)) o3 o4 o5 none none) ∧ News s.heap L h ((I, o) :: (tA, ({ cls := .type "tuple", data := .seq #[Value.int total t8, Value.int (total.fdiv 11 + 18) t9] } : Obj)) :: (ra, listOf (List.toArray ws) nr) :: (L + 1 + 1, oW) :: (L + 1, oT) :: TT)) ?_ ?_
      · walk_at "go"
        (show Stop _)
        rename Fr _ _ _ _ => F2
        rename News _ _ _ _ => N2
        exact ⟨_, _, rfl, frMap mL_seed F2, N2⟩
      clear F N
      rintro _ _ ⟨h, tk, rfl, F, N⟩
      generalize hoA : ({ cls := .type "tuple", data := .seq #[Value.int total t8, Value.int (total.fdiv 11 + 18) t9] } : Obj) = oA at N
      generalize hmar : seed.fmod 13 = mar
      have hm0 : 0 ≤ mar ∧ mar < 13 := hmar ▸ fmod13 seed
      refine cut_cons (fun s' => ∃ h tk D ws' n TT2 raw, s' = { s with heap := h, toks := tk } ∧ Fr s.heap L h (mL sc (some (.ref ra)) (some (.str due ud)) (some (.int seed t7)) (some (.ref D)) o4 o5 none none) ∧ News s.heap L h ((D, listOf (List.toArray ws') n) :: (I, o) :: (tA, oA) :: (ra, listOf (List.toArray ws) nr) :: (L + 1 + 1, oW) :: (L + 1, oT) :: TT2) ∧ (∀ p ∈ TT, p ∈ TT2) ∧ RowsIn TT2 ws' raw ∧ AllTup TT2 ∧ HandR mar rs raw) ?_ ?_
      · walk_at "go"
        (show Stop _)
        refine wp_hand (nr := nr) hr F N (by exact hA) (by simp only [depth_deeper]; omega) (by simp only [units_deeper]; omega) (.tail _ (.tail _ (.head _))) (TT := TT) (fun p hp => .tail _ (.tail _ (.tail _ (.tail _ (.tail _ hp))))) hRI hO ht0 ht1 hs0 hs1 ?_
        clear F N
        intro h tk D ws' n TT' raw F N hRI' hTT' hH
        walk_at "go"
        (show Stop _)
        rename Fr _ _ _ _ => F2
        rename News _ _ _ _ => N2
        rw [hmar] at hH
        exact ⟨_, _, _, _, _, TT' ++ TT, raw, rfl, frMap mL_raw F2, news_mid6 N2, fun p hp => List.mem_append.2 (.inr hp), hRI'.mono (fun p hp => List.mem_append.2 (.inl hp)), hTT'.app hTT, hH⟩
      clear F N
      rintro _ ⟨h, tk, D, ws', n', TT2, raw, rfl, F, N, hsub, hRI2, hTT2, hH⟩
      obtain ⟨hrok, hrne, hrlen⟩ := hand_ok hm0 hO hg hH
      have hwr2 : ws'.length = raw.length := hRI2.length
      refine cut_cons (fun s' => ∃ h tk la ys xs, s' = { s with heap := h, toks := tk } ∧ Fr s.heap L h (mL sc (some (.ref ra)) (some (.str due ud)) (some (.int seed t7)) (some (.ref D)) (some (.ref la)) o5 none none) ∧ News s.heap L h ((la, listOf (List.toArray ys) ys.length) :: (D, listOf (List.toArray ws') n') :: (I, o) :: (tA, oA) :: (ra, listOf (List.toArray ws) nr) :: (L + 1 + 1, oW) :: (L + 1, oT) :: TT2) ∧ StrsAre ys xs ∧ Lines raw xs) ?_ ?_
      · walk_at "go"
        (show Stop _)
        refine assign_comp3 (h₀ := s.heap) (L := L) (m := mL sc (some (.ref ra)) (some (.str due ud)) (some (.int seed t7)) (some (.ref D)) o4 o5 none none) (ax := D) (its := ws'.toArray) (news := (D, listOf (List.toArray ws') n') :: (I, o) :: (tA, oA) :: (ra, listOf (List.toArray ws) nr) :: (L + 1 + 1, oW) :: (L + 1, oT) :: TT2) (fun i r => raw[i]? = some r) (fun i ys news' => news' = (D, listOf (List.toArray ws') n') :: (I, o) :: (tA, oA) :: (ra, listOf (List.toArray ws) nr) :: (L + 1 + 1, oW) :: (L + 1, oT) :: TT2 ∧ ∃ xs, StrsAre ys xs ∧ Lines (raw.take i) xs) (by exact hA) (by simp; unfold sizeLine; omega) ?_ ?_ (by rfl) (by with_unfolding_all rfl) (by with_unfolding_all rfl) (by decide) (by rfl) (by decide) (by rfl) (by rfl) (by rfl) (by decide) (by rfl) (by rfl) ?_ ⟨rfl, [], .nil, .nil⟩ ?_ ?_
        · rintro i ys _ ⟨rfl, -⟩
          exact .inr ⟨_, .head _, rfl, _, rfl⟩
        · rintro i ys _ v ⟨rfl, -⟩ hv
          have hi2 : i < raw.length := by have := (Array.getElem?_eq_some_iff.1 hv).1; simp at this; omega
          obtain ⟨b, t1, t2, t3, hb, hbT⟩ := hRI2.at (List.getElem?_eq_getElem hi2)
          refine ⟨b, _, t1, t2, t3, ?_, .tail _ (.tail _ (.tail _ (.tail _ (.tail _ (.tail _ hbT))))), List.getElem?_eq_getElem hi2⟩
          simp at hv hb; rw [hv] at hb; injection hb
        · walk_at "go"
          (show Stop _)
          exact ⟨rfl, ⟨_, _, rfl⟩, F, N⟩
        · rintro i _ b r t1 t2 t3 I2 oI2 C oC D2 m₂ h tk ys _ hi8 ⟨rfl, xs, hS, hLi⟩ - rfl hbT hri hC hx1 hx2 hx3 F N off ne
          obtain ⟨ne1, ne2, ne3⟩ := ne
          have hgr := hrok r (List.mem_of_getElem? hri)
          have htl : r.2.1.length ≤ 3 := by
            rcases hgr.1 with e | ht
            · rw [e]; decide
            · rw [len_ti ht]; omega
          walk_at "go"
          (show Stop _)
          refine wp_blanks hr F N (by exact hA) (by simp only [depth_deeper]; omega) (by simp only [units_deeper]; omega) hgr.2.1.1 (by have := hgr.2.1.2; omega) hgr.2.2.1 hgr.2.2.2 ?_
          clear F N
          intro h tk x u hx hxl F N
          walk_at "go"
          (show Stop _)
          refine ⟨_, _, _, rfl, F, N, off, rfl, xs ++ [x ++ r.2.1], strs_snoc hS, ?_⟩
          rw [List.take_add_one, hri]
          exact hLi.snoc ⟨x, hx, rfl⟩
        · rintro la h tk ys _ F N off ⟨rfl, xs, hS, hLi⟩
          rw [show ws'.toArray.size = raw.length from by simp; exact hwr2, List.take_length] at hLi
          (show Stop _)
          exact ⟨_, _, _, _, xs, rfl, frMap mL_lines F, N, hS, hLi⟩
      clear F N
      rintro _ ⟨h, tk, la, ys, xs, rfl, F, N, hS, hLi⟩
      have hxl := lines_len hLi hrok
      have hxn : xs.length ≤ 30 := by rw [hLi.length]; exact hrlen
      have hsp := split_lines hLi (fun q hq => (hrok q hq).1) hrne
      have hcl : cleanS (raw.map dueS) = rs.map dueS := clean_hand (m := mar.toNat) hO hg hlast (by omega) (by rw [show ((mar.toNat : Nat) : Int) = mar from by omega]; exact hH)
      have hS4 : StrsAre ys.toArray.toList xs := by simpa using hS
      have hw3 : (xs.map (·.length)).sum + xs.length ≤ 1048576 := by
        have := weigh (ys := xs) (fun y hy => by have := hxl y hy; omega)
        omega
      have htx : (Txt.join (Str.ofString "\n") xs).length ≤ 4000 := len_join_strs hxl (by omega)
      refine cut_cons (fun s' => ∃ h tk, s' = { s with heap := h, toks := tk } ∧ Fr s.heap L h (mL sc (some (.ref ra)) (some (.str due ud)) (some (.int seed t7)) (some (.ref D)) (some (.ref la)) o5 none none) ∧ News s.heap L h ((la, listOf (List.toArray ys) ys.length) :: (D, listOf (List.toArray ws') n') :: (I, o) :: (tA, oA) :: (ra, listOf (List.toArray ws) nr) :: (L + 1 + 1, oW) :: (L + 1, oT) :: TT2)) ?_ ?_
      · refine if_cut (fun b s' => b = false ∧ ∃ h tk, s' = { s with heap := h, toks := tk } ∧ Fr s.heap L h (mL sc (some (.ref ra)) (some (.str due ud)) (some (.int seed t7)) (some (.ref D)) (some (.ref la)) o5 none none) ∧ News s.heap L h ((la, listOf (List.toArray ys) ys.length) :: (D, listOf (List.toArray ws') n') :: (I, o) :: (tA, oA) :: (ra, listOf (List.toArray ws) nr) :: (L + 1 + 1, oW) :: (L + 1, oT) :: TT2)) ?_ ?_ ?_
        · walk_at "go"
          (show Stop _)
          refine wp_clean hr F N (by exact hA) (by simp only [depth_deeper]; omega) (by simp only [units_deeper]; omega) (by omega) (by rw [hsp]; simp; omega) (by
            rw [hsp]; intro y hy
            obtain ⟨q, hq, rfl⟩ := List.mem_map.1 hy
            have := raw_len (hrok q hq)
            unfold dueS; rw [len_row]; omega) ?_
          clear F N
          intro h tk u F N
          rw [hsp, hcl, hdue]
          walk_at "go"
          (show Stop _)
          exact ⟨by simp, _, _, rfl, F, N⟩
        · rintro _ ⟨e, -⟩; cases e
        · rintro _ ⟨-, h, tk, rfl, F, N⟩
          walk_at "go"
          (show Stop _)
          exact ⟨_, _, rfl, F, N⟩
      clear F N
      rintro _ ⟨h, tk, rfl, F, N⟩
      obtain ⟨rn, hrn⟩ : ∃ rn : Nat, ws'.toArray.size = rn := ⟨_, rfl⟩
      have hrn2 : rn = raw.length := by rw [← hrn]; simp; exact hwr2
      refine wpAny_execs_cons ?_
      refine wpAny_For (wp_cut (fun v s' => ∃ r h tk t1' t2' t3', v = .ref r ∧ s' = { s with heap := h, toks := tk } ∧ Fr s.heap L h (mL sc (some (.ref ra)) (some (.str due ud)) (some (.int seed t7)) (some (.ref D)) (some (.ref la)) o5 none none) ∧ News s.heap L h ((la, listOf (List.toArray ys) ys.length) :: (D, listOf (List.toArray ws') n') :: (I, o) :: (tA, oA) :: (ra, listOf (List.toArray ws) nr) :: (L + 1 + 1, oW) :: (L + 1, oT) :: TT2) ∧ IsRange h r 0 (rn : Nat) 1 t1' t2' t3') ?_ ?_) (by intro _; rfl)
      · walk_at "go"
        (show Stop _)
        rename IsRange _ _ _ _ _ _ _ _ => hR9
        rename News _ _ _ _ => N2
        rename Fr _ _ _ _ => F2
        exact ⟨_, _, _, _, _, _, rfl, rfl, F2, N2, hR9⟩
      clear F N
      rintro _ _ ⟨r9, h, tk, t1', t2', t3', rfl, rfl, F, N, hr9⟩
      refine for_range (h₀ := s.heap) (L := L) (by exact hA) hr9 (by decide) (by decide) (by omega) (by omega) (fun i m' news' => news' = (la, listOf (List.toArray ys) ys.length) :: (D, listOf (List.toArray ws') n') :: (I, o) :: (tA, oA) :: (ra, listOf (List.toArray ws) nr) :: (L + 1 + 1, oW) :: (L + 1, oT) :: TT2 ∧ ∃ o5, m' = mL sc (some (.ref ra)) (some (.str due ud)) (some (.int seed t7)) (some (.ref D)) (some (.ref la)) o5 none none) ?_ ?_ ?_ F N ⟨rfl, o5, rfl⟩
      · rintro i m' news' ⟨rfl, -⟩ p hp
        rcases List.mem_cons.1 hp with rfl | hp
        · exact .inl (list_cls (by decide))
        rcases List.mem_cons.1 hp with rfl | hp
        · exact .inl (list_cls (by decide))
        rcases List.mem_cons.1 hp with rfl | hp
        · exact .inl (by rw [ho.1]; decide)
        rcases List.mem_cons.1 hp with rfl | hp
        · exact .inl (by rw [← hoA]; show Value.type "tuple" ≠ _; decide)
        rcases List.mem_cons.1 hp with rfl | hp
        · exact .inl (list_cls (by decide))
        rcases List.mem_cons.1 hp with rfl | hp
        · exact .inr ⟨_, hoW⟩
        rcases List.mem_cons.1 hp with rfl | hp
        · exact .inr ⟨_, hoT⟩
        · exact .inl (by rw [hTT2 p hp]; decide)
      · clear F N
        rintro I2 j h tk m' news' oI2 t5 hj ⟨rfl, o5, rfl⟩ ho2 F N
        have hj2 : j < raw.length := by omega
        obtain ⟨q, hq⟩ : ∃ q, raw[j]? = some q := ⟨_, List.getElem?_eq_getElem hj2⟩
        have hqo := hrok q (List.mem_of_getElem? hq)
        have hql := raw_len hqo
        obtain ⟨b, t1, t2, t3, hb, hbT⟩ := hRI2.at hq
        obtain ⟨x, hx, hxL⟩ := hLi.at hq
        obtain ⟨tx, hty⟩ := hS.at hx
        have hxl2 : x.length ≤ 103 := hxl x (List.mem_of_getElem? hx)
        have hix : ys.toArray[((0 : Int) + (j : Nat)).toNat]? = some (.str x tx) := by
          rw [show ((0 : Int) + (j : Nat)).toNat = j from by omega]; simpa using hty
        have hib : ws'.toArray[((0 : Int) + (j : Nat)).toNat]? = some (.ref b) := by
          rw [show ((0 : Int) + (j : Nat)).toNat = j from by omega]; simpa using hb
        have hmN : (b, tupO q t1 t2 t3) ∈ (I2, oI2) :: (la, listOf (List.toArray ys) ys.length) :: (D, listOf (List.toArray ws') n') :: (I, o) :: (tA, oA) :: (ra, listOf (List.toArray ws) nr) :: (L + 1 + 1, oW) :: (L + 1, oT) :: TT2 := by simp [hbT]
        refine wpAny_pure ?_
        refine wpAny_assign_Name ?_
        refine wp_cut (fun _ s' => ∃ h tk, s' = { s with heap := h, toks := tk } ∧ Fr s.heap L h (mL sc (some (.ref ra)) (some (.str due ud)) (some (.int seed t7)) (some (.ref D)) (some (.ref la)) (some (.int (0 + (j : Nat)) t5)) none none) ∧ News s.heap L h ((I2, oI2) :: (la, listOf (List.toArray ys) ys.length) :: (D, listOf (List.toArray ws') n') :: (I, o) :: (tA, oA) :: (ra, listOf (List.toArray ws) nr) :: (L + 1 + 1, oW) :: (L + 1, oT) :: TT2)) ?_ ?_
        · walk_at "go"
          (show Stop _)
          rename Fr _ _ _ _ => F2
          rename News _ _ _ _ => N2
          exact ⟨_, _, rfl, frMap mL_k F2, N2⟩
        clear F N
        rintro _ _ ⟨h, tk, rfl, F, N⟩
        refine wpAny_execs_cons ?_
        refine if_cut (fun b s' => b = false ∧ ∃ h tk, s' = { s with heap := h, toks := tk } ∧ Fr s.heap L h (mL sc (some (.ref ra)) (some (.str due ud)) (some (.int seed t7)) (some (.ref D)) (some (.ref la)) (some (.int (0 + (j : Nat)) t5)) none none) ∧ News s.heap L h ((I2, oI2) :: (la, listOf (List.toArray ys) ys.length) :: (D, listOf (List.toArray ws') n') :: (I, o) :: (tA, oA) :: (ra, listOf (List.toArray ws) nr) :: (L + 1 + 1, oW) :: (L + 1, oT) :: TT2)) ?_ ?_ ?_
        · walk_at "go"
          (show Stop _)
          refine wp_indent hr F N (by exact hA) (by simp only [depth_deeper]; omega) (by simp only [units_deeper]; omega) (by omega) ?_
          clear F N
          intro h tk u F N
          rw [indent_line hxL hqo.1 hqo.2.1.1]
          walk_at "go"
          (show Stop _)
          refine wp_lead hr F N (by exact hA) (by simp only [depth_deeper]; omega) (by simp only [units_deeper]; omega) (by omega) ?_
          clear F N
          intro h tk u2 F N
          walk_at "go"
          (show Stop _)
          exact ⟨by simp [cpl], _, _, rfl, F, N⟩
        · rintro _ ⟨e, -⟩; cases e
        · rintro _ ⟨-, h, tk, rfl, F, N⟩
          walk_at "go"
          (show Stop _)
          exact ⟨_, _, _, _, rfl, F, N, rfl, _, rfl⟩
      · clear F N
        rintro h tk m' news' ⟨rfl, o5, rfl⟩ F N
        walk_at "go"
        (show Stop _)
        subst hoA
        refine ⟨_, _, _, _, rfl, F, fun p hp => N p ?_, rfl, _, _, _, _, rfl⟩
        simp only [List.mem_cons] at hp ⊢
        rcases hp with h | h | h | h | h | h
        all_goals first | (have h := hsub p h; simp [h]) | simp [h]
    · clear F N
      rintro h tk m' news' ⟨rfl, o2, o3, o4, o5, rfl⟩ F N
      (show Stop _)
      exact ⟨_, _, _, _, _, _, rfl, F, fun p hp => N p (by simp only [List.mem_cons] at hp ⊢; rcases hp with h | h | h <;> simp_all)⟩
  clear F N
  rintro _ ⟨h, tk, o2, o3, o4, o5, rfl, F, N⟩
  -- the text of blanks
  have hns9 : (ns.take 9).length ≤ 9 := by simp; omega
  refine cut_cons (fun s' => ∃ h tk oW wa ys nw, s' = { s with heap := h, toks := tk } ∧ Fr s.heap L h (mL sc (some (.ref ra)) (some (.str due ud)) o2 o3 o4 o5 none none) ∧ News s.heap L h [(wa, listOf (List.toArray ys) nw), (L + 1 + 1, oW), (L + 1, oT)] ∧ oW.data = .cell (some (.ref wa)) ∧ IntsAre ys ((ns.take 9).map (fun x => x.fmod 4 * 5))) ?_ ?_
  · walk_at "go"
    (show Stop _)
    refine wpAny_Assign_Name (listComp_S (F₀ := F) (by with_unfolding_all rfl) (by decide) (by rfl) (by decide) (by rfl) ?_) (by with_unfolding_all rfl)
    walk_at "go"
    (show Stop _)
    rename Fr _ _ _ _ => F2
    rename (∀ p ∈ [(_, oW), _], p.1 < _) => l1
    rename IntsAre _ _ => hI9
    rename News _ _ _ _ => N2
    rename Addr => D9
    refine src_list (ax := D9) (its := (List.take (Int.toNat 9) vs).toArray) (by exact hA) F2 N2 (by simp; have := hi.length; omega) (fun i ys news' => news' = [(D9, listOf (List.take (Int.toNat 9) vs).toArray 0), (L + 1 + 1, oW), (L + 1, oT)] ∧ IntsAre ys (((ns.take 9).take i).map (fun x => x.fmod 4 * 5))) ⟨rfl, .nil⟩ ?_ ?_ ?_
    · rintro i ys _ ⟨rfl, -⟩
      exact .inr ⟨_, .head _, rfl, _, rfl⟩
    · clear F N F2 N2
      rintro i v I oI C oC E m₂ h tk ys _ hi8 ⟨rfl, hys⟩ hv hC hx F N off ne
      obtain ⟨ne1, ne2, ne3⟩ := ne
      obtain ⟨x, tx, rfl, hx9⟩ := ints_at hI9 (i := i) (v := v) (by simpa using hv)
      have hx9 : (ns.take 9)[i]? = some x := hx9
      have hx4 : 0 ≤ x.fmod 4 ∧ x.fmod 4 < 4 := ⟨Int.fmod_nonneg_of_pos _ (by decide), Int.fmod_lt_of_pos _ (by decide)⟩
      walk_at "go"
      (show Stop _)
      refine ⟨_, _, _, rfl, F, N, off, rfl, ?_⟩
      rw [List.take_add_one, hx9]
      simpa using ints_snoc hys
    · rintro ys _ E h tk ⟨rfl, hys⟩ F N off
      replace N : News s.heap L h [(E, listOf ys.toArray ys.length), (D9, listOf (List.take (Int.toNat 9) vs).toArray 0), (L + 1 + 1, oW), (L + 1, oT)] := N
      have hEW : @Ne Nat E (L + 1 + 1) := Ne.symm (off _ (.tail _ (.head _)))
      have hET : @Ne Nat E (L + 1) := Ne.symm (off _ (.tail _ (.tail _ (.head _))))
      have hDW : @Ne Nat D9 (L + 1 + 1) := Nat.ne_of_gt (l1 _ (.head _))
      have hDT : @Ne Nat D9 (L + 1) := Nat.ne_of_gt (l1 _ (.tail _ (.head _)))
      walk_at "go"
      (show Stop _)
      rename Fr _ _ _ _ => F3
      rename News _ _ _ _ => N3
      rename (Obj.data _ = _) => d3
      refine ⟨_, _, _, E, ys, _, rfl, F3, news_skip2 N3, d3, ?_⟩
      · have e9 : (List.take (Int.toNat 9) vs).toArray.size = (ns.take 9).length := by
          have := hI9.length; simp at this ⊢; omega
        rw [e9, List.take_length] at hys
        exact hys
  clear F N hoW
  rintro _ ⟨h, tk, oW, wa, wys, nw, rfl, F, N, hoW, hwi⟩
  have hwb : ∀ x ∈ (ns.take 9).map (fun x => x.fmod 4 * 5), 0 ≤ x ∧ x ≤ 15 := by
    intro x hx
    obtain ⟨y, -, rfl⟩ := List.mem_map.1 hx
    have h1 := Int.fmod_nonneg_of_pos y (b := 4) (by decide)
    have h2 := Int.fmod_lt_of_pos y (b := 4) (by decide)
    exact ⟨by show 0 ≤ y.fmod 4 * 5; omega, by show y.fmod 4 * 5 ≤ 15; omega⟩
  have hwn : ((ns.take 9).map (fun x => x.fmod 4 * 5)).length ≤ 9 := by simp; omega
  revert hwb hwn hwi
  generalize (ns.take 9).map (fun x => x.fmod 4 * 5) = wds
  intro hwi hwb hwn
  have hwg : ∀ j : Nat, 0 ≤ wds.getD j 0 ∧ wds.getD j 0 ≤ 15 := by
    intro j
    by_cases hj : j < wds.length
    · simpa [List.getD, List.getElem?_eq_getElem hj] using hwb _ (List.getElem_mem hj)
    · simp [List.getD, List.getElem?_eq_none (Nat.le_of_not_lt hj)]
  obtain ⟨wn, hwsz⟩ : ∃ wn : Nat, wys.toArray.size = wn := ⟨_, rfl⟩
  have hwn2 : wn = wds.length := by rw [← hwsz]; simp; exact hwi.length
  refine cut_cons (fun s' => ∃ h tk sa ys nk ks, s' = { s with heap := h, toks := tk } ∧ Fr s.heap L h (mL sc (some (.ref ra)) (some (.str due ud)) o2 o3 o4 o5 (some (.ref sa)) none) ∧ News s.heap L h [(sa, listOf (List.toArray ys) nk), (wa, listOf (List.toArray wys) nw), (L + 1 + 1, oW), (L + 1, oT)] ∧ IntsAre ys ks ∧ SomeI wds (wds.length - 1) ks) ?_ ?_
  · walk_at "go"
    (show Stop _)
    refine assign_compT_S (F₀ := F) (by rfl) (by with_unfolding_all rfl) (by with_unfolding_all rfl) (by decide) (by rfl) (by decide) (by rfl) (by rfl) (by rfl) ?_
    walk_at "go"
    (show Stop _)
    rename IsRange _ _ _ _ _ _ _ _ => hR9
    rename Fr _ _ _ _ => F2
    rename (∀ b o, _ → _) => hk9
    rename News _ _ _ _ => N2
    clear hk9
    have e9 : ((wn : Int) - 1).toNat = wds.length - 1 := by omega
    refine srcT_range (by exact hA) F2 N2 hR9 (by decide) (by decide) (by omega) (by omega) (fun i ys news' => news' = [(wa, listOf (List.toArray wys) nw), (L + 1 + 1, oW), (L + 1, oT)] ∧ ∃ ks, IntsAre ys ks ∧ SomeI wds i ks) ⟨rfl, [], .nil, .zero _⟩ ?_ ?_
    · clear F2 N2
      rintro i _ I oI C oC E m₂ h tk ys _ hi8 ⟨rfl, ks, hys, hks⟩ ⟨ti, rfl⟩ hC hx F N off ne
      obtain ⟨ne1, ne2, ne3⟩ := ne
      have hi7 : 1 + i < wds.length := by omega
      obtain ⟨tw, hw9⟩ := ints_get hwi hi7
      have hix : wys.toArray[((1 : Int) + (i : Nat)).toNat]? = some (.int (wds.getD (1 + i) 0) tw) := by
        rw [show ((1 : Int) + (i : Nat)).toNat = 1 + i from by omega]; simpa using hw9
      have hwx := hwg (1 + i)
      refine wp_cut (fun ok s' => (ok = true ↔ 0 < wds.getD (1 + i) 0) ∧ ∃ tk, s' = { s with heap := h, toks := tk }) ?_ ?_
      · walk_at "go"
        (show Stop _)
        rw [show ((1 : Int) + (i : Nat)).toNat = 1 + i from by omega]
        exact ⟨by simp, _, rfl⟩
      · rintro ok _ ⟨hok, tk, rfl⟩
        split
        · rename_i e
          walk_at "go"
          (show Stop _)
          exact ⟨_, _, _, rfl, F, N, off, rfl, _, ints_snoc hys, hks.take (hok.1 e)⟩
        · rename_i e
          (show Stop _)
          exact ⟨_, _, _, rfl, F, N, off, rfl, _, hys, hks.skip (fun h0 => e (hok.2 h0))⟩
    · rintro ys _ E h tk ⟨rfl, ks, hys, hks⟩ F N off
      (show Stop _)
      rw [e9] at hks
      exact ⟨_, _, E, ys, _, ks, rfl, frMap mL_some F, N, hys, hks⟩
  clear F N
  rintro _ ⟨h, tk, sa, sys, nk, ks, rfl, F, N, hsi, hks⟩
  have hkl : ks.length ≤ 1000 := by
    have h1 := pw_len hks.2.2 (fun k hk => by have := hks.1 k hk; exact ⟨this.1, by have := this.2.1; omega⟩) (n := 1000)
    exact h1
  refine cut_cons (fun s' => ∃ h tk fa ys nf left, s' = { s with heap := h, toks := tk } ∧ Fr s.heap L h (mL sc (some (.ref ra)) (some (.str due ud)) o2 o3 o4 o5 (some (.ref sa)) (some (.ref fa))) ∧ News s.heap L h [(fa, listOf (List.toArray ys) nf), (wa, listOf (List.toArray wys) nw), (L + 1 + 1, oW), (L + 1, oT)] ∧ StrsAre ys left ∧ LeftR wds ks left) ?_ ?_
  · by_cases hke : ks = []
    · subst hke
      cases hsi
      walk_at "go"
      (show Stop _)
      rename Fr _ _ _ _ => F2
      rename News _ _ _ _ => N2
      exact ⟨_, _, _, [], _, [], rfl, frMap mL_left F2, news_pick6 N2, .nil, .inl ⟨rfl, rfl⟩⟩
    · obtain ⟨a, ks1, hka⟩ : ∃ a ks1, ks = a :: ks1 := by cases ks with | nil => exact absurd rfl hke | cons a l => exact ⟨a, l, rfl⟩
      obtain ⟨si, ki, b, tb, hsb, hkb, hsb'⟩ := ints_snoc_inv hsi hke
      have ha := hks.1 a (by rw [hka]; exact .head _)
      have hb := hks.1 b (by rw [hkb]; simp)
      have hab : a ≤ b := pw_head (hka ▸ hks.2.2) b (by rw [← hka, hkb]; simp)
      obtain ⟨ta, hta⟩ := ints_get hsi (i := 0) (by rw [hka]; simp)
      rw [show ks.getD 0 0 = a from by rw [hka]; rfl] at hta
      subst hsb
      have hx0 : (si ++ [Value.int b tb]).toArray[Int.toNat 0]? = some (.int a ta) := by simpa using hta
      walk_at "go"
      (show Stop _)
      rename Fr _ _ _ _ => F2
      rename News _ _ _ _ => N2
      rename Addr => D9
      refine listComp_S (F₀ := F2) (by with_unfolding_all rfl) (by decide) (by rfl) (by decide) (by rfl) ?_
      walk_at "go"
      (show Stop _)
      rename IsRange _ _ _ _ _ _ _ _ => hR9
      rename Fr _ _ _ _ => F3
      rename (∀ b o, _ → _) => hk9
      rename News _ _ _ _ => N3
      clear hk9
      refine src_range (by exact hA) F3 N3 hR9 (by omega) (by omega) (by omega) (by omega) (fun i ys news' => news' = [(D9, listOf #[] 0), (sa, listOf (List.toArray (si ++ [Value.int b tb])) nk), (wa, listOf (List.toArray wys) nw), (L + 1 + 1, oW), (L + 1, oT)] ∧ StrsAre ys ((List.range i).map (fun j => blS (wds.getD (a.toNat + j) 0)))) ⟨rfl, .nil⟩ ?_ ?_
      · clear F3 N3
        rintro i _ I oI C oC E m₂ h tk ys _ hi8 ⟨rfl, hys⟩ ⟨ti, rfl⟩ hC hx F N off ne
        obtain ⟨ne1, ne2, ne3⟩ := ne
        have hi7 : a.toNat + i < wds.length := by omega
        obtain ⟨tw, hw9⟩ := ints_get hwi hi7
        have hix : wys.toArray[(a + (i : Nat)).toNat]? = some (.int (wds.getD (a.toNat + i) 0) tw) := by
          rw [show (a + (i : Nat)).toNat = a.toNat + i from by omega]; simpa using hw9
        have hwx := hwg (a + (i : Nat)).toNat
        walk_at "go"
        (show Stop _)
        refine ⟨_, _, _, rfl, F, N, off, rfl, ?_⟩
        rw [List.range_succ, List.map_append, bl_mul, show (a + (i : Nat)).toNat = a.toNat + i from by omega]
        exact strs_snoc hys
      · rintro ys _ E h tk ⟨rfl, hys⟩ F N off
        walk_at "go"
        (show Stop _)
        rename Fr _ _ _ _ => F4
        rename News _ _ _ _ => N4
        exact ⟨_, _, E, ys, _, _, rfl, frMap mL_left F4, news_pick6 N4, hys, .inr ⟨a, b, ks1, ki, hka, hkb, rfl⟩⟩
  clear F N
  rintro _ ⟨h, tk, fa, fys, nf, left, rfl, F, N, hfi, hLR⟩
  refine cut_cons (fun s' => ∃ h tk news, s' = { s with heap := h, toks := tk } ∧ Fr s.heap L h (mL sc (some (.ref ra)) (some (.str due ud)) o2 o3 o4 o5 (some (.ref sa)) (some (.ref fa))) ∧ News s.heap L h news) ?_ ?_
  · refine if_cut (fun b s' => b = false ∧ ∃ h tk news, s' = { s with heap := h, toks := tk } ∧ Fr s.heap L h (mL sc (some (.ref ra)) (some (.str due ud)) o2 o3 o4 o5 (some (.ref sa)) (some (.ref fa))) ∧ News s.heap L h news) ?_ ?_ ?_
    · walk_at "go"
      (show Stop _)
      refine listComp_S (F₀ := F) (by with_unfolding_all rfl) (by decide) (by rfl) (by decide) (by rfl) ?_
      walk_at "go"
      (show Stop _)
      refine src_list (ax := wa) (its := wys.toArray) (by exact hA) F N (by omega) (fun i ys news' => news' = [(fa, listOf (List.toArray fys) nf), (wa, listOf (List.toArray wys) nw), (L + 1 + 1, oW), (L + 1, oT)] ∧ ∃ xs, StrsAre ys xs ∧ Lines ((wds.take i).map blR) xs) ⟨rfl, [], .nil, .nil⟩ ?_ ?_ ?_
      · rintro i ys _ ⟨rfl, -⟩
        exact .inr ⟨_, .tail _ (.head _), rfl, _, rfl⟩
      · clear F N
        rintro i v I oI C oC E m₂ h tk ys _ hi8 ⟨rfl, xs, hys, hxs⟩ hv hC hx F N off ne
        obtain ⟨ne1, ne2, ne3⟩ := ne
        obtain ⟨x, tx, rfl, hx9⟩ := ints_at hwi (i := i) (v := v) (by simpa using hv)
        have hxb := hwb x (List.mem_of_getElem? hx9)
        walk_at "go"
        (show Stop _)
        refine wp_blanks hr F N (by exact hA) (by simp only [depth_deeper]; omega) (by simp only [units_deeper]; omega) hxb.1 (by omega) ht0 (by omega) ?_
        clear F N
        intro h tk y u hy hyl F N
        walk_at "go"
        (show Stop _)
        refine ⟨_, _, _, rfl, F, N, off, rfl, xs ++ [y], strs_snoc hys, ?_⟩
        rw [List.take_add_one, hx9, List.map_append]
        exact hxs.snoc (bl_line hy)
      · rintro ys _ E h tk ⟨rfl, xs, hys, hxs⟩ F N off
        rw [show wys.toArray.size = wds.length from by rw [hwsz]; exact hwn2, List.take_length] at hxs
        replace N : News s.heap L h ((E, listOf ys.toArray ys.length) :: [(fa, listOf (List.toArray fys) nf), (wa, listOf (List.toArray wys) nw), (L + 1 + 1, oW), (L + 1, oT)]) := N
        have hbok : ∀ q ∈ wds.map blR, RawOk q := fun q hq => by
          obtain ⟨x, hx, rfl⟩ := List.mem_map.1 hq
          exact blR_ok (hwb x hx)
        have hxl := lines_len hxs hbok
        have hxn : xs.length ≤ 9 := by rw [hxs.length]; simpa using hwn
        have hS4 : StrsAre ys.toArray.toList xs := by simpa using hys
        have hw3 : (xs.map (·.length)).sum + xs.length ≤ 1048576 := by
          have := weigh (ys := xs) (fun y hy => by have := hxl y hy; omega)
          omega
        have htx : (Txt.join (Str.ofString "\n") xs).length ≤ 4000 := len_join_strs hxl (by omega)
        have hsp := blank_split hxs hbok (by simp; omega)
        obtain ⟨hll, hln⟩ := left_small hks hLR hwg hwn
        have hS5 : StrsAre fys.toArray.toList left := by simpa using hfi
        have hw5 : (left.map (·.length)).sum + left.length ≤ 1048576 := by
          have := weigh (ys := left) (fun y hy => by have := hll y hy; omega)
          omega
        walk_at "go"
        (show Stop _)
        refine wp_clean hr F N (by exact hA) (by simp only [depth_deeper]; omega) (by simp only [units_deeper]; omega) (by omega) hsp.1 hsp.2 ?_
        clear F N
        intro h tk u F N
        rw [blank_law hxs hks hLR]
        walk_at "go"
        (show Stop _)
        exact ⟨by simp, _, _, _, rfl, F, N⟩
    · rintro _ ⟨e, -⟩; cases e
    · rintro _ ⟨-, h, tk, news, rfl, F, N⟩
      walk_at "go"
      (show Stop _)
      exact ⟨_, _, _, rfl, F, N⟩
  clear F N
  rintro _ ⟨h, tk, news, rfl, F, N⟩
  have hsp : Txt.split (exT due) (Str.ofString "\n") = rs.map dueS := by
    rw [← hdue]
    refine split_lines (due_lines rs) (fun q hq => good_tio (hg q hq)) ?_
    obtain ⟨x0, rest, e, _⟩ := hO
    rw [e]; simp
  have hcl : cleanS (rs.map dueS) = rs.map dueS := clean_hand (m := 0) hO hg hlast (by decide) (hand_self hO hg)
  walk_at "go"
  (show Stop _)
  refine wp_clean hr F N (by exact hA) (by simp only [depth_deeper]; omega) (by simp only [units_deeper]; omega) (by omega) (by rw [hsp]; simp; omega) (by
    rw [hsp]; intro y hy
    obtain ⟨q, hq, rfl⟩ := List.mem_map.1 hy
    have := hdl q hq; omega) ?_
  clear F N
  intro h tk u F N
  rw [hsp, hcl, hdue]
  walk_at "go"
  (show Stop _)
  rw [show (due == due) = true from by simp]
  exact hR _ _ F.keep
end Mine
end
open PySem PySem.W PyProof.Rows
set_option maxRecDepth 100000 in
set_option maxHeartbeats 8000000 in
theorem PySem.Challenge.cw_lg0024_01_holds : PySem.Challenge.rw_lg0024_01.Holds := by
  refine Mine.hd ?_
  k_fill
  intro w s₀ s₁ mg mb G Y fa o pm cd doc dV kV ho hd hcd hD hmg hg args vals as hpre hlay hrd hwl hlo
  have KX := kIn_of Y
  have X := (Ground.X G).1
  have V := (Ground.X G).2
  refine Ground.open G ?_
  intro T B D TE TW
  try (refine guard_noD D (by decide +kernel) ?_; clear D)
  wrow_args hpre hlay hrd hwl hlo
  all_goals (first | refine callC_kw (enter_call ?_) | refine enter_call ?_ | refine callC_kw (enter_callW ?_) | refine enter_callW ?_ | w_how)
  all_goals try refine codeAny_mono ?_ (fun _ _ g => GoodW.toG g)
  all_goals clear hd hcd hD
  have e66 : mg (Str.ofString "law") = some (.ref 66) := mg_of KX T.g (by k_is)
  have e67 : some (Value.ref 66) = some (Value.ref fa) := e66.symm.trans hmg
  have e68 : 66 = fa := by injection e67 with e; injection e
  subst e68
  refine Mine.law_call ⟨KX, T⟩ rfl (by decide) (by decide) (by assumption) (by assumption) (by omega) fun h' tk hk => ?_
  refine ⟨.inl ⟨.bool true, .bool true, [], rfl, ?_, .bool true, ?_, unshared_nil⟩, hk, rfl, hg⟩
  · first | wrow_none_raised | (intro cls; rfl)
  · first | wrow_post | rfl
